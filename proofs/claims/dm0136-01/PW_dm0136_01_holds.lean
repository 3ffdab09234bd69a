import PyProof.Rows.All
import Wide.All
import OpenK.AllK
import Wide.FinOn
import Lean
import PySem.Challenge.RW_dm0136_01
set_option Elab.async false
set_option maxHeartbeats 8000000

/-! part F1 -/
set_option autoImplicit false
set_option maxRecDepth 100000
open PySem PySem.W PyProof.Rows
namespace Mine

/-- plain values: what a program's value is, without tokens and addresses; a list is a place in the store -/
inductive V where
  | none
  | bool (b : Bool)
  | int (i : Int)
  | str (x : Str)
  | tup (vs : List V)
  | obj (l : Nat)
  | fn (x : String)
  | rng (a b c : Int)
  deriving Inhabited

inductive Cel where
  | lst (vs : List V)
  deriving Inhabited

noncomputable abbrev Store := List Cel

structure Exc where
  cls : String
  msg : Str

/-- the state that a frame's code sees: the store and the frame's names -/
structure S where
  st : Store
  lo : String → Option V

inductive Res (σ α : Type) where
  | ok (a : α) (s : σ)
  | exc (e : Exc) (s : σ)
  | stuck

noncomputable abbrev M (α : Type) := S → Res S α

namespace M
variable {α β : Type}
@[simp] noncomputable def pure (a : α) : M α := fun σ => .ok a σ
@[simp] noncomputable def bind (m : M α) (f : α → M β) : M β := fun σ => match m σ with
  | .ok a σ' => f a σ'
  | .exc e σ' => .exc e σ'
  | .stuck => .stuck
noncomputable instance : Monad M where
  pure := M.pure
  bind := M.bind
theorem bind_def (m : M α) (f : α → M β) (σ : S) : (m >>= f) σ = (match m σ with
  | .ok a σ' => f a σ'
  | .exc e σ' => .exc e σ'
  | .stuck => .stuck) := rfl
theorem bind_ok {m : M α} {f : α → M β} {σ σ' : S} {a : α} (h : m σ = .ok a σ') : (m >>= f) σ = f a σ' := by rw [bind_def, h]
end M
noncomputable def stuck {α : Type} : M α := fun _ => .stuck

/-- what stands around all frames -/
structure Glo where
  prog : Program
  w : World
  p : Program
  loose : List Str
  mean : ExcName → Option Value
  mg : Str → Option Value
  mb : Str → Option Value
  base : Heap
  os : OsState
  top : Top p loose mean mg mb base

mutual
noncomputable def Rep (K : Glo) (h : Heap) (ρ : List Addr) : V → Value → Prop
  | .none, w => w = .none
  | .bool b, w => w = .bool b
  | .int i, w => ∃ t, w = .int i t
  | .str x, w => ∃ t, w = .str x t
  | .tup vs, w => vs.length ≤ 1000000 ∧ ∃ a ws, w = .ref a ∧ IsTup h a ws.toArray ∧ RepL K h ρ vs ws
  | .obj l, w => ∃ a, ρ[l]? = some a ∧ w = .ref a
  | .fn x, w => K.mg (Str.ofString x) = some w ∧ ∃ a, w = .ref a
  | .rng a b c, w => ∃ r t u v, w = .ref r ∧ IsRange h r a b c t u v
noncomputable def RepL (K : Glo) (h : Heap) (ρ : List Addr) : List V → List Value → Prop
  | [], ws => ws = []
  | v :: vs, ws => ∃ x r, ws = x :: r ∧ Rep K h ρ v x ∧ RepL K h ρ vs r
end

noncomputable def CelRep (K : Glo) (h : Heap) (ρ : List Addr) : Cel → Addr → Prop
  | .lst vs, a => vs.length ≤ 1000000 ∧ ∃ ws n, IsL h a ws.toArray n ∧ RepL K h ρ vs ws

structure GRel (K : Glo) (st : Store) (ρ : List Addr) (s : Shared) : Prop where
  gens : s.gens = #[]
  os : s.os = K.os
  base : ∀ b o, K.base.get? b = some o → s.heap.get? b = some o
  len : ρ.length = st.length
  cell : ∀ (l : Nat) (a : Addr) (c : Cel), ρ[l]? = some a → st[l]? = some c → CelRep K s.heap ρ c a
  nodup : ρ.Nodup
  above : ∀ (l : Nat) (a : Addr), ρ[l]? = some a → l ≠ 0 → K.base.get? a = none

/-- what a frame's object may become: a namespace (a frame) may get slots, nothing else turns -/
noncomputable def Like (o o' : Obj) : Prop := o' = o ∨ (∃ es n, o.data = .dict es n) ∧ ∃ sl, o' = { o with slots := sl }
theorem Like.refl (o : Obj) : Like o o := .inl rfl
theorem Like.trans {o o₁ o₂ : Obj} (x : Like o o₁) (y : Like o₁ o₂) : Like o o₂ := by
  rcases x with rfl | ⟨d, sl, rfl⟩
  · exact y
  · rcases y with rfl | ⟨_, sl', rfl⟩
    · exact .inr ⟨d, sl, rfl⟩
    · exact .inr ⟨d, sl', rfl⟩
theorem Like.same {o o' : Obj} (x : Like o o') (hd : ∀ es n, o.data ≠ .dict es n) : o' = o := by
  rcases x with rfl | ⟨⟨es, n, d⟩, _⟩
  · rfl
  · exact absurd d (hd es n)
theorem Like.data {o o' : Obj} (x : Like o o') : o'.data = o.data ∧ o'.cls = o.cls ∧ o'.dict = o.dict := by
  rcases x with rfl | ⟨_, sl, rfl⟩ <;> exact ⟨rfl, rfl, rfl⟩
noncomputable def Froz (o : Obj) : Prop := (o.cls = .type "tuple" ∧ ∃ xs n, o.data = .seq xs n) ∨ (o.cls = .type "range" ∧ ∃ vs, o.data = .fields vs)

structure Ext (mine ρ ρ' : List Addr) (h h' : Heap) : Prop where
  pre : ρ <+: ρ'
  alive : ∀ b o, h.get? b = some o → ∃ o', h'.get? b = some o'
  new : ∀ a ∈ ρ', a ∈ ρ ∨ h.get? a = none
  keep : ∀ b o, h.get? b = some o → b ∉ ρ → b ∉ mine → ∃ o', h'.get? b = some o' ∧ Like o o'
  froz : ∀ b o, h.get? b = some o → Froz o → h'.get? b = some o

structure Frm where
  env : Env
  A : Around
  mine : List Addr
  nh : Bool := true

noncomputable def VarAt (env : Env) (h : Heap) (x : Str) (w : Value) : Prop :=
  (env.kindOf x = some .local ∧ ∃ m, h.Ns env.locals m ∧ m x = some w) ∨
  ((env.kindOf x = some .cell ∨ env.kindOf x = some .free) ∧ ∃ c, env.cells.lookup x = some c ∧ h.IsCell c (some w))

/-- the frames on the stack lie in the heap -/
noncomputable def FramesOk (K : Glo) (h : Heap) (l : List Env) : Prop := ∀ env ∈ l, env.scope.kind ≠ .module ∧ ∃ L o es n, env.frame = some L ∧ K.base.get? L = none ∧ h.get? L = some o ∧ o.data = .dict es n
noncomputable def FrsOk (K : Glo) (F : Frm) (h : Heap) : Prop := ∃ env₀ outer, F.A.frames = some (env₀ :: outer) ∧ env₀.frame = F.env.frame ∧ FramesOk K h (env₀ :: outer)
theorem FramesOk.next {K : Glo} {h h' : Heap} {l : List Env} (x : FramesOk K h l) (d : ∀ b o es n, (∃ env ∈ l, env.frame = some b) → h.get? b = some o → o.data = .dict es n → ∃ o' es' n', h'.get? b = some o' ∧ o'.data = .dict es' n') : FramesOk K h' l := by
  intro env he
  obtain ⟨k, L, o, es, n, f, b, g, dd⟩ := x env he
  obtain ⟨o', es', n', g', d'⟩ := d L o es n ⟨env, he, f⟩ g dd
  exact ⟨k, L, o', es', n', f, b, g', d'⟩
theorem FrsOk.next {K : Glo} {F : Frm} {h h' : Heap} (x : FrsOk K F h) (d : ∀ b o es n, h.get? b = some o → o.data = .dict es n → ∃ o' es' n', h'.get? b = some o' ∧ o'.data = .dict es' n') : FrsOk K F h' := by
  obtain ⟨e, l, a1, a2, a3⟩ := x
  exact ⟨e, l, a1, a2, a3.next fun b o es n _ => d b o es n⟩
theorem FrsOk.kept {K : Glo} {F : Frm} {h h' : Heap} (x : FrsOk K F h) (hk : ∀ b o, h.get? b = some o → h'.get? b = some o) : FrsOk K F h' := x.next fun b o es n g d => ⟨o, es, n, hk b o g, d⟩

structure Rel (K : Glo) (F : Frm) (σ : S) (ρ : List Addr) (s : Shared) : Prop extends GRel K σ.st ρ s where
  vars : ∀ x v, σ.lo x = some v → ∃ w, VarAt F.env s.heap (Str.ofString x) w ∧ Rep K s.heap ρ v w
  loc : ∃ m, s.heap.Ns F.env.locals m
  cels : ∀ x c, F.env.cells.lookup x = some c → ∃ v, s.heap.IsCell c v
  mineAbove : ∀ a ∈ F.mine, K.base.get? a = none ∧ ∃ o, s.heap.get? a = some o
  mineApart : ∀ a ∈ F.mine, a ∉ ρ
  mineLoc : F.env.locals ∈ F.mine
  frs : FrsOk K F s.heap

/-- an exception's own objects: itself, the head of its trace; n: a frame has noted it; P: what its flight mark may be -/
noncomputable def XObj (n : Bool) (P : Value → Prop) (e : Exc) (X : List Addr) (v : Value) (h : Heap) : Prop := e.cls ≠ "range" ∧ ∃ a t tok oe vs, v = .ref a ∧ a ∈ X ∧ IsTup h t #[.str e.msg tok] ∧
  h.get? a = some oe ∧ oe.cls = .type e.cls ∧ oe.data = .fields vs ∧ vs[0]? = some (.ref t) ∧
  ((n = false ∧ vs[1]? = some .none) ∨ ∃ T oT ts fl, T ∈ X ∧ T ≠ a ∧ vs[1]? = some (.ref T) ∧ h.get? T = some oT ∧ oT.data = .fields ts ∧ oT.cls = .type "traceback" ∧ ts[3]? = some fl ∧ P fl)
noncomputable def FlF (F : Frm) (fl : Value) : Prop := fl = .none ∨ ∃ L, F.env.frame = some L ∧ fl = rawInt L
/-- an exception on its way, seen from frame F, made since h₀ -/
noncomputable def XRepB (n : Bool) (K : Glo) (F : Frm) (e : Exc) (h₀ : Heap) (v : Value) (s : Shared) : Prop := ∃ X, (∀ b ∈ X, h₀.get? b = none) ∧ (∀ b ∈ X, K.base.get? b = none ∧ b ∉ F.mine) ∧ XObj n (FlF F) e X v s.heap
noncomputable abbrev XRep (K : Glo) (F : Frm) (e : Exc) (h₀ : Heap) (v : Value) (s : Shared) : Prop := XRepB false K F e h₀ v s
noncomputable abbrev XRepN (K : Glo) (F : Frm) (e : Exc) (h₀ : Heap) (v : Value) (s : Shared) : Prop := XRepB true K F e h₀ v s
theorem XRepB.x {n : Bool} {K : Glo} {F : Frm} {e : Exc} {h₀ : Heap} {v : Value} {s : Shared} (x : XRepB n K F e h₀ v s) : XRep K F e h₀ v s := by
  obtain ⟨X, f, g, h0, a, t, tok, oe, vs, h1, h2, h4, h5, h6, h7, h8, h9⟩ := x
  refine ⟨X, f, g, h0, a, t, tok, oe, vs, h1, h2, h4, h5, h6, h7, h8, ?_⟩
  rcases h9 with ⟨_, h⟩ | h
  · exact .inl ⟨rfl, h⟩
  · exact .inr h

/-- from s, t does what the outcome tells -/
noncomputable def Run {α β : Type} (K : Glo) (F : Frm) (t : Sem α) (R : Heap → List Addr → β → α → Prop) (out : Res S β) (ρ : List Addr) (s : Shared) : Prop :=
  match out with
  | .stuck => True
  | .ok b σ' => wpAny (model K.prog K.w) F.A t (fun a s' => ∃ ρ', Rel K F σ' ρ' s' ∧ Ext F.mine ρ ρ' s.heap s'.heap ∧ R s'.heap ρ' b a) (fun _ _ => False) s
  | .exc e σ' => wpAny (model K.prog K.w) F.A t (fun _ _ => False) (fun v s' => ∃ ρ', Rel K F σ' ρ' s' ∧ Ext F.mine ρ ρ' s.heap s'.heap ∧ XRep K F e s.heap v s') s

/-! ### Rep and Ext -/

theorem Ext.refl (mine ρ : List Addr) (h : Heap) : Ext mine ρ ρ h h :=
  ⟨List.prefix_refl _, fun _ o e => ⟨o, e⟩, fun _ ha => .inl ha, fun _ o e _ _ => ⟨o, e, .refl _⟩, fun _ _ e _ => e⟩

theorem Ext.trans {mine ρ ρ₁ ρ₂ : List Addr} {h h₁ h₂ : Heap} (x : Ext mine ρ ρ₁ h h₁) (y : Ext mine ρ₁ ρ₂ h₁ h₂) : Ext mine ρ ρ₂ h h₂ where
  pre := x.pre.trans y.pre
  alive := fun b o e => by
    obtain ⟨o1, e1⟩ := x.alive b o e
    exact y.alive b o1 e1
  new := fun a ha => by
    rcases y.new a ha with h1 | h1
    · exact x.new a h1
    · refine .inr ?_
      cases e : h.get? a with
      | none => rfl
      | some o =>
        obtain ⟨o1, e1⟩ := x.alive a o e
        rw [h1] at e1; cases e1
  keep := fun b o e n1 n2 => by
    obtain ⟨o1, e1, l1⟩ := x.keep b o e n1 n2
    have hn : b ∉ ρ₁ := fun hb => by
      rcases x.new b hb with h1 | h1
      · exact n1 h1
      · rw [e] at h1; cases h1
    obtain ⟨o2, e2, l2⟩ := y.keep b _ e1 hn n2
    exact ⟨o2, e2, l1.trans l2⟩
  froz := fun b o e f => y.froz b o (x.froz b o e f) f

theorem XRepB.up {n : Bool} {K : Glo} {F : Frm} {e : Exc} {mine ρ ρ₁ : List Addr} {h h₁ : Heap} {v : Value} {s : Shared} (q : XRepB n K F e h₁ v s) (x : Ext mine ρ ρ₁ h h₁) : XRepB n K F e h v s := by
  obtain ⟨X, f, g⟩ := q
  refine ⟨X, fun b hb => ?_, g⟩
  cases e : h.get? b with
  | none => rfl
  | some o => obtain ⟨o', e'⟩ := x.alive b o e; rw [f b hb] at e'; cases e'

theorem getElem?_prefix {α : Type} {l l' : List α} {i : Nat} {a : α} (h : l <+: l') (e : l[i]? = some a) : l'[i]? = some a := by
  obtain ⟨t, rfl⟩ := h
  rw [List.getElem?_append_left]
  · exact e
  · exact (List.getElem?_eq_some_iff.mp e).1

mutual
theorem Rep.mono' {K : Glo} {ρ ρ' : List Addr} {h h' : Heap} (hp : ρ <+: ρ') (ht : ∀ b o, h.get? b = some o → Froz o → h'.get? b = some o) : ∀ {v : V} {w : Value}, Rep K h ρ v w → Rep K h' ρ' v w
  | .none, _, r => by simpa only [Rep] using r
  | .bool _, _, r => by simpa only [Rep] using r
  | .int _, _, r => by simpa only [Rep] using r
  | .str _, _, r => by simpa only [Rep] using r
  | .tup vs, w, r => by
    simp only [Rep] at r ⊢
    obtain ⟨hl, a, ws, e, t, r⟩ := r
    obtain ⟨o, e1, c, n, d⟩ := t
    exact ⟨hl, a, ws, e, ⟨o, ht _ _ e1 (.inl ⟨c, _, n, d⟩), c, n, d⟩, RepL.mono' hp ht r⟩
  | .obj l, w, r => by
    simp only [Rep] at r ⊢
    obtain ⟨a, e, e2⟩ := r
    exact ⟨a, getElem?_prefix hp e, e2⟩
  | .fn _, _, r => by simpa only [Rep] using r
  | .rng _ _ _, _, r => by
    simp only [Rep] at r ⊢
    obtain ⟨a, t, u, v, e, i⟩ := r
    exact ⟨a, t, u, v, e, ht _ _ i (.inr ⟨rfl, _, rfl⟩)⟩
theorem RepL.mono' {K : Glo} {ρ ρ' : List Addr} {h h' : Heap} (hp : ρ <+: ρ') (ht : ∀ b o, h.get? b = some o → Froz o → h'.get? b = some o) : ∀ {vs : List V} {ws : List Value}, RepL K h ρ vs ws → RepL K h' ρ' vs ws
  | [], _, r => by simpa only [RepL] using r
  | v :: vs, ws, r => by
    simp only [RepL] at r ⊢
    obtain ⟨x, r', e, r1, r2⟩ := r
    exact ⟨x, r', e, Rep.mono' hp ht r1, RepL.mono' hp ht r2⟩
end
theorem Rep.mono {K : Glo} {mine ρ ρ' : List Addr} {h h' : Heap} {v : V} {w : Value} (r : Rep K h ρ v w) (x : Ext mine ρ ρ' h h') : Rep K h' ρ' v w := Rep.mono' x.pre x.froz r
theorem RepL.mono {K : Glo} {mine ρ ρ' : List Addr} {h h' : Heap} {vs : List V} {ws : List Value} (r : RepL K h ρ vs ws) (x : Ext mine ρ ρ' h h') : RepL K h' ρ' vs ws := RepL.mono' x.pre x.froz r

section
variable {K : Glo} {h : Heap} {ρ : List Addr}
theorem Rep.none_iff {w : Value} : Rep K h ρ .none w ↔ w = .none := by simp only [Rep]
theorem Rep.bool_iff {b : Bool} {w : Value} : Rep K h ρ (.bool b) w ↔ w = .bool b := by simp only [Rep]
theorem Rep.int_iff {i : Int} {w : Value} : Rep K h ρ (.int i) w ↔ ∃ t, w = .int i t := by simp only [Rep]
theorem Rep.str_iff {x : Str} {w : Value} : Rep K h ρ (.str x) w ↔ ∃ t, w = .str x t := by simp only [Rep]
theorem Rep.tup_iff {vs : List V} {w : Value} : Rep K h ρ (.tup vs) w ↔ vs.length ≤ 1000000 ∧ ∃ a ws, w = .ref a ∧ IsTup h a ws.toArray ∧ RepL K h ρ vs ws := by simp only [Rep]
theorem Rep.obj_iff {l : Nat} {w : Value} : Rep K h ρ (.obj l) w ↔ ∃ a, ρ[l]? = some a ∧ w = .ref a := by simp only [Rep]
theorem Rep.rng_iff {a b c : Int} {w : Value} : Rep K h ρ (.rng a b c) w ↔ ∃ r t u v, w = .ref r ∧ IsRange h r a b c t u v := by simp only [Rep]
theorem Rep.int (i : Int) (t : Tok) : Rep K h ρ (.int i) (.int i t) := Rep.int_iff.mpr ⟨t, rfl⟩
theorem Rep.str (x : Str) (t : Tok) : Rep K h ρ (.str x) (.str x t) := Rep.str_iff.mpr ⟨t, rfl⟩
theorem Rep.bool (b : Bool) : Rep K h ρ (.bool b) (.bool b) := Rep.bool_iff.mpr rfl
theorem Rep.none : Rep K h ρ .none .none := Rep.none_iff.mpr rfl
theorem RepL.nil_iff {ws : List Value} : RepL K h ρ [] ws ↔ ws = [] := by simp only [RepL]
theorem RepL.cons_iff {v : V} {vs : List V} {ws : List Value} : RepL K h ρ (v :: vs) ws ↔ ∃ x r, ws = x :: r ∧ Rep K h ρ v x ∧ RepL K h ρ vs r := by simp only [RepL]
theorem RepL.nil : RepL K h ρ [] [] := RepL.nil_iff.mpr rfl
theorem RepL.cons {v : V} {vs : List V} {w : Value} {ws : List Value} (r1 : Rep K h ρ v w) (r2 : RepL K h ρ vs ws) : RepL K h ρ (v :: vs) (w :: ws) := RepL.cons_iff.mpr ⟨w, ws, rfl, r1, r2⟩
theorem RepL.length : ∀ {vs : List V} {ws : List Value}, RepL K h ρ vs ws → ws.length = vs.length
  | [], _, r => by rw [RepL.nil_iff.mp r]; rfl
  | v :: vs, ws, r => by
    obtain ⟨x, r', rfl, _, r2⟩ := RepL.cons_iff.mp r
    simp [RepL.length r2]
theorem RepL.append : ∀ {vs us : List V} {ws xs : List Value}, RepL K h ρ vs ws → RepL K h ρ us xs → RepL K h ρ (vs ++ us) (ws ++ xs)
  | [], _, _, _, r, q => by rw [RepL.nil_iff.mp r]; exact q
  | v :: vs, us, ws, xs, r, q => by
    obtain ⟨x, r', rfl, r1, r2⟩ := RepL.cons_iff.mp r
    exact RepL.cons r1 (RepL.append r2 q)
theorem RepL.get? : ∀ {vs : List V} {ws : List Value}, RepL K h ρ vs ws → ∀ {i : Nat} {v : V}, vs[i]? = some v → ∃ w, ws[i]? = some w ∧ Rep K h ρ v w
  | [], _, _, i, v, e => by simp at e
  | u :: vs, ws, r, i, v, e => by
    obtain ⟨x, r', rfl, r1, r2⟩ := RepL.cons_iff.mp r
    cases i with
    | zero => simp only [List.getElem?_cons_zero, Option.some.injEq] at e; subst e; exact ⟨x, by simp, r1⟩
    | succ i => simp only [List.getElem?_cons_succ] at e ⊢; exact RepL.get? r2 e
theorem RepL.getW : ∀ {vs : List V} {ws : List Value}, RepL K h ρ vs ws → ∀ {i : Nat} {w : Value}, ws[i]? = some w → ∃ v, vs[i]? = some v ∧ Rep K h ρ v w
  | [], ws, r, i, w, e => by rw [RepL.nil_iff.mp r] at e; simp at e
  | u :: vs, ws, r, i, w, e => by
    obtain ⟨x, r', rfl, r1, r2⟩ := RepL.cons_iff.mp r
    cases i with
    | zero => simp only [List.getElem?_cons_zero, Option.some.injEq] at e; subst e; exact ⟨u, by simp, r1⟩
    | succ i => simp only [List.getElem?_cons_succ] at e ⊢; exact RepL.getW r2 e
theorem RepL.set : ∀ {vs : List V} {ws : List Value}, RepL K h ρ vs ws → ∀ (i : Nat) {v : V} {w : Value}, Rep K h ρ v w → RepL K h ρ (vs.set i v) (ws.set i w)
  | [], _, r, i, v, w, _ => by rw [RepL.nil_iff.mp r]; exact RepL.nil
  | u :: vs, ws, r, i, v, w, q => by
    obtain ⟨x, r', rfl, r1, r2⟩ := RepL.cons_iff.mp r
    cases i with
    | zero => exact RepL.cons q r2
    | succ i => exact RepL.cons r1 (RepL.set r2 i q)
theorem RepL.eraseIdx : ∀ {vs : List V} {ws : List Value}, RepL K h ρ vs ws → ∀ (i : Nat), RepL K h ρ (vs.eraseIdx i) (ws.eraseIdx i)
  | [], _, r, i => by rw [RepL.nil_iff.mp r]; simp [RepL.nil]
  | u :: vs, ws, r, i => by
    obtain ⟨x, r', rfl, r1, r2⟩ := RepL.cons_iff.mp r
    cases i with
    | zero => exact r2
    | succ i => exact RepL.cons r1 (RepL.eraseIdx r2 i)
theorem RepL.reverse {vs : List V} {ws : List Value} (r : RepL K h ρ vs ws) : RepL K h ρ vs.reverse ws.reverse := by
  induction vs generalizing ws with
  | nil => rw [RepL.nil_iff.mp r]; exact RepL.nil
  | cons v vs ih =>
    obtain ⟨x, r', rfl, r1, r2⟩ := RepL.cons_iff.mp r
    rw [List.reverse_cons, List.reverse_cons]
    exact (ih r2).append (RepL.cons r1 RepL.nil)
end

/-! ### Run -/
section
variable {K : Glo} {F : Frm} {α β γ δ : Type}

theorem Run.stuck {t : Sem α} {R : Heap → List Addr → β → α → Prop} {ρ : List Addr} {s : Shared} : Run K F t R (.stuck : Res S β) ρ s := trivial

theorem Run.pure {a : α} {b : β} {σ : S} {R : Heap → List Addr → β → α → Prop} {ρ : List Addr} {s : Shared} (rel : Rel K F σ ρ s) (r : R s.heap ρ b a) :
    Run K F (Pure.pure a) R (.ok b σ) ρ s := wpAny_pure ⟨ρ, rel, Ext.refl .., r⟩

theorem Run.bind {t : Sem α} {f : α → Sem γ} {R : Heap → List Addr → β → α → Prop} {R' : Heap → List Addr → δ → γ → Prop} {m : M β} {k : β → M δ} {σ : S} {ρ : List Addr} {s : Shared}
    (h1 : Run K F t R (m σ) ρ s)
    (h2 : ∀ b σ' ρ' s' a, m σ = .ok b σ' → Rel K F σ' ρ' s' → Ext F.mine ρ ρ' s.heap s'.heap → R s'.heap ρ' b a → Run K F (f a) R' (k b σ') ρ' s') :
    Run K F (t >>= f) R' ((m >>= k) σ) ρ s := by
  rw [M.bind_def]
  cases e : m σ with
  | stuck => trivial
  | exc x σ' =>
    rw [e] at h1
    exact wpAny_bind (wpAny_mono h1 (fun _ _ h => h.elim) fun _ _ h => h)
  | ok b σ' =>
    rw [e] at h1
    dsimp only
    have key : ∀ {P : Prop} {b' : Res S δ}, k b σ' = b' → P → P := fun _ p => p
    cases e2 : k b σ' with
    | stuck => trivial
    | ok d σ'' =>
      refine wpAny_bind (wpAny_mono h1 (fun a s' h => ?_) fun _ _ h => h.elim)
      obtain ⟨ρ', rel, x, r⟩ := h
      have := h2 b σ' ρ' s' a e rel x r
      rw [e2] at this
      exact wpAny_mono this (fun c s'' h => by obtain ⟨ρ'', rel', x', r'⟩ := h; exact ⟨ρ'', rel', x.trans x', r'⟩) fun _ _ h => h
    | exc y σ'' =>
      refine wpAny_bind (wpAny_mono h1 (fun a s' h => ?_) fun _ _ h => h.elim)
      obtain ⟨ρ', rel, x, r⟩ := h
      have := h2 b σ' ρ' s' a e rel x r
      rw [e2] at this
      exact wpAny_mono this (fun _ _ h => h) fun c s'' h => by obtain ⟨ρ'', rel', x', r'⟩ := h; exact ⟨ρ'', rel', x.trans x', r'.up x⟩

/-- the same with the first part's outcome told by a plain command that leaves the frame's state as it is -/
theorem Run.step {t : Sem α} {f : α → Sem γ} {R' : Heap → List Addr → δ → γ → Prop} {out : Res S δ} {ρ : List Addr} {s : Shared}
    (h : ∀ (Q : α → Shared → Prop) (E : Value → Shared → Prop), (∀ a, Q a s) → wpAny (model K.prog K.w) F.A t Q E s)
    (h2 : ∀ a, Run K F (f a) R' out ρ s) : Run K F (t >>= f) R' out ρ s := by
  cases out with
  | stuck => trivial
  | ok d σ' => exact wpAny_bind (h _ _ fun a => h2 a)
  | exc y σ' => exact wpAny_bind (h _ _ fun a => h2 a)

theorem Run.standAt {p : Pos} {f : Unit → Sem γ} {R' : Heap → List Addr → δ → γ → Prop} {out : Res S δ} {ρ : List Addr} {s : Shared} (h2 : Run K F (f ()) R' out ρ s) :
    Run K F (PySem.standAt p >>= f) R' out ρ s := Run.step (fun _ _ h => wpAny_standAt (h ())) fun _ => h2

theorem Run.holding {vs : List Value} {t : Sem α} {R : Heap → List Addr → β → α → Prop} {out : Res S β} {ρ : List Addr} {s : Shared} (h : Run K F t R out ρ s) : Run K F (PySem.holding vs t) R out ρ s := by
  cases out with
  | stuck => trivial
  | ok d σ' => exact wpAny_holding h
  | exc y σ' => exact wpAny_holding h

theorem Run.operate {vs : List Value} {t : Sem Value} {R : Heap → List Addr → β → Value → Prop} {out : Res S β} {ρ : List Addr} {s : Shared} (h : Run K F t R out ρ s) : Run K F (PySem.operate vs t) R out ρ s := by
  cases out with
  | stuck => trivial
  | ok d σ' => exact wpAny_operating h
  | exc y σ' => exact wpAny_operating h
end

end Mine


/-! part F2 -/
set_option autoImplicit false
set_option maxRecDepth 100000
open PySem PySem.W PyProof.Rows
namespace Mine

theorem ofString_inj {a b : String} (h : Str.ofString a = Str.ofString b) : a = b := by
  have h1 : (cpsOfBytes 0 0 a.toByteArray.data.toList).toArray = (cpsOfBytes 0 0 b.toByteArray.data.toList).toArray := congrArg Str.cps h
  have h2 := congrArg Array.toList h1
  rw [cpsOfBytes_string, cpsOfBytes_string] at h2
  have h3 : a.toList.map Char.toNat = b.toList.map Char.toNat := by simpa using h2
  have h4 : a.toList = b.toList := List.map_inj_right (fun x y e => Char.toNat_inj.mp e) |>.mp h3
  exact String.toList_inj.mp h4

theorem CelRep.mono {K : Glo} {h h' : Heap} {ρ ρ' : List Addr} {c : Cel} {a : Addr} (x : CelRep K h ρ c a) (hp : ρ <+: ρ') (ht : ∀ b o, h.get? b = some o → Froz o → h'.get? b = some o)
    (hl : ∀ items n, IsL h a items n → IsL h' a items n) : CelRep K h' ρ' c a := by
  cases c with
  | lst vs => obtain ⟨h0, ws, n, h1, h2⟩ := x; exact ⟨h0, ws, n, hl _ _ h1, RepL.mono' hp ht h2⟩

theorem VarAt.mono {env : Env} {h h' : Heap} {x : Str} {w : Value} (v : VarAt env h x w) (hn : ∀ m, h.Ns env.locals m → h'.Ns env.locals m)
    (hc : ∀ c u, env.cells.lookup x = some c → h.IsCell c (some u) → h'.IsCell c (some u)) : VarAt env h' x w := by
  rcases v with ⟨k, m, n, e⟩ | ⟨k, c, e, n⟩
  · exact .inl ⟨k, m, hn m n, e⟩
  · exact .inr ⟨k, c, e, hc c w e n⟩

section
variable {K : Glo} {F : Frm} {σ : S} {ρ ρ' : List Addr} {s s' : Shared} {mine : List Addr} {h h' : Heap}

theorem kept_tup (hk : ∀ b o, h.get? b = some o → h'.get? b = some o) : ∀ b o, h.get? b = some o → Froz o → h'.get? b = some o := fun _ _ e _ => hk _ _ e

theorem Ext.kept (hk : ∀ b o, h.get? b = some o → h'.get? b = some o) : Ext mine ρ ρ h h' :=
  ⟨List.prefix_refl _, fun _ o e => ⟨o, hk _ _ e⟩, fun _ ha => .inl ha, fun _ o e _ _ => ⟨o, hk _ _ e, .refl _⟩, kept_tup hk⟩

theorem GRel.kept {st : Store} (rel : GRel K st ρ s) (hk : ∀ b o, s.heap.get? b = some o → s'.heap.get? b = some o) (hg : s'.gens = s.gens) (ho : s'.os = s.os) : GRel K st ρ s' where
  gens := hg.trans rel.gens
  os := ho.trans rel.os
  base := fun b o e => hk _ _ (rel.base b o e)
  len := rel.len
  cell := fun l a c h1 h2 => (rel.cell l a c h1 h2).mono (List.prefix_refl _) (kept_tup hk) fun _ _ x => hk _ _ x
  nodup := rel.nodup
  above := rel.above

theorem Rel.kept (rel : Rel K F σ ρ s) (hk : ∀ b o, s.heap.get? b = some o → s'.heap.get? b = some o) (hg : s'.gens = s.gens) (ho : s'.os = s.os) : Rel K F σ ρ s' where
  toGRel := rel.toGRel.kept hk hg ho
  vars := fun x v e => by
    obtain ⟨w, h1, h2⟩ := rel.vars x v e
    exact ⟨w, h1.mono (fun m n => n.keeps hk) (fun c u _ n => n.keeps hk), Rep.mono' (List.prefix_refl _) (kept_tup hk) h2⟩
  loc := let ⟨m, n⟩ := rel.loc; ⟨m, n.keeps hk⟩
  cels := fun x c e => let ⟨v, n⟩ := rel.cels x c e; ⟨v, n.keeps hk⟩
  mineAbove := fun a ha => let ⟨h1, o, h2⟩ := rel.mineAbove a ha; ⟨h1, o, hk _ _ h2⟩
  mineApart := rel.mineApart
  mineLoc := rel.mineLoc
  frs := rel.frs.kept hk

theorem Rel.tok (rel : Rel K F σ ρ s) (t : Nat) : Rel K F σ ρ { s with toks := t } := rel.kept (fun _ _ e => e) rfl rfl
theorem Rel.push (rel : Rel K F σ ρ s) (o : Obj) (t : Nat) : Rel K F σ ρ { s with heap := s.heap.push o, toks := t } := rel.kept (fun _ _ e => Heap.get?_push_of_some o e) rfl rfl
theorem Ext.push (o : Obj) : Ext mine ρ ρ h (h.push o) := Ext.kept fun _ _ e => Heap.get?_push_of_some o e

theorem GRel.alive {st : Store} (rel : GRel K st ρ s) {a : Addr} (ha : a ∈ ρ) : ∃ items, s.heap.IsList a items := by
  obtain ⟨l, hl⟩ := List.mem_iff_getElem?.mp ha
  have h1 : l < ρ.length := (List.getElem?_eq_some_iff.mp hl).1
  rw [rel.len] at h1
  have h2 : st[l]? = some st[l] := List.getElem?_eq_getElem h1
  have h3 := rel.cell l a _ hl h2
  cases hc : st[l] with
  | lst vs => rw [hc] at h3; obtain ⟨_, ws, n, h4, _⟩ := h3; exact ⟨_, h4.isList⟩

theorem list_ne_tup {a b : Addr} {i : Array Value} {o' : Obj} (h1 : h.IsList a i) (e' : h.get? b = some o') (f : Froz o') : b ≠ a := by
  rintro rfl
  obtain ⟨o, e, c, _⟩ := h1
  rw [e] at e'; cases e'
  rcases f with ⟨f, _⟩ | ⟨f, _⟩
  · rw [c] at f; exact absurd f (by decide)
  · rw [c] at f; exact absurd f (by decide)
theorem froz_ne_dict {o : Obj} (f : Froz o) : ∀ es n, o.data ≠ .dict es n := by
  rintro es n d
  rcases f with ⟨_, _, _, f⟩ | ⟨_, _, f⟩ <;> (rw [d] at f; cases f)
theorem froz_ne_cell {o : Obj} (f : Froz o) : ∀ v, o.data ≠ .cell v := by
  rintro v d
  rcases f with ⟨_, _, _, f⟩ | ⟨_, _, f⟩ <;> (rw [d] at f; cases f)
theorem list_ne_ns {a b : Addr} {i : Array Value} {m : Str → Option Value} (h1 : h.IsList a i) (h2 : h.Ns b m) : b ≠ a := by
  rintro rfl
  obtain ⟨o, e, _, n, d⟩ := h1
  obtain ⟨o', es, ep, e', d', _⟩ := h2
  rw [e] at e'; cases e'; rw [d] at d'; cases d'
theorem list_ne_cell {a b : Addr} {i : Array Value} {v : Option Value} (h1 : h.IsList a i) (h2 : h.IsCell b v) : b ≠ a := by
  rintro rfl
  obtain ⟨o, e, _, n, d⟩ := h1
  obtain ⟨o', e', d'⟩ := h2
  rw [e] at e'; cases e'; rw [d] at d'; cases d'
theorem ns_ne_tup {a b : Addr} {o' : Obj} {m : Str → Option Value} (h1 : h.Ns a m) (e' : h.get? b = some o') (f : Froz o') : b ≠ a := by
  rintro rfl
  obtain ⟨o, es, ep, e, d', _⟩ := h1
  rw [e] at e'; cases e'; exact froz_ne_dict f _ _ d'
theorem cell_ne_tup {a b : Addr} {o' : Obj} {v : Option Value} (h1 : h.IsCell a v) (e' : h.get? b = some o') (f : Froz o') : b ≠ a := by
  rintro rfl
  obtain ⟨o, e, d'⟩ := h1
  rw [e] at e'; cases e'; exact froz_ne_cell f _ d'
theorem cell_ne_ns {a b : Addr} {v : Option Value} {m : Str → Option Value} (h1 : h.IsCell a v) (h2 : h.Ns b m) : b ≠ a := by
  rintro rfl
  obtain ⟨o', es, ep, e', d', _⟩ := h2
  obtain ⟨o, e, d⟩ := h1
  rw [e] at e'; cases e'; rw [d] at d'; cases d'

theorem nodup_get {α : Type} : ∀ {l : List α}, l.Nodup → ∀ {i j : Nat} {a : α}, l[i]? = some a → l[j]? = some a → i = j
  | [], _, i, j, a, h1, _ => by simp at h1
  | x :: l, n, i, j, a, h1, h2 => by
    obtain ⟨n1, n2⟩ := List.nodup_cons.mp n
    cases i with
    | zero =>
      cases j with
      | zero => rfl
      | succ j =>
        simp only [List.getElem?_cons_zero, Option.some.injEq] at h1; subst h1
        exact absurd (List.mem_of_getElem? (by simpa using h2)) n1
    | succ i =>
      cases j with
      | zero =>
        simp only [List.getElem?_cons_zero, Option.some.injEq] at h2; subst h2
        exact absurd (List.mem_of_getElem? (by simpa using h1)) n1
      | succ j => exact congrArg (· + 1) (nodup_get n2 (by simpa using h1) (by simpa using h2))

/-- a list of the store is replaced -/
theorem GRel.upd {st : Store} {l n : Nat} {a : Addr} {vs : List V} {ws : List Value} (rel : GRel K st ρ s) (hl : ρ[l]? = some a) (hl0 : l ≠ 0) (hs : Heap.SameBut a s.heap s'.heap)
    (hL : IsL s'.heap a ws.toArray n) (hr : RepL K s.heap ρ vs ws) (hln : vs.length ≤ 1000000) (hg : s'.gens = s.gens) (ho : s'.os = s.os) :
    GRel K (st.set l (.lst vs)) ρ s' ∧ Ext mine ρ ρ s.heap s'.heap := by
  have ha : a ∈ ρ := List.mem_of_getElem? hl
  obtain ⟨items, hold⟩ := rel.alive ha
  have ht : ∀ b o, s.heap.get? b = some o → Froz o → s'.heap.get? b = some o := fun b o e f => (hs.2 b (list_ne_tup hold e f)).trans e
  refine ⟨⟨hg.trans rel.gens, ho.trans rel.os, ?_, ?_, ?_, rel.nodup, rel.above⟩, ?_⟩
  · intro b o e
    have hne : b ≠ a := by rintro rfl; rw [rel.above l _ hl hl0] at e; cases e
    exact (hs.2 b hne).trans (rel.base b o e)
  · rw [rel.len, List.length_set]
  · intro k b c h1 h2
    by_cases hk : k = l
    · subst hk
      rw [hl] at h1; cases h1
      have h3 : k < st.length := by rw [← rel.len]; exact (List.getElem?_eq_some_iff.mp hl).1
      rw [List.getElem?_set_self h3] at h2; cases h2
      exact ⟨hln, ws, n, hL, RepL.mono' (List.prefix_refl _) ht hr⟩
    · rw [List.getElem?_set_ne (Ne.symm hk)] at h2
      have hne : b ≠ a := fun e => hk (nodup_get rel.nodup (e ▸ h1) hl)
      exact (rel.cell k b c h1 h2).mono (List.prefix_refl _) ht fun it n' x => (hs.2 b hne).trans x
  · refine ⟨List.prefix_refl _, fun b o e => ?_, fun _ hb => .inl hb, fun b o e n1 _ => ⟨o, (hs.2 b (fun x => n1 (x ▸ ha))).trans e, .refl _⟩, ht⟩
    by_cases hb : b = a
    · subst hb; exact ⟨_, hL⟩
    · exact ⟨o, (hs.2 b hb).trans e⟩

theorem Rel.upd {l n : Nat} {a : Addr} {vs : List V} {ws : List Value} (rel : Rel K F σ ρ s) (hl : ρ[l]? = some a) (hl0 : l ≠ 0) (hs : Heap.SameBut a s.heap s'.heap)
    (hL : IsL s'.heap a ws.toArray n) (hr : RepL K s.heap ρ vs ws) (hln : vs.length ≤ 1000000) (hg : s'.gens = s.gens) (ho : s'.os = s.os) :
    Rel K F { σ with st := σ.st.set l (.lst vs) } ρ s' ∧ Ext F.mine ρ ρ s.heap s'.heap := by
  obtain ⟨g, x⟩ := rel.toGRel.upd (mine := F.mine) hl hl0 hs hL hr hln hg ho
  have ha : a ∈ ρ := List.mem_of_getElem? hl
  obtain ⟨items, hold⟩ := rel.toGRel.alive ha
  refine ⟨{ toGRel := g, vars := ?_, loc := ?_, cels := ?_, mineAbove := ?_, mineApart := rel.mineApart, mineLoc := rel.mineLoc, frs := rel.frs.next fun b o es n g d => ⟨o, es, n, (hs.2 b (by
      rintro rfl
      obtain ⟨o', g', _, n', d'⟩ := hold
      rw [g] at g'; cases g'; rw [d] at d'; cases d')).trans g, d⟩ }, x⟩
  · intro y v e
    obtain ⟨w, h1, h2⟩ := rel.vars y v e
    exact ⟨w, h1.mono (fun m n => n.sameBut hs (list_ne_ns hold n)) (fun c u _ n => n.sameBut hs (list_ne_cell hold n)), h2.mono x⟩
  · obtain ⟨m, n⟩ := rel.loc; exact ⟨m, n.sameBut hs (list_ne_ns hold n)⟩
  · intro y c e
    obtain ⟨v, n⟩ := rel.cels y c e; exact ⟨v, n.sameBut hs (list_ne_cell hold n)⟩
  · intro b hb
    obtain ⟨h1, o, h2⟩ := rel.mineAbove b hb
    obtain ⟨o', h3⟩ := x.alive b o h2
    exact ⟨h1, o', h3⟩

/-- a new list -/
theorem GRel.newList {st : Store} {vs : List V} {ws : List Value} {o : Obj} (rel : GRel K st ρ s) (ho : o = { cls := .type "list", data := .seq ws.toArray }) (hr : RepL K s.heap ρ vs ws) (hln : vs.length ≤ 1000000) (t : Nat) :
    GRel K (st ++ [.lst vs]) (ρ ++ [s.heap.objs.size]) { s with heap := s.heap.push o, toks := t } ∧ Ext mine ρ (ρ ++ [s.heap.objs.size]) s.heap (s.heap.push o) := by
  have hk : ∀ b o', s.heap.get? b = some o' → (s.heap.push o).get? b = some o' := fun _ _ e => Heap.get?_push_of_some o e
  have hpre : ρ <+: ρ ++ [s.heap.objs.size] := List.prefix_append _ _
  have hnew : s.heap.get? s.heap.objs.size = none := Heap.get?_none_of_le (Nat.le_refl _)
  have hL : IsL (s.heap.push o) s.heap.objs.size ws.toArray 0 := by
    subst ho; exact Heap.get?_push_size _ rfl
  refine ⟨⟨rel.gens, rel.os, fun b o' e => hk _ _ (rel.base b o' e), ?_, ?_, ?_, ?_⟩, ⟨hpre, fun b o' e => ⟨o', hk _ _ e⟩, ?_, fun b o' e _ _ => ⟨o', hk _ _ e, .refl _⟩, kept_tup hk⟩⟩
  · simp [rel.len]
  · intro l a c h1 h2
    by_cases hl : l < st.length
    · rw [List.getElem?_append_left (by rw [rel.len]; exact hl)] at h1
      rw [List.getElem?_append_left hl] at h2
      exact (rel.cell l a c h1 h2).mono hpre (kept_tup hk) fun _ _ x => hk _ _ x
    · have hl' : l = st.length := by
        rcases List.getElem?_eq_some_iff.mp h2 with ⟨h3, _⟩
        simp at h3; (first | lia | omega)
      subst hl'
      rw [← rel.len, List.getElem?_concat_length] at h1; cases h1
      rw [List.getElem?_concat_length] at h2; cases h2
      exact ⟨hln, ws, 0, hL, RepL.mono' hpre (kept_tup hk) hr⟩
  · refine List.nodup_append.mpr ⟨rel.nodup, by simp, ?_⟩
    intro a ha b hb
    simp only [List.mem_singleton] at hb; subst hb
    rintro rfl
    obtain ⟨_, o', e, _⟩ := rel.alive ha
    rw [hnew] at e; cases e
  · intro l a hla hl0
    by_cases hlt : l < ρ.length
    · rw [List.getElem?_append_left hlt] at hla
      exact rel.above l a hla hl0
    · have ha : a = s.heap.objs.size := by
        have hm := List.mem_of_getElem? hla
        rw [List.getElem?_append_right (by (first | lia | omega))] at hla
        have := List.mem_of_getElem? hla
        simpa using this
      subst ha
      cases e : K.base.get? s.heap.objs.size with
      | none => rfl
      | some o' => have := rel.base _ _ e; rw [hnew] at this; cases this
  · intro a ha
    rcases List.mem_append.mp ha with ha | ha
    · exact .inl ha
    · simp only [List.mem_singleton] at ha; subst ha; exact .inr hnew

theorem Rel.newList {vs : List V} {ws : List Value} {o : Obj} (rel : Rel K F σ ρ s) (ho : o = { cls := .type "list", data := .seq ws.toArray }) (hr : RepL K s.heap ρ vs ws) (hln : vs.length ≤ 1000000) (t : Nat) :
    Rel K F { σ with st := σ.st ++ [.lst vs] } (ρ ++ [s.heap.objs.size]) { s with heap := s.heap.push o, toks := t } ∧ Ext F.mine ρ (ρ ++ [s.heap.objs.size]) s.heap (s.heap.push o) := by
  obtain ⟨g, x⟩ := rel.toGRel.newList (mine := F.mine) ho hr hln t
  have hk : ∀ b o', s.heap.get? b = some o' → (s.heap.push o).get? b = some o' := fun _ _ e => Heap.get?_push_of_some o e
  have r := rel.push o t
  refine ⟨{ toGRel := g, vars := ?_, loc := r.loc, cels := r.cels, mineAbove := r.mineAbove, mineApart := ?_, mineLoc := r.mineLoc, frs := r.frs }, x⟩
  · intro y v e
    obtain ⟨w, h1, h2⟩ := rel.vars y v e
    exact ⟨w, h1.mono (fun m n => n.keeps hk) (fun c u _ n => n.keeps hk), h2.mono x⟩
  · intro a ha hb
    rcases List.mem_append.mp hb with hb | hb
    · exact rel.mineApart a ha hb
    · simp only [List.mem_singleton] at hb; subst hb
      obtain ⟨_, o', e⟩ := rel.mineAbove _ ha
      rw [Heap.get?_none_of_le (Nat.le_refl _)] at e; cases e

/-- a name is bound -/
noncomputable def S.put (σ : S) (x : String) (v : V) : S := { σ with lo := fun y => if y = x then some v else σ.lo y }

theorem Ext.mineBut {a : Addr} (ha : a ∈ mine) (hs : Heap.SameBut a h h') (hal : ∃ o, h'.get? a = some o) (ht : ∀ b o, h.get? b = some o → Froz o → b ≠ a) : Ext mine ρ ρ h h' where
  pre := List.prefix_refl _
  alive := fun b o e => by
    by_cases hb : b = a
    · subst hb; exact hal
    · exact ⟨o, (hs.2 b hb).trans e⟩
  new := fun _ hb => .inl hb
  keep := fun b o e _ n => ⟨o, (hs.2 b (fun x => n (x ▸ ha))).trans e, .refl _⟩
  froz := fun b o e f => (hs.2 b (ht b o e f)).trans e

theorem GRel.mineBut {st : Store} {a : Addr} (rel : GRel K st ρ s) (hb : K.base.get? a = none) (hnl : a ∉ ρ) (hs : Heap.SameBut a s.heap s'.heap) (ht : ∀ b o, s.heap.get? b = some o → Froz o → b ≠ a)
    (hg : s'.gens = s.gens) (ho : s'.os = s.os) : GRel K st ρ s' where
  gens := hg.trans rel.gens
  os := ho.trans rel.os
  base := fun b o e => (hs.2 b (by rintro rfl; rw [hb] at e; cases e)).trans (rel.base b o e)
  len := rel.len
  cell := fun l b c h1 h2 => by
    have hne : b ≠ a := fun e => hnl (e ▸ List.mem_of_getElem? h1)
    refine (rel.cell l b c h1 h2).mono (List.prefix_refl _) (fun d o e f => (hs.2 d (ht d o e f)).trans e) fun it n' x => ?_
    · exact (hs.2 b hne).trans x
  nodup := rel.nodup
  above := rel.above

theorem Rel.setLocal {x : String} {v : V} {w : Value} {m : Str → Option Value} (rel : Rel K F σ ρ s) (hk : F.env.kindOf (Str.ofString x) = some .local) (hm : s.heap.Ns F.env.locals m)
    (hn : s'.heap.Ns F.env.locals (fun y => if y = Str.ofString x then some w else m y)) (hs : Heap.SameBut F.env.locals s.heap s'.heap) (hr : Rep K s.heap ρ v w)
    (hg : s'.gens = s.gens) (ho : s'.os = s.os) : Rel K F (σ.put x v) ρ s' ∧ Ext F.mine ρ ρ s.heap s'.heap := by
  have ht : ∀ b o, s.heap.get? b = some o → Froz o → b ≠ F.env.locals := fun b o e f => ns_ne_tup hm e f
  have hal : ∃ o, s'.heap.get? F.env.locals = some o := by obtain ⟨o, _, _, e, _⟩ := hn; exact ⟨o, e⟩
  have ext : Ext F.mine ρ ρ s.heap s'.heap := Ext.mineBut rel.mineLoc hs hal ht
  have hfr : FrsOk K F s'.heap := rel.frs.next fun b o es n g d => by
    by_cases hb : b = F.env.locals
    · subst hb
      obtain ⟨o', es', ep', g', d', _⟩ := hn
      exact ⟨o', _, _, g', d'⟩
    · exact ⟨o, es, n, (hs.2 b hb).trans g, d⟩
  refine ⟨{ toGRel := rel.toGRel.mineBut (rel.mineAbove _ rel.mineLoc).1 (rel.mineApart _ rel.mineLoc) hs ht hg ho, vars := ?_, loc := ⟨_, hn⟩, cels := ?_, mineAbove := ?_, mineApart := rel.mineApart, mineLoc := rel.mineLoc, frs := hfr }, ext⟩
  · intro y u e
    by_cases hy : y = x
    · subst hy
      simp only [S.put, if_true, Option.some.injEq] at e
      subst e
      exact ⟨w, .inl ⟨hk, _, hn, by simp⟩, hr.mono ext⟩
    · simp only [S.put, if_neg hy] at e
      obtain ⟨w', h1, h2⟩ := rel.vars y u e
      refine ⟨w', ?_, h2.mono ext⟩
      rcases h1 with ⟨k1, m1, n1, e1⟩ | ⟨k1, c, e1, n1⟩
      · refine .inl ⟨k1, _, hn, ?_⟩
        have hne : ¬ Str.ofString y = Str.ofString x := fun q => hy (ofString_inj q)
        rw [if_neg hne]
        obtain ⟨o1, es1, ep1, g1, d1, _, f1⟩ := n1
        obtain ⟨o2, es2, ep2, g2, d2, _, f2⟩ := hm
        rw [g1] at g2; cases g2; rw [d1] at d2; cases d2
        rw [← f2, f1]; exact e1
      · exact .inr ⟨k1, c, e1, n1.sameBut hs (fun q => cell_ne_ns n1 hm q.symm)⟩
  · intro y c e
    obtain ⟨v', n⟩ := rel.cels y c e
    exact ⟨v', n.sameBut hs (fun q => cell_ne_ns n hm q.symm)⟩
  · intro b hb
    obtain ⟨h1, o, h2⟩ := rel.mineAbove b hb
    obtain ⟨o', h3⟩ := ext.alive b o h2
    exact ⟨h1, o', h3⟩

theorem Rel.setCell {x : String} {v : V} {w : Value} {c : Addr} {v₀ : Option Value} (rel : Rel K F σ ρ s) (hk : F.env.kindOf (Str.ofString x) = some .cell) (hc : F.env.cells.lookup (Str.ofString x) = some c) (hmine : c ∈ F.mine)
    (hinj : ∀ y, F.env.cells.lookup y = some c → y = Str.ofString x) (h0 : s.heap.IsCell c v₀)
    (hn : s'.heap.IsCell c (some w)) (hs : Heap.SameBut c s.heap s'.heap) (hr : Rep K s.heap ρ v w)
    (hg : s'.gens = s.gens) (ho : s'.os = s.os) : Rel K F (σ.put x v) ρ s' ∧ Ext F.mine ρ ρ s.heap s'.heap := by
  have ht : ∀ b o, s.heap.get? b = some o → Froz o → b ≠ c := fun b o e f => cell_ne_tup h0 e f
  have hal : ∃ o, s'.heap.get? c = some o := by obtain ⟨o, e, _⟩ := hn; exact ⟨o, e⟩
  have ext : Ext F.mine ρ ρ s.heap s'.heap := Ext.mineBut hmine hs hal ht
  refine ⟨{ toGRel := rel.toGRel.mineBut (rel.mineAbove _ hmine).1 (rel.mineApart _ hmine) hs ht hg ho, vars := ?_, loc := ?_, cels := ?_, mineAbove := ?_, mineApart := rel.mineApart, mineLoc := rel.mineLoc, frs := rel.frs.next fun b o es n g d => ⟨o, es, n, (hs.2 b (by
      rintro rfl
      obtain ⟨o', g', d'⟩ := h0
      rw [g] at g'; cases g'; rw [d] at d'; cases d')).trans g, d⟩ }, ext⟩
  · intro y u e
    by_cases hy : y = x
    · subst hy
      simp only [S.put, if_true, Option.some.injEq] at e
      subst e
      exact ⟨w, .inr ⟨.inl hk, c, hc, hn⟩, hr.mono ext⟩
    · simp only [S.put, if_neg hy] at e
      obtain ⟨w', h1, h2⟩ := rel.vars y u e
      refine ⟨w', ?_, h2.mono ext⟩
      rcases h1 with ⟨k1, m1, n1, e1⟩ | ⟨k1, c', e1, n1⟩
      · exact .inl ⟨k1, m1, n1.sameBut hs (cell_ne_ns h0 n1), e1⟩
      · have hne : c' ≠ c := by rintro rfl; exact hy (ofString_inj (hinj _ e1))
        exact .inr ⟨k1, c', e1, n1.sameBut hs hne⟩
  · obtain ⟨m, n⟩ := rel.loc; exact ⟨m, n.sameBut hs (cell_ne_ns h0 n)⟩
  · intro y c' e
    obtain ⟨v', n⟩ := rel.cels y c' e
    by_cases hcc : c' = c
    · subst hcc; exact ⟨_, hn⟩
    · exact ⟨v', n.sameBut hs hcc⟩
  · intro b hb
    obtain ⟨h1, o, h2⟩ := rel.mineAbove b hb
    obtain ⟨o', h3⟩ := ext.alive b o h2
    exact ⟨h1, o', h3⟩
end

end Mine


/-! part F3 -/
set_option autoImplicit false
set_option maxRecDepth 100000
open PySem PySem.W PyProof.Rows
namespace Mine

inductive Fl where
  | next | brk | cont
  | ret (v : V)

noncomputable def FlRep (K : Glo) (h : Heap) (ρ : List Addr) : Fl → Flow → Prop
  | .next, f => f = .next
  | .brk, f => f = .brk
  | .cont, f => f = .cont
  | .ret v, f => ∃ w, f = .ret w ∧ Rep K h ρ v w

noncomputable def SimE (K : Glo) (F : Frm) (e : Expr) (m : M V) : Prop := ∀ σ ρ s, Rel K F σ ρ s → Run K F (eval e F.env) (Rep K) (m σ) ρ s
noncomputable def BRep (_ : Heap) (_ : List Addr) (b : Bool) (a : Bool) : Prop := a = b
noncomputable def SimB (K : Glo) (F : Frm) (e : Expr) (m : M Bool) : Prop := ∀ σ ρ s, Rel K F σ ρ s → Run K F (isTrue e F.env (eval e F.env)) BRep (m σ) ρ s
noncomputable def SimS (K : Glo) (F : Frm) (st : Stmt) (m : M Fl) : Prop := ∀ σ ρ s, Rel K F σ ρ s → Run K F (exec st F.env) (FlRep K) (m σ) ρ s
noncomputable def SimSs (K : Glo) (F : Frm) (st : List Stmt) (m : M Fl) : Prop := ∀ σ ρ s, Rel K F σ ρ s → Run K F (execs st F.env) (FlRep K) (m σ) ρ s
noncomputable def URep (_ : Heap) (_ : List Addr) (_ : Unit) (_ : Unit) : Prop := True
noncomputable def SimT (K : Glo) (F : Frm) (e : Expr) (m : V → M Unit) : Prop := ∀ σ ρ s v w, Rel K F σ ρ s → Rep K s.heap ρ v w → Run K F (assign e F.env w) URep (m v σ) ρ s

structure FOk (F : Frm) : Prop where
  kind : F.env.scope.kind = .function
  glob : F.env.globals = mainGlobals
  blt : F.env.builtins = builtinsNs
  hd : F.nh = true → F.A.handled = none
  units : F.A.units + 1000 < cLine

noncomputable def getv (x : String) : M V := fun σ => match σ.lo x with | some v => .ok v σ | none => .stuck
noncomputable def setv (x : String) (v : V) : M Unit := fun σ => .ok () (σ.put x v)

variable {K : Glo} {F : Frm}

theorem Run.ok {α β : Type} {t : Sem α} {R : Heap → List Addr → β → α → Prop} {b : β} {σ' : S} {ρ : List Addr} {s : Shared}
    (h : wpAny (model K.prog K.w) F.A t (fun a s' => ∃ ρ', Rel K F σ' ρ' s' ∧ Ext F.mine ρ ρ' s.heap s'.heap ∧ R s'.heap ρ' b a) (fun _ _ => False) s) : Run K F t R (.ok b σ') ρ s := h

/-! ### names and constants -/
theorem simE_name (fk : FOk F) (x : String) (pos : Pos) (hd : (Str.ofString x == ("__debug__" : Str)) = false := by decide) (hc : (Str.ofString x == ("__classdict__" : Str)) = false := by decide) :
    SimE K F (.Name (Str.ofString x) pos) (getv x) := by
  intro σ ρ s rel
  unfold getv
  cases e : σ.lo x with
  | none => exact Run.stuck
  | some v =>
    dsimp only
    obtain ⟨w, h1, h2⟩ := rel.vars x v e
    refine Run.ok (wpAny_Name ?_ hd)
    have fin : ∃ ρ', Rel K F σ ρ' s ∧ Ext F.mine ρ ρ' s.heap s.heap ∧ Rep K s.heap ρ' v w := ⟨ρ, rel, Ext.refl .., h2⟩
    rcases h1 with ⟨k, m, n, em⟩ | ⟨k | k, c, ec, n⟩
    · exact wpAny_loadName_local fk.kind k n em fin
    · exact wpAny_loadName_cell fk.kind k ec n fin
    · exact wpAny_loadName_free fk.kind k ec n fin hc

theorem simE_none (k : Nat) (pos : Pos) : SimE K F (.Constant .none k pos) (pure .none) := fun _ ρ _ rel => Run.ok (wpAny_Constant_none ⟨ρ, rel, Ext.refl .., Rep.none⟩)
theorem simE_bool (b : Bool) (k : Nat) (pos : Pos) : SimE K F (.Constant (.bool b) k pos) (pure (.bool b)) := fun _ ρ _ rel => Run.ok (wpAny_Constant_bool ⟨ρ, rel, Ext.refl .., Rep.bool b⟩)
theorem simE_int (i : Int) (k : Nat) (pos : Pos) : SimE K F (.Constant (.int i) k pos) (pure (.int i)) := fun _ ρ _ rel => Run.ok (wpAny_Constant_int ⟨ρ, rel.tok _, Ext.refl .., Rep.int ..⟩)
theorem simE_str (x : Str) (k : Nat) (pos : Pos) : SimE K F (.Constant (.str x) k pos) (pure (.str x)) := fun _ ρ _ rel => Run.ok (wpAny_Constant_str ⟨ρ, rel.tok _, Ext.refl .., Rep.str ..⟩)

/-! ### operators -/
noncomputable def BinOk (K : Glo) (op : Operator) (f : V → V → M V) : Prop :=
  ∀ F : Frm, FOk F → ∀ σ ρ s a b wa wb, Rel K F σ ρ s → Rep K s.heap ρ a wa → Rep K s.heap ρ b wb → Run K F (binaryOp op wa wb) (Rep K) (f a b σ) ρ s
noncomputable def CmpOk (K : Glo) (op : CmpOp) (f : V → V → M V) : Prop :=
  ∀ F : Frm, FOk F → ∀ σ ρ s a b wa wb, Rel K F σ ρ s → Rep K s.heap ρ a wa → Rep K s.heap ρ b wb → Run K F (compareOp op wa wb) (Rep K) (f a b σ) ρ s
noncomputable def TruOk (K : Glo) (f : V → M Bool) : Prop :=
  ∀ F : Frm, FOk F → ∀ σ ρ s a wa, Rel K F σ ρ s → Rep K s.heap ρ a wa → Run K F (truthy wa) BRep (f a σ) ρ s

theorem simE_bin (fk : FOk F) {op : Operator} {f : V → V → M V} (ho : BinOk K op f) {l r : Expr} {ml mr : M V} (pos : Pos) (hl : SimE K F l ml) (hr : SimE K F r mr) :
    SimE K F (.BinOp l op r pos) (do let a ← ml; let b ← mr; f a b) := by
  intro σ ρ s rel
  rw [eval_BinOp]
  refine Run.bind (hl σ ρ s rel) fun a σ₁ ρ₁ s₁ wa _ rel₁ x₁ ra => ?_
  refine Run.bind (Run.holding (hr σ₁ ρ₁ s₁ rel₁)) fun b σ₂ ρ₂ s₂ wb _ rel₂ x₂ rb => ?_
  exact Run.standAt (Run.operate (ho F fk σ₂ ρ₂ s₂ a b wa wb rel₂ (ra.mono x₂) rb))

theorem simE_cmp (fk : FOk F) {op : CmpOp} {f : V → V → M V} (ho : CmpOk K op f) {l r : Expr} {ml mr : M V} (pos : Pos) (hl : SimE K F l ml) (hr : SimE K F r mr)
    (hm : behindInMarks op r = false := by rfl) :
    SimE K F (.Compare l [op] [r] pos) (do let a ← ml; let b ← mr; f a b) := by
  intro σ ρ s rel
  have e : eval (.Compare l [op] [r] pos) F.env = (do let left ← eval l F.env; let rv ← holding [left] (eval r F.env); standAt pos; operate [left, rv] (compareOp op left rv)) := by
    rw [eval_Compare1]
    simp only [markedBehindIn_of_false hm]
  rw [e]
  refine Run.bind (hl σ ρ s rel) fun a σ₁ ρ₁ s₁ wa _ rel₁ x₁ ra => ?_
  refine Run.bind (Run.holding (hr σ₁ ρ₁ s₁ rel₁)) fun b σ₂ ρ₂ s₂ wb _ rel₂ x₂ rb => ?_
  exact Run.standAt (Run.operate (ho F fk σ₂ ρ₂ s₂ a b wa wb rel₂ (ra.mono x₂) rb))

theorem simB_cmp (fk : FOk F) {op : CmpOp} {f : V → V → M V} (ho : CmpOk K op f) {tr : V → M Bool} (ht : TruOk K tr) {l r : Expr} {ml mr : M V} (pos : Pos) (hl : SimE K F l ml) (hr : SimE K F r mr)
    (hm : behindInMarks op r = false := by rfl) :
    SimB K F (.Compare l [op] [r] pos) (do let a ← ml; let b ← mr; let c ← f a b; tr c) := by
  intro σ ρ s rel
  have e : isTrue (.Compare l [op] [r] pos) F.env (eval (.Compare l [op] [r] pos) F.env) = (do let left ← eval l F.env; let rv ← holding [left] (eval r F.env); standAt pos; let c ← operate [left, rv] (compareOp op left rv); holding [c] (truthy c)) := by
    rw [isTrue_Compare1]
    simp only [markedBehindIn_of_false hm]
  rw [e]
  refine Run.bind (hl σ ρ s rel) fun a σ₁ ρ₁ s₁ wa _ rel₁ x₁ ra => ?_
  refine Run.bind (Run.holding (hr σ₁ ρ₁ s₁ rel₁)) fun b σ₂ ρ₂ s₂ wb _ rel₂ x₂ rb => ?_
  refine Run.standAt (Run.bind (Run.operate (ho F fk σ₂ ρ₂ s₂ a b wa wb rel₂ (ra.mono x₂) rb)) fun c σ₃ ρ₃ s₃ wc _ rel₃ x₃ rc => ?_)
  exact Run.holding (ht F fk σ₃ ρ₃ s₃ c wc rel₃ rc)

theorem simB_val (fk : FOk F) {tr : V → M Bool} (ht : TruOk K tr) {e : Expr} {m : M V} (he : SimE K F e m)
    (hi : isTrue e F.env (eval e F.env) = (do let v ← eval e F.env; standAt e.pos; holding [v] (truthy v)) := by rfl) :
    SimB K F e (do let v ← m; tr v) := by
  intro σ ρ s rel
  rw [hi]
  refine Run.bind (he σ ρ s rel) fun a σ₁ ρ₁ s₁ wa _ rel₁ x₁ ra => ?_
  exact Run.standAt (Run.holding (ht F fk σ₁ ρ₁ s₁ a wa rel₁ ra))

theorem simB_not {e : Expr} {m : M Bool} (pos : Pos) (he : SimB K F e m) : SimB K F (.UnaryOp .Not e pos) (do let b ← m; pure (!b)) := by
  intro σ ρ s rel
  show Run K F (do return !(← isTrue e F.env (eval e F.env))) BRep _ ρ s
  refine Run.bind (he σ ρ s rel) fun b σ₁ ρ₁ s₁ wb _ rel₁ x₁ rb => ?_
  have : wb = b := rb
  subst this
  exact Run.pure rel₁ rfl

noncomputable def SimAll (K : Glo) (F : Frm) (op : BoolOp) (es : List Expr) (m : M Bool) : Prop := ∀ σ ρ s, Rel K F σ ρ s → Run K F (allTrue op es F.env) BRep (m σ) ρ s
theorem simAll_and_nil : SimAll K F .And [] (pure true) := fun _ _ _ rel => Run.pure rel rfl
theorem simAll_or_nil : SimAll K F .Or [] (pure false) := fun _ _ _ rel => Run.pure rel rfl
theorem simAll_and {e : Expr} {es : List Expr} {m ms : M Bool} (he : SimB K F e m) (hs : SimAll K F .And es ms) : SimAll K F .And (e :: es) (do if (← m) = true then ms else pure false) := by
  intro σ ρ s rel
  show Run K F (do match BoolOp.And, ← isTrue e F.env (eval e F.env) with
    | .And, false => pure false
    | .Or, true => pure true
    | _, _ => allTrue .And es F.env) BRep _ ρ s
  refine Run.bind (he σ ρ s rel) fun b σ₁ ρ₁ s₁ wb _ rel₁ x₁ rb => ?_
  have : wb = b := rb
  subst this
  cases wb with
  | false => simp only [Bool.false_eq_true, if_false]; exact Run.pure rel₁ rfl
  | true => simp only [if_true]; exact hs σ₁ ρ₁ s₁ rel₁
theorem simAll_or {e : Expr} {es : List Expr} {m ms : M Bool} (he : SimB K F e m) (hs : SimAll K F .Or es ms) : SimAll K F .Or (e :: es) (do if (← m) = true then pure true else ms) := by
  intro σ ρ s rel
  show Run K F (do match BoolOp.Or, ← isTrue e F.env (eval e F.env) with
    | .And, false => pure false
    | .Or, true => pure true
    | _, _ => allTrue .Or es F.env) BRep _ ρ s
  refine Run.bind (he σ ρ s rel) fun b σ₁ ρ₁ s₁ wb _ rel₁ x₁ rb => ?_
  have : wb = b := rb
  subst this
  cases wb with
  | false => simp only [Bool.false_eq_true, if_false]; exact hs σ₁ ρ₁ s₁ rel₁
  | true => simp only [if_true]; exact Run.pure rel₁ rfl
theorem simB_boolop {op : BoolOp} {es : List Expr} {m : M Bool} (pos : Pos) (h : SimAll K F op es m) : SimB K F (.BoolOp op es pos) m := fun σ ρ s rel => h σ ρ s rel

/-- the value of «x and y»: both are bools -/
noncomputable def SimBo (K : Glo) (F : Frm) (pos : Pos) (op : BoolOp) (es : List Expr) (m : M V) : Prop := ∀ σ ρ s, Rel K F σ ρ s → Run K F (boolOp pos op (evalEach es F.env)) (Rep K) (m σ) ρ s
theorem simBo_one {e : Expr} {m : M V} {pos : Pos} {op : BoolOp} (he : SimE K F e m) : SimBo K F pos op [e] m := fun σ ρ s rel => he σ ρ s rel
theorem simBo_and (fk : FOk F) {tr : V → M Bool} (ht : TruOk K tr) {e e' : Expr} {es : List Expr} {m ms : M V} {pos : Pos} (he : SimE K F e m) (hs : SimBo K F pos .And (e' :: es) ms) :
    SimBo K F pos .And (e :: e' :: es) (do let v ← m; if (← tr v) = true then ms else pure v) := by
  intro σ ρ s rel
  show Run K F (do
    let v ← eval e F.env
    standAt pos
    let t ← holding [v] (truthy v)
    match BoolOp.And, t with
    | .And, false | .Or, true => pure v
    | _, _ => boolOp pos .And (evalEach (e' :: es) F.env)) (Rep K) _ ρ s
  refine Run.bind (he σ ρ s rel) fun v σ₁ ρ₁ s₁ wv _ rel₁ x₁ rv => ?_
  refine Run.standAt (Run.bind (Run.holding (ht F fk σ₁ ρ₁ s₁ v wv rel₁ rv)) fun b σ₂ ρ₂ s₂ wb _ rel₂ x₂ rb => ?_)
  have : wb = b := rb
  subst this
  cases wb with
  | false => simp only [Bool.false_eq_true, if_false]; exact Run.pure rel₂ (rv.mono x₂)
  | true => simp only [if_true]; exact hs σ₂ ρ₂ s₂ rel₂
theorem simBo_or (fk : FOk F) {tr : V → M Bool} (ht : TruOk K tr) {e e' : Expr} {es : List Expr} {m ms : M V} {pos : Pos} (he : SimE K F e m) (hs : SimBo K F pos .Or (e' :: es) ms) :
    SimBo K F pos .Or (e :: e' :: es) (do let v ← m; if (← tr v) = true then pure v else ms) := by
  intro σ ρ s rel
  show Run K F (do
    let v ← eval e F.env
    standAt pos
    let t ← holding [v] (truthy v)
    match BoolOp.Or, t with
    | .And, false | .Or, true => pure v
    | _, _ => boolOp pos .Or (evalEach (e' :: es) F.env)) (Rep K) _ ρ s
  refine Run.bind (he σ ρ s rel) fun v σ₁ ρ₁ s₁ wv _ rel₁ x₁ rv => ?_
  refine Run.standAt (Run.bind (Run.holding (ht F fk σ₁ ρ₁ s₁ v wv rel₁ rv)) fun b σ₂ ρ₂ s₂ wb _ rel₂ x₂ rb => ?_)
  have : wb = b := rb
  subst this
  cases wb with
  | false => simp only [Bool.false_eq_true, if_false]; exact hs σ₂ ρ₂ s₂ rel₂
  | true => simp only [if_true]; exact Run.pure rel₂ (rv.mono x₂)
theorem simE_boolop {op : BoolOp} {es : List Expr} {m : M V} {pos : Pos} (h : SimBo K F pos op es m) : SimE K F (.BoolOp op es pos) m := fun σ ρ s rel => h σ ρ s rel

theorem simE_ite {test body orelse : Expr} {mt : M Bool} {mb mo : M V} (pos : Pos) (ht : SimB K F test mt) (hb : SimE K F body mb) (ho : SimE K F orelse mo) :
    SimE K F (.IfExp test body orelse pos) (do if (← mt) = true then mb else mo) := by
  intro σ ρ s rel
  show Run K F (do if ← isTrue test F.env (eval test F.env) then eval body F.env else eval orelse F.env) (Rep K) _ ρ s
  refine Run.bind (ht σ ρ s rel) fun b σ₁ ρ₁ s₁ wb _ rel₁ x₁ rb => ?_
  have : wb = b := rb
  subst this
  cases wb with
  | false => simp only [Bool.false_eq_true, if_false]; exact ho σ₁ ρ₁ s₁ rel₁
  | true => simp only [if_true]; exact hb σ₁ ρ₁ s₁ rel₁

/-! ### several expressions -/
noncomputable def SimEs (K : Glo) (F : Frm) (es : List Expr) (m : M (List V)) : Prop := ∀ (pos : Pos) σ ρ s, Rel K F σ ρ s → Run K F (spliced (backTo pos (starEach es F.env))) (RepL K) (m σ) ρ s
theorem simEs_nil : SimEs K F [] (pure []) := fun _ _ _ _ rel => Run.pure rel RepL.nil
theorem spliced_cons_eq (x : Sem Value) (rest : List (Bool × Sem Value)) : spliced ((false, x) :: rest) = (do let v ← x; let vs ← holding [v] (spliced rest); pure ([v] ++ vs)) := by
  rfl
theorem simEs_cons {e : Expr} {es : List Expr} {m : M V} {ms : M (List V)} (he : SimE K F e m) (hs : SimEs K F es ms)
    (hst : starEach (e :: es) F.env = (false, eval e F.env) :: starEach es F.env := by rfl) : SimEs K F (e :: es) (do let v ← m; let vs ← ms; pure (v :: vs)) := by
  intro pos σ ρ s rel
  rw [hst]
  show Run K F (spliced ((false, eval e F.env) :: backTo pos (starEach es F.env))) _ _ ρ s
  rw [spliced_cons_eq]
  refine Run.bind (he σ ρ s rel) fun a σ₁ ρ₁ s₁ wa _ rel₁ x₁ ra => ?_
  refine Run.bind (Run.holding (hs pos σ₁ ρ₁ s₁ rel₁)) fun b σ₂ ρ₂ s₂ wb _ rel₂ x₂ rb => ?_
  exact Run.pure rel₂ (RepL.cons (ra.mono x₂) rb)

/-! ### displays -/
noncomputable def newL (vs : List V) : M V := fun σ => if vs.length ≤ 1000000 then .ok (.obj σ.st.length) { σ with st := σ.st ++ [.lst vs] } else .stuck
theorem sizeLine_ge {n : Nat} (h : n ≤ 1000000) : n ≤ sizeLine := by rw [sizeLine_eq]; (first | lia | omega)

theorem run_newList {σ : S} {ρ : List Addr} {s : Shared} {vs : List V} {ws : List Value} (rel : Rel K F σ ρ s) (r : RepL K s.heap ρ vs ws) : Run K F (newList ws) (Rep K) (newL vs σ) ρ s := by
  unfold newL
  by_cases hn : vs.length ≤ 1000000
  · rw [if_pos hn]
    obtain ⟨rel', x⟩ := rel.newList (o := { cls := .type "list", data := .seq ws.toArray }) rfl r hn s.toks
    refine Run.ok (wpAny_newList ⟨_, rel', x, ?_⟩ (sizeLine_ge (by rw [r.length]; exact hn)))
    refine Rep.obj_iff.mpr ⟨_, ?_, rfl⟩
    rw [← rel.len, List.getElem?_concat_length]
  · rw [if_neg hn]; exact Run.stuck

theorem simE_list {es : List Expr} {ms : M (List V)} (pos : Pos) (hs : SimEs K F es ms) : SimE K F (.List es pos) (do let vs ← ms; newL vs) := by
  intro σ ρ s rel
  show Run K F (do standAt pos; newList (← spliced (backTo pos (starEach es F.env)))) (Rep K) _ ρ s
  refine Run.standAt (Run.bind (hs pos σ ρ s rel) fun a σ₁ ρ₁ s₁ wa _ rel₁ x₁ ra => ?_)
  exact run_newList rel₁ ra

theorem run_newTuple {σ : S} {ρ : List Addr} {s : Shared} {vs : List V} {ws : List Value} (rel : Rel K F σ ρ s) (r : RepL K s.heap ρ vs ws) (hn : vs.length ≤ 1000000) : Run K F (newTuple ws) (Rep K) (.ok (.tup vs) σ) ρ s := by
  have x : Ext F.mine ρ ρ s.heap (s.heap.push { cls := .type "tuple", data := .seq ws.toArray }) := Ext.push _
  refine Run.ok (wpAny_newTuple ⟨ρ, rel.push _ s.toks, x, ?_⟩ (sizeLine_ge (by rw [r.length]; exact hn)))
  exact Rep.tup_iff.mpr ⟨hn, _, ws, rfl, IsTup.new _ _, r.mono x⟩

noncomputable def mkT (vs : List V) : M V := fun σ => if vs.length ≤ 1000000 then .ok (.tup vs) σ else .stuck
theorem simE_tuple {es : List Expr} {ms : M (List V)} (k : Nat) (pos : Pos) (hs : SimEs K F es ms) : SimE K F (.Tuple es k pos) (do let vs ← ms; mkT vs) := by
  intro σ ρ s rel
  show Run K F (do standAt pos; newTuple (← spliced (backTo pos (starEach es F.env)))) (Rep K) _ ρ s
  refine Run.standAt (Run.bind (hs pos σ ρ s rel) fun a σ₁ ρ₁ s₁ wa _ rel₁ x₁ ra => ?_)
  unfold mkT
  split
  · exact run_newTuple rel₁ ra ‹_›
  · exact Run.stuck

/-! ### statements -/
theorem simSs_nil : SimSs K F [] (pure .next) := fun _ _ _ rel => Run.pure rel rfl
noncomputable def seqM (a b : M Fl) : M Fl := do
  match ← a with
  | .next => b
  | f => pure f
theorem simSs_cons {st : Stmt} {sts : List Stmt} {m ms : M Fl} (h : SimS K F st m) (hs : SimSs K F sts ms) : SimSs K F (st :: sts) (seqM m ms) := by
  intro σ ρ s rel
  show Run K F (do match ← exec st F.env with | .next => execs sts F.env | f => pure f) _ _ ρ s
  refine Run.bind (h σ ρ s rel) fun f σ₁ ρ₁ s₁ wf _ rel₁ x₁ rf => ?_
  cases f with
  | next => have : wf = .next := rf; subst this; exact hs σ₁ ρ₁ s₁ rel₁
  | brk => have : wf = .brk := rf; subst this; exact Run.pure rel₁ rfl
  | cont => have : wf = .cont := rf; subst this; exact Run.pure rel₁ rfl
  | ret v => obtain ⟨w, e, r⟩ := rf; subst e; exact Run.pure rel₁ ⟨w, rfl, r⟩
theorem simSs_one {st : Stmt} {m : M Fl} (h : SimS K F st m) : SimSs K F [st] m := by
  intro σ ρ s rel
  have := simSs_cons h simSs_nil σ ρ s rel
  have e : seqM m (pure .next) σ = m σ := by
    unfold seqM
    rw [M.bind_def]
    cases m σ with
    | stuck => rfl
    | exc x y => rfl
    | ok f y => cases f <;> rfl
  rw [e] at this; exact this

theorem simS_break (pos : Pos) : SimS K F (.Break pos) (pure .brk) := fun _ _ _ rel => Run.standAt (Run.pure rel rfl)
theorem simS_continue (pos : Pos) : SimS K F (.Continue pos) (pure .cont) := fun _ _ _ rel => Run.standAt (Run.pure rel rfl)
theorem simS_return {e : Expr} {m : M V} (pos : Pos) (h : SimE K F e m) : SimS K F (.Return (some e) pos) (do let v ← m; pure (.ret v)) := by
  intro σ ρ s rel
  rw [exec_Return_some]
  exact Run.standAt (Run.bind (h σ ρ s rel) fun v σ₁ ρ₁ s₁ w _ rel₁ x₁ r => Run.pure rel₁ ⟨w, rfl, r⟩)
theorem simS_if {test : Expr} {body orelse : List Stmt} {mt : M Bool} {mb mo : M Fl} (pos : Pos) (ht : SimB K F test mt) (hb : SimSs K F body mb) (ho : SimSs K F orelse mo) :
    SimS K F (.If test body orelse pos) (do if (← mt) = true then mb else mo) := by
  intro σ ρ s rel
  rw [exec_If]
  refine Run.standAt (Run.bind (ht σ ρ s rel) fun b σ₁ ρ₁ s₁ wb _ rel₁ x₁ rb => ?_)
  have : wb = b := rb
  subst this
  cases wb with
  | false => simp only [Bool.false_eq_true, if_false]; exact ho σ₁ ρ₁ s₁ rel₁
  | true => simp only [if_true]; exact hb σ₁ ρ₁ s₁ rel₁

theorem interactive_of (fk : FOk F) : interactive F.env = false := by
  unfold interactive; rw [fk.kind]; rfl
theorem run_dropValue {e : Expr} {pos : Pos} {v : Value} {σ : S} {ρ : List Addr} {s : Shared} (rel : Rel K F σ ρ s) : Run K F (dropValue e pos v) (FlRep K) (.ok .next σ) ρ s :=
  Run.ok (wpAny_dropValue ⟨ρ, rel, Ext.refl .., rfl⟩)
theorem simS_expr (fk : FOk F) {e : Expr} {m : M V} (pos : Pos) (h : SimE K F e m) (hs : swapsWith e none pos.line F.env = pure false := by rfl) :
    SimS K F (.Expr e pos) (do let _ ← m; pure .next) := by
  intro σ ρ s rel
  rw [exec_Expr F.env e pos (interactive_of fk) hs]
  exact Run.standAt (Run.bind (h σ ρ s rel) fun v σ₁ ρ₁ s₁ w _ rel₁ x₁ r => run_dropValue rel₁)

theorem simT_local (x : String) (pos : Pos) (fk : FOk F) (hk : F.env.kindOf (Str.ofString x) = some .local) : SimT K F (.Name (Str.ofString x) pos) (fun v => setv x v) := by
  intro σ ρ s v w rel r
  refine Run.ok (wpAny_assign_Name ?_)
  obtain ⟨m, hm⟩ := rel.loc
  refine wpAny_storeName_local hk hm (fun h' hn hs => ?_) (by rw [fk.kind]; rfl)
  obtain ⟨rel', x'⟩ := rel.setLocal (s' := { s with heap := h', toks := s.toks + 1 }) hk hm hn hs r rfl rfl
  exact ⟨ρ, rel', x', trivial⟩
theorem simT_cell (x : String) (pos : Pos) (fk : FOk F) {c : Addr} (hk : F.env.kindOf (Str.ofString x) = some .cell) (hc : F.env.cells.lookup (Str.ofString x) = some c) (hm : c ∈ F.mine)
    (hinj : ∀ y, F.env.cells.lookup y = some c → y = Str.ofString x) : SimT K F (.Name (Str.ofString x) pos) (fun v => setv x v) := by
  intro σ ρ s v w rel r
  refine Run.ok (wpAny_assign_Name ?_)
  obtain ⟨v₀, h0⟩ := rel.cels _ _ hc
  refine wpAny_storeName_cell fk.kind hk hc h0 (fun h' hn hs => ?_)
  obtain ⟨rel', x'⟩ := rel.setCell (s' := { s with heap := h' }) hk hc hm hinj h0 hn hs r rfl rfl
  exact ⟨ρ, rel', x', trivial⟩

theorem exec_Assign1 (env : Env) (targets : List Expr) (value : Expr) (pos : Pos) : exec (.Assign targets value pos) env = (do
    standAt pos
    if ← swapsWithSole targets value pos.line env then do
      evalThenUse value env fun v => assignAll v ((assignEach targets env).map (·.2))
      pure .next
    else do
      let v ← eval value env
      assignStores env v (← swappedStores targets value env) ((assignEach targets env).map (·.2))) := by rfl
theorem pureBind {α β : Type} (a : α) (f : α → Sem β) : (pure a >>= f) = f a := rfl

/-- target = value, the target no tuple -/
theorem simS_assign {t e : Expr} {mt : V → M Unit} {m : M V} (pos : Pos) (ht : SimT K F t mt) (h : SimE K F e m)
    (hs : swapsWith e (some t) pos.line F.env = pure false := by rfl) (hsw : swappedStores [t] e F.env = pure none := by rfl)
    (hst : assignEach [t] F.env = [(false, assign t F.env)] := by rfl) :
    SimS K F (.Assign [t] e pos) (do let v ← m; mt v; pure .next) := by
  intro σ ρ s rel
  rw [exec_Assign1]
  refine Run.standAt ?_
  rw [show swapsWithSole [t] e pos.line F.env = pure false from hs, pureBind, if_neg Bool.false_ne_true]
  refine Run.bind (h σ ρ s rel) fun v σ₁ ρ₁ s₁ w _ rel₁ x₁ r => ?_
  rw [hsw, hst, pureBind]
  show Run K F (do assign t F.env w; (pure Flow.next : Sem Flow)) _ _ ρ₁ s₁
  exact Run.bind (ht σ₁ ρ₁ s₁ v w rel₁ r) fun _ σ₂ ρ₂ s₂ _ _ rel₂ _ _ => Run.pure rel₂ rfl

end Mine


/-! part F4 -/
set_option autoImplicit false
set_option maxRecDepth 100000
open PySem PySem.W PyProof.Rows
namespace Mine

variable {K : Glo} {F : Frm}

noncomputable def QO {α β : Type} (K : Glo) (F : Frm) (R : Heap → List Addr → β → α → Prop) (out : Res S β) (ρ : List Addr) (h : Heap) : α → Shared → Prop :=
  fun a s' => ∃ b σ' ρ', out = .ok b σ' ∧ Rel K F σ' ρ' s' ∧ Ext F.mine ρ ρ' h s'.heap ∧ R s'.heap ρ' b a
noncomputable def EO {β : Type} (K : Glo) (F : Frm) (out : Res S β) (ρ : List Addr) (h : Heap) : Value → Shared → Prop :=
  fun v s' => ∃ e σ' ρ', out = .exc e σ' ∧ Rel K F σ' ρ' s' ∧ Ext F.mine ρ ρ' h s'.heap ∧ XRep K F e h v s'

theorem Run.wp {α β : Type} {t : Sem α} {R : Heap → List Addr → β → α → Prop} {out : Res S β} {ρ : List Addr} {s : Shared} (h : Run K F t R out ρ s) (hne : out ≠ .stuck) :
    wpAny (model K.prog K.w) F.A t (QO K F R out ρ s.heap) (EO K F out ρ s.heap) s := by
  cases out with
  | stuck => exact absurd rfl hne
  | ok b σ' => exact wpAny_mono h (fun a s' ⟨ρ', h1, h2, h3⟩ => ⟨b, σ', ρ', rfl, h1, h2, h3⟩) fun _ _ h => h.elim
  | exc e σ' => exact wpAny_mono h (fun _ _ h => h.elim) fun a s' ⟨ρ', h1, h2, h3⟩ => ⟨e, σ', ρ', rfl, h1, h2, h3⟩
theorem Run.of_wp {α β : Type} {t : Sem α} {R : Heap → List Addr → β → α → Prop} {out : Res S β} {ρ : List Addr} {s : Shared}
    (h : out ≠ .stuck → wpAny (model K.prog K.w) F.A t (QO K F R out ρ s.heap) (EO K F out ρ s.heap) s) : Run K F t R out ρ s := by
  cases out with
  | stuck => trivial
  | ok b σ' =>
    refine wpAny_mono (h (by simp)) (fun a s' hq => ?_) fun a s' he => ?_
    · obtain ⟨b', σ'', ρ', e, h1, h2, h3⟩ := hq; cases e; exact ⟨ρ', h1, h2, h3⟩
    · obtain ⟨_, _, _, e, _⟩ := he; cases e
  | exc x σ' =>
    refine wpAny_mono (h (by simp)) (fun a s' hq => ?_) fun a s' he => ?_
    · obtain ⟨_, _, _, e, _⟩ := hq; cases e
    · obtain ⟨b', σ'', ρ', e, h1, h2, h3⟩ := he; cases e; exact ⟨ρ', h1, h2, h3⟩

theorem noteFrame_congr {e : Value} {env env' : Env} (h : env.frame = env'.frame) : noteFrame e env = noteFrame e env' := by
  unfold noteFrame PySem.frameOf
  rw [h]
theorem FramesOk.fun_ {h : Heap} {l : List Env} (x : FramesOk K h l) : h.FunFrames K.base l := by
  induction l with
  | nil => trivial
  | cons env l ih =>
    obtain ⟨k, L, o, es, n, f, b, g, d⟩ := x env List.mem_cons_self
    exact ⟨k, ⟨L, o, f, b, g, fun vs q => by rw [d] at q; cases q⟩, ih fun e he => x e (List.mem_cons_of_mem _ he)⟩
theorem FramesOk.mem_frame {h : Heap} {l : List Env} (x : FramesOk K h l) {b : Addr} (hb : b ∈ l.filterMap (·.frame)) : K.base.get? b = none ∧ ∃ o es n, h.get? b = some o ∧ o.data = .dict es n := by
  obtain ⟨env, he, f⟩ := List.mem_filterMap.mp hb
  obtain ⟨k, L, o, es, n, f', bb, g, d⟩ := x env he
  rw [f'] at f; cases f
  exact ⟨bb, o, es, n, g, d⟩

/-- what noting changes: the exception's own objects X, and slots of frames -/
noncomputable def Hid0 (h : Heap) (b : Addr) : Prop := ∃ o vs, h.get? b = some o ∧ o.data = .fields vs ∧ o.cls ≠ .type "range"
structure Noted (K : Glo) (F : Frm) (X : List Addr) (h h' : Heap) : Prop where
  own : ∀ b ∈ X, K.base.get? b = none ∧ b ∉ F.mine ∧ (h.get? b = none ∨ Hid0 h b)
  keep : ∀ b o, b ∉ X → h.get? b = some o → ∃ o', h'.get? b = some o' ∧ Like o o' ∧ (K.base.get? b ≠ none → o' = o)
  live : ∀ b ∈ X, ∃ o, h'.get? b = some o
theorem Noted.apart {X : List Addr} {h h' : Heap} (x : Noted K F X h h') {b : Addr} {o : Obj} (g : h.get? b = some o) (hd : (∀ vs, o.data ≠ .fields vs) ∨ o.cls = .type "range") : b ∉ X := fun hb => by
  rcases (x.own b hb).2.2 with q | ⟨o', vs, q, d, c⟩
  · rw [g] at q; cases q
  · rw [g] at q; cases q
    rcases hd with hd | hd
    · exact hd vs d
    · exact c hd
theorem Noted.same {X : List Addr} {h h' : Heap} (x : Noted K F X h h') {b : Addr} {o : Obj} (g : h.get? b = some o) (hd : (∀ vs, o.data ≠ .fields vs) ∨ o.cls = .type "range") (hn : ∀ es n, o.data ≠ .dict es n) : h'.get? b = some o := by
  obtain ⟨o', g', l, _⟩ := x.keep b o (x.apart g hd) g
  rw [g', l.same hn]
theorem Noted.froz {X : List Addr} {h h' : Heap} (x : Noted K F X h h') (b : Addr) (o : Obj) (g : h.get? b = some o) (f : Froz o) : h'.get? b = some o := by
  rcases f with ⟨_, xs, n, d⟩ | ⟨c, vs, d⟩
  · exact x.same g (.inl fun vs q => by rw [d] at q; cases q) fun es n q => by rw [d] at q; cases q
  · exact x.same g (.inr c) fun es n q => by rw [d] at q; cases q
theorem Noted.base {X : List Addr} {h h' : Heap} (x : Noted K F X h h') {b : Addr} {o : Obj} (hb : K.base.get? b = some o) (g : h.get? b = some o) : h'.get? b = some o := by
  have hn : b ∉ X := fun q => by have := (x.own b q).1; rw [hb] at this; cases this
  obtain ⟨o', g', _, q⟩ := x.keep b o hn g
  rw [g', q (by rw [hb]; exact fun q => by cases q)]
theorem GRel.noted {st : Store} {ρ : List Addr} {s s' : Shared} {X : List Addr} (rel : GRel K st ρ s) (x : Noted K F X s.heap s'.heap) (hg : s'.gens = s.gens) (ho : s'.os = s.os) : GRel K st ρ s' where
  gens := hg.trans rel.gens
  os := ho.trans rel.os
  base := fun b o e => x.base e (rel.base b o e)
  len := rel.len
  cell := fun l b c h1 h2 => by
    refine (rel.cell l b c h1 h2).mono (List.prefix_refl _) x.froz fun it n y => ?_
    exact x.same y (.inl fun vs q => by cases q) fun es n q => by cases q
  nodup := rel.nodup
  above := rel.above
theorem Ext.noted {ρ ρ₀ X : List Addr} {h h₀ h' : Heap} (y : Ext F.mine ρ₀ ρ h₀ h) (x : Noted K F X h h') (hf : ∀ b ∈ X, h₀.get? b = none) : Ext F.mine ρ₀ ρ h₀ h' where
  pre := y.pre
  alive := fun b o e => by
    obtain ⟨o', e'⟩ := y.alive b o e
    obtain ⟨o2, e2, _⟩ := x.keep b o' (fun q => by rw [hf b q] at e; cases e) e'
    exact ⟨o2, e2⟩
  new := y.new
  keep := fun b o e n1 n2 => by
    obtain ⟨o', e', l⟩ := y.keep b o e n1 n2
    obtain ⟨o2, e2, l2, _⟩ := x.keep b o' (fun q => by rw [hf b q] at e; cases e) e'
    exact ⟨o2, e2, l.trans l2⟩
  froz := fun b o e f => x.froz b o (y.froz b o e f) f
theorem Rel.noted {σ : S} {ρ : List Addr} {s s' : Shared} {X : List Addr} (rel : Rel K F σ ρ s) (x : Noted K F X s.heap s'.heap) (hg : s'.gens = s.gens) (ho : s'.os = s.os) : Rel K F σ ρ s' := by
  have hns : ∀ {a : Addr} {m : Str → Option Value}, s.heap.Ns a m → s'.heap.Ns a m := by
    intro a m n
    obtain ⟨o, es, ep, g, d, k, f⟩ := n
    obtain ⟨o', g', l, _⟩ := x.keep a o (x.apart g (.inl fun vs q => by rw [d] at q; cases q)) g
    exact ⟨o', es, ep, g', l.data.1.trans d, k, f⟩
  have hcell : ∀ {c : Addr} {v : Option Value}, s.heap.IsCell c v → s'.heap.IsCell c v := by
    intro c v n
    obtain ⟨o, g, d⟩ := n
    exact ⟨o, x.same g (.inl fun vs q => by rw [d] at q; cases q) (fun es n q => by rw [d] at q; cases q), d⟩
  refine { toGRel := rel.toGRel.noted x hg ho, vars := ?_, loc := ?_, cels := ?_, mineAbove := ?_, mineApart := rel.mineApart, mineLoc := rel.mineLoc, frs := ?_ }
  · intro y u e
    obtain ⟨w, h1, h2⟩ := rel.vars y u e
    exact ⟨w, h1.mono (fun m n => hns n) (fun c u _ n => hcell n), Rep.mono' (List.prefix_refl _) x.froz h2⟩
  · obtain ⟨m, n⟩ := rel.loc; exact ⟨m, hns n⟩
  · intro y c e; obtain ⟨v, n⟩ := rel.cels y c e; exact ⟨v, hcell n⟩
  · intro b hb
    obtain ⟨h1, o, h2⟩ := rel.mineAbove b hb
    obtain ⟨o', g', _⟩ := x.keep b o (fun q => (x.own b q).2.1 hb) h2
    exact ⟨h1, o', g'⟩
  · refine rel.frs.next fun b o es n g d => ?_
    obtain ⟨o', g', l, _⟩ := x.keep b o (x.apart g (.inl fun vs q => by rw [d] at q; cases q)) g
    exact ⟨o', es, n, g', l.data.1.trans d⟩

/-- the new entry of a trace -/
theorem wp_entry {A : Around} {s : Shared} {env₀ : Env} {outer : List Env} {L a : Addr} {oe : Obj} {vs : Array Value} {head : Value} {hadNext : Bool} {Q : Unit → Shared → Prop} {E : Value → Shared → Prop}
    (hfr : A.frames = some (env₀ :: outer)) (hl : FramesOk K s.heap (env₀ :: outer)) (hf : env₀.frame = some L) (he : s.heap.get? a = some oe) (hd : oe.data = .fields vs) (hsz : 1 < vs.size)
    (h : ∀ h' T oT ts, s.heap.get? T = none → h'.get? T = some oT → oT.data = .fields ts → oT.cls = .type "traceback" → ts[3]? = some (rawInt L) → T ≠ a → h'.get? a = some (oe.mapFields (·.setIfInBounds 1 (.ref T))) →
      (∀ b o, b ≠ a → s.heap.get? b = some o → ∃ o', h'.get? b = some o' ∧ Like o o' ∧ (K.base.get? b ≠ none → o' = o)) → Q () { s with heap := h' }) :
    wpAny (model K.prog K.w) A (do let f ← PySem.frameOf env₀; let pl ← entryPlaceOf L hadNext; let b ← EntryCells.newEntry head f .none (rawInt L) .none pl; setField (.ref a) 1 b) Q E s := by
  have hane : a ∉ (env₀ :: outer).filterMap (·.frame) := fun hm => by
    obtain ⟨_, o, es, n, ho, hdd⟩ := hl.mem_frame hm
    rw [he] at ho; cases ho; rw [hd] at hdd; cases hdd
  refine wpAny_bind (wpAny_frameOf_fun hfr hl.fun_ hf fun h₁ hs₁ => ?_)
  refine wpAny_bind (wpAny_entryPlaceOf fun pl hpl => ?_)
  unfold EntryCells.newEntry newFields
  refine wpAny_bind (wpAny_newObj_type ?_ (hpl.sizeOk5 _ _ _ _ _))
  have he₁ : h₁.get? a = some oe := (hs₁.2.1 a hane).trans he
  have he₂ := Heap.get?_push_of_some (h := h₁) { cls := .type "traceback", dict := none, data := .fields ([head, .ref L, .none, rawInt L, .none] ++ (if pl.isEmpty then List.replicate 6 Value.none else pl)).toArray } he₁
  refine wpAny_setField he₂ hd hsz ?_
  have hTa : h₁.objs.size ≠ a := Nat.ne_of_gt (Heap.lt_size he₁)
  have hd₃ := Obj.data_mapFields hd (·.setIfInBounds 1 (Value.ref h₁.objs.size))
  refine h _ h₁.objs.size _ _ (Heap.get?_none_of_le (by rw [hs₁.1]; exact Nat.le_refl _)) ((Heap.get?_update_other _ _ (Ne.symm hTa)).trans (Heap.get?_push_size h₁ rfl)) rfl rfl ?_ hTa (Heap.get?_update_self _ he₂ (Obj.isFreed_of_fields hd₃)) ?_
  · first | (simp; done) | (rcases hpl with rfl | ⟨_, _, _, _, _, _, _, rfl⟩ <;> simp)
  · intro b o hba g
    obtain ⟨sl, g1⟩ := hs₁.2.2 b o g
    refine ⟨{ o with slots := sl }, ?_, ?_, ?_⟩
    · rw [Heap.get?_update_other _ _ (Ne.symm hba)]
      exact Heap.get?_push_of_some _ g1
    · by_cases hm : b ∈ (env₀ :: outer).filterMap (·.frame)
      · obtain ⟨_, o', es, n, ho, hdd⟩ := hl.mem_frame hm
        rw [g] at ho; cases ho
        exact .inr ⟨⟨es, n, hdd⟩, sl, rfl⟩
      · have := hs₁.2.1 b hm
        rw [g1, g] at this
        exact .inl (Option.some.inj this)
    · intro hb
      have hm : b ∉ (env₀ :: outer).filterMap (·.frame) := fun hm => hb (hl.mem_frame hm).1
      have := hs₁.2.1 b hm
      rw [g1, g] at this
      exact Option.some.inj this

/-- the frame notes an exception that goes through one of its blocks -/
theorem XRepB.noted {n : Bool} {e : Exc} {ρ ρ₀ : List Addr} {h₀ : Heap} {v : Value} {s : Shared} {σ : S} {Q : Unit → Shared → Prop} {E : Value → Shared → Prop} (x : XRepB n K F e h₀ v s) (rel : Rel K F σ ρ s) (ext : Ext F.mine ρ₀ ρ h₀ s.heap)
    (h : ∀ s', Rel K F σ ρ s' → Ext F.mine ρ₀ ρ h₀ s'.heap → XRepN K F e h₀ v s' → Q () s') : wpAny (model K.prog K.w) F.A (noteFrame v F.env) Q E s := by
  obtain ⟨X, hfresh, hX, hcls, a, t, tok, oe, vs, rfl, haX, ht, ha, hc, hd, h0, hst⟩ := x
  obtain ⟨env₀, outer, hfr, hfe, hfok⟩ := rel.frs
  obtain ⟨hk0, L, oL, esL, nL, hL, hLb, hLg, hLd⟩ := hfok env₀ List.mem_cons_self
  have hFL : F.env.frame = some L := by rw [← hfe]; exact hL
  have hidA : Hid0 s.heap a := ⟨oe, vs, ha, hd, by rw [hc]; intro q; injection q with q; exact hcls q⟩
  have hsz : 0 < vs.size := (Array.getElem?_eq_some_iff.mp h0).1
  have fresh0 : ∀ b, s.heap.get? b = none → h₀.get? b = none ∧ K.base.get? b = none ∧ b ∉ F.mine := by
    intro b hb
    refine ⟨?_, ?_, ?_⟩
    · cases q : h₀.get? b with
      | none => rfl
      | some o => obtain ⟨o', q'⟩ := ext.alive b o q; rw [hb] at q'; cases q'
    · cases q : K.base.get? b with
      | none => rfl
      | some o => have := rel.base b o q; rw [hb] at this; cases this
    · intro q
      obtain ⟨_, o, g⟩ := rel.mineAbove b q
      rw [hb] at g; cases g
  have htne : ∀ {h' : Heap}, (∀ o, Froz o → s.heap.get? t = some o → h'.get? t = some o) → IsTup h' t #[.str e.msg tok] := by
    intro h' hh
    obtain ⟨o, g, c, n, d⟩ := ht
    exact ⟨o, hh o (.inl ⟨c, _, n, d⟩) g, c, n, d⟩
  rw [noteFrame_congr (env' := env₀) hfe.symm]
  -- behind the new entry
  have fin : ∀ (s₁ : Shared) (X₁ : List Addr) (vs1 : vs.size > 1), s₁.gens = s.gens → s₁.os = s.os → (∀ b ∈ X₁, b ∈ X ∧ Hid0 s.heap b) → a ∈ X₁ → s₁.heap.get? a = some oe → (∀ b ∈ X₁, ∃ o, s₁.heap.get? b = some o) → (∀ b o, b ∉ X₁ → s.heap.get? b = some o → s₁.heap.get? b = some o) →
      (∀ b, s.heap.get? b = none → s₁.heap.get? b = none) → (∀ b, s₁.heap.get? b = none → s.heap.get? b = none) → FramesOk K s₁.heap (env₀ :: outer) → ∀ (head : Value) (hadNext : Bool),
      wpAny (model K.prog K.w) F.A (do let f ← PySem.frameOf env₀; let pl ← entryPlaceOf L hadNext; let b ← EntryCells.newEntry head f .none (rawInt L) .none pl; setField (.ref a) 1 b) Q E s₁ := by
    intro s₁ X₁ hsz1 hg1 ho1 hX1 haX1 ha1 hlive1 hkeep1 hnone1 hnone2 hfr1 head hadNext
    refine wp_entry hfr hfr1 hL ha1 hd hsz1 fun h' T oT ts hT hT' hTd hTc hT3 hTa ha' hkeep' => ?_
    obtain ⟨f1, f2, f3⟩ := fresh0 T (hnone2 T hT)
    have hnoted : Noted K F (T :: X₁) s.heap h' := by
      refine ⟨fun b hb => ?_, fun b o hb g => ?_, fun b hb => ?_⟩
      · rcases List.mem_cons.mp hb with rfl | hb
        · exact ⟨f2, f3, .inl (hnone2 _ hT)⟩
        · exact ⟨(hX b (hX1 b hb).1).1, (hX b (hX1 b hb).1).2, .inr (hX1 b hb).2⟩
      · have hb1 : b ∉ X₁ := fun q => hb (List.mem_cons_of_mem _ q)
        have hba : b ≠ a := fun q => hb1 (q ▸ haX1)
        exact hkeep' b o hba (hkeep1 b o hb1 g)
      · rcases List.mem_cons.mp hb with rfl | hb
        · exact ⟨_, hT'⟩
        · by_cases hba : b = a
          · subst hba; exact ⟨_, ha'⟩
          · obtain ⟨o, g⟩ := hlive1 b hb
            obtain ⟨o', g', _⟩ := hkeep' b o hba g
            exact ⟨o', g'⟩
    have hfr0 : ∀ b ∈ T :: X₁, h₀.get? b = none := by
      intro b hb
      rcases List.mem_cons.mp hb with rfl | hb
      · exact f1
      · exact hfresh b (hX1 b hb).1
    refine h { s₁ with heap := h' } (rel.noted hnoted hg1 ho1) (ext.noted hnoted hfr0) ⟨T :: X₁, hfr0, fun b hb => ⟨(hnoted.own b hb).1, (hnoted.own b hb).2.1⟩, hcls, a, t, tok, _, _, rfl, List.mem_cons_of_mem _ haX1, htne fun o f g => hnoted.froz t o g f, ha', (Obj.cls_mapFields ..).trans hc, Obj.data_mapFields hd _, ?_, .inr ⟨T, oT, ts, rawInt L, List.mem_cons_self, hTa, ?_, hT', hTd, hTc, hT3, .inr ⟨L, hFL, rfl⟩⟩⟩
    · rw [Array.getElem?_setIfInBounds_ne (by decide)]; exact h0
    · simp [hsz1]
  unfold noteFrame
  simp only [hL]
  rcases hst with ⟨_, h1⟩ | ⟨T, oT, ts, fl, hTX, hTa, h1, hTg, hTd, hTc, hT3, hfl⟩
  · have hsz1 : 1 < vs.size := (Array.getElem?_eq_some_iff.mp h1).1
    refine wpAny_bind (wpAny_field ha hd h1 ?_)
    rw [if_neg (by decide)]
    exact fin s [a] hsz1 rfl rfl (fun b hb => by rw [List.mem_singleton.mp hb]; exact ⟨haX, hidA⟩) (by simp) ha (fun b hb => by rw [List.mem_singleton.mp hb]; exact ⟨_, ha⟩) (fun _ _ _ g => g) (fun _ g => g) (fun _ g => g) hfok _ _
  · have hsz1 : 1 < vs.size := (Array.getElem?_eq_some_iff.mp h1).1
    have hsz3 : 3 < ts.size := (Array.getElem?_eq_some_iff.mp hT3).1
    refine wpAny_bind (wpAny_field ha hd h1 ?_)
    rw [if_pos (show (Value.ref T != Value.none) = true from by simp)]
    refine wpAny_bind (wpAny_field hTg hTd hT3 ?_)
    rcases hfl with rfl | ⟨L', hL', rfl⟩
    · rw [if_neg (show ¬ ((Value.none == rawInt L) = true) from by simp [rawInt])]
      refine wpAny_bind (wpAny_setField hTg hTd hsz3 ?_)
      have other : ∀ b, b ≠ T → (s.heap.update T (Obj.mapFields (·.setIfInBounds 3 Value.none))).get? b = s.heap.get? b := fun b hb => Heap.get?_update_other _ _ (Ne.symm hb)
      have hTself : (s.heap.update T (Obj.mapFields (·.setIfInBounds 3 Value.none))).get? T = some (Obj.mapFields (·.setIfInBounds 3 Value.none) oT) := Heap.get?_update_self _ hTg (Obj.isFreed_of_fields (Obj.data_mapFields hTd _))
      have hidT : Hid0 s.heap T := ⟨oT, ts, hTg, hTd, by rw [hTc]; decide⟩
      refine fin { s with heap := s.heap.update T (Obj.mapFields (·.setIfInBounds 3 Value.none)) } [a, T] hsz1 rfl rfl ?_ (by simp) ((other a (Ne.symm hTa)).trans ha) ?_ ?_ ?_ ?_ ?_ _ _
      · intro b hb
        simp only [List.mem_cons, List.not_mem_nil, or_false] at hb
        rcases hb with rfl | rfl
        · exact ⟨haX, hidA⟩
        · exact ⟨hTX, hidT⟩
      · intro b hb
        simp only [List.mem_cons, List.not_mem_nil, or_false] at hb
        rcases hb with rfl | rfl
        · exact ⟨_, (other _ (Ne.symm hTa)).trans ha⟩
        · exact ⟨_, hTself⟩
      · intro b o hb g
        simp only [List.mem_cons, List.not_mem_nil, or_false, not_or] at hb
        exact (other b hb.2).trans g
      · intro b hb
        have : b ≠ T := fun q => by rw [q, hTg] at hb; cases hb
        exact (other b this).trans hb
      · intro b hb
        have : b ≠ T := fun q => by rw [q, hTself] at hb; cases hb
        exact (other b this).symm.trans hb
      · refine hfok.next fun b o es n _ g d => ⟨o, es, n, (other b fun q => ?_).trans g, d⟩
        rw [q, hTg] at g; cases g; rw [hTd] at d; cases d
    · rw [hFL] at hL'; cases hL'
      rw [if_pos (show (rawInt L == rawInt L) = true from by simp)]
      exact wpAny_pure (h s rel ext ⟨X, hfresh, hX, hcls, a, t, tok, oe, vs, rfl, haX, ht, ha, hc, hd, h0, .inr ⟨T, oT, ts, rawInt L, hTX, hTa, h1, hTg, hTd, hTc, hT3, .inr ⟨L, hFL, rfl⟩⟩⟩)

/-- the flight mark is set -/
theorem XRepB.flight {e : Exc} {ρ ρ₀ : List Addr} {h₀ : Heap} {v : Value} {s : Shared} {σ : S} {fr : Option Addr} {Q : Unit → Shared → Prop} {E : Value → Shared → Prop} (x : XRepN K F e h₀ v s) (rel : Rel K F σ ρ s) (ext : Ext F.mine ρ₀ ρ h₀ s.heap) (hfl : fr = none ∨ fr = F.env.frame)
    (h : ∀ s', Rel K F σ ρ s' → Ext F.mine ρ₀ ρ h₀ s'.heap → (∃ X, (∀ b ∈ X, h₀.get? b = none) ∧ (∀ b ∈ X, K.base.get? b = none ∧ b ∉ F.mine) ∧ XObj true (fun fl => FlF F fl ∧ (fr = none → fl = .none)) e X v s'.heap) → Q () s') : wpAny (model K.prog K.w) F.A (setFlight v fr) Q E s := by
  obtain ⟨X, hfresh, hX, hcls, a, t, tok, oe, vs, rfl, haX, ht, ha, hc, hd, h0, hst⟩ := x
  rcases hst with ⟨q, _⟩ | ⟨T, oT, ts, fl, hTX, hTa, h1, hTg, hTd, hTc, hT3, _⟩
  · cases q
  have hsz3 : 3 < ts.size := (Array.getElem?_eq_some_iff.mp hT3).1
  unfold setFlight
  refine wpAny_bind (wpAny_field ha hd h1 ?_)
  rw [if_pos (show (Value.ref T != Value.none) = true from by simp)]
  refine wpAny_setField hTg hTd hsz3 ?_
  have other : ∀ b, b ≠ T → (s.heap.update T (Obj.mapFields (·.setIfInBounds 3 (fr.elim .none fun f => rawInt f)))).get? b = s.heap.get? b := fun b hb => Heap.get?_update_other _ _ (Ne.symm hb)
  have hTself : (s.heap.update T (Obj.mapFields (·.setIfInBounds 3 (fr.elim .none fun f => rawInt f)))).get? T = some (Obj.mapFields (·.setIfInBounds 3 (fr.elim .none fun f => rawInt f)) oT) := Heap.get?_update_self _ hTg (Obj.isFreed_of_fields (Obj.data_mapFields hTd _))
  have hnoted : Noted K F [T] s.heap (s.heap.update T (Obj.mapFields (·.setIfInBounds 3 (fr.elim .none fun f => rawInt f)))) := by
    refine ⟨fun b hb => ?_, fun b o hb g => ⟨o, (other b (by simpa using hb)).trans g, .refl _, fun _ => rfl⟩, fun b hb => ?_⟩
    · rw [List.mem_singleton.mp hb]
      exact ⟨(hX T hTX).1, (hX T hTX).2, .inr ⟨oT, ts, hTg, hTd, by rw [hTc]; decide⟩⟩
    · rw [List.mem_singleton.mp hb]; exact ⟨_, hTself⟩
  have htt : IsTup (s.heap.update T (Obj.mapFields (·.setIfInBounds 3 (fr.elim .none fun f => rawInt f)))) t #[.str e.msg tok] := by
    obtain ⟨o, g, c, n, d⟩ := ht
    exact ⟨o, hnoted.froz t o g (.inl ⟨c, _, n, d⟩), c, n, d⟩
  refine h { s with heap := _ } (rel.noted hnoted rfl rfl) (ext.noted hnoted fun b hb => by rw [List.mem_singleton.mp hb]; exact hfresh T hTX)
    ⟨X, hfresh, hX, hcls, a, t, tok, oe, vs, rfl, haX, htt, (other a (Ne.symm hTa)).trans ha, hc, hd, h0, .inr ⟨T, _, _, fr.elim .none (fun f => rawInt f), hTX, hTa, h1, hTself, Obj.data_mapFields hTd _, (Obj.cls_mapFields ..).trans hTc, by simp [hsz3], ?_, ?_⟩⟩
  · rcases hfl with rfl | rfl
    · exact .inl rfl
    · cases hq : F.env.frame with
      | none => exact .inl rfl
      | some L => exact .inr ⟨L, hq, rfl⟩
  · rintro rfl; rfl

/-- an outcome that is an exception, noted by the frame -/
noncomputable def EON {β : Type} (K : Glo) (F : Frm) (out : Res S β) (ρ : List Addr) (h : Heap) : Value → Shared → Prop :=
  fun v s' => ∃ e σ' ρ', out = .exc e σ' ∧ Rel K F σ' ρ' s' ∧ Ext F.mine ρ ρ' h s'.heap ∧ XRepN K F e h v s'
theorem EON.eo {β : Type} {out : Res S β} {ρ : List Addr} {h : Heap} {v : Value} {s' : Shared} (x : EON K F out ρ h v s') : EO K F out ρ h v s' := by
  obtain ⟨e, σ', ρ', e1, rel, ext, x⟩ := x; exact ⟨e, σ', ρ', e1, rel, ext, x.x⟩
theorem EO.notedN {β : Type} {out : Res S β} {ρ : List Addr} {h : Heap} {v : Value} {s' : Shared} {E : Value → Shared → Prop} (x : EO K F out ρ h v s') (hE : ∀ v s'', EON K F out ρ h v s'' → E v s'') :
    notedBy (model K.prog K.w) F.A F.env E v s' := by
  obtain ⟨e, σ', ρ', e1, rel, ext, x⟩ := x
  exact x.noted rel ext fun s'' rel' ext' x' => hE _ _ ⟨e, σ', ρ', e1, rel', ext', x'⟩
theorem EO.noted {β : Type} {out : Res S β} {ρ : List Addr} {h : Heap} {v : Value} {s' : Shared} (x : EO K F out ρ h v s') :
    notedBy (model K.prog K.w) F.A F.env (EO K F out ρ h) v s' := x.notedN fun _ _ q => q.eo
theorem EON.back {β : Type} {out : Res S β} {ρ : List Addr} {h : Heap} {v : Value} {s' : Shared} (x : EON K F out ρ h v s') :
    cameBackBy (model K.prog K.w) F.A F.env (EO K F out ρ h) v s' := by
  obtain ⟨e, σ', ρ', e1, rel, ext, x⟩ := x
  have x0 := x
  obtain ⟨X, hfresh, hX, hcls, a, t, tok, oe, vs, rfl, haX, ht, ha, hc, hd, h0, hst⟩ := x0
  rcases hst with ⟨q, _⟩ | ⟨T, oT, ts, fl, hTX, hTa, h1, hTg, hTd, hTc, hT3, _⟩
  · cases q
  refine wpAny_bind (wpAny_field ha hd h1 ?_)
  rw [if_neg (show ¬ ((Value.ref T == Value.none) = true) from by simp)]
  refine (x.flight rel ext (.inr rfl) fun s'' rel' ext' x' => ?_)
  obtain ⟨X', f', g', hc', a', t', tok', oe', vs', q1, q2, q3, q4, q5, q6, q7, q8⟩ := x'
  refine ⟨e, σ', ρ', e1, rel', ext', X', f', g', hc', a', t', tok', oe', vs', q1, q2, q3, q4, q5, q6, q7, ?_⟩
  rcases q8 with ⟨q, _⟩ | ⟨T', oT', ts', fl', r1, r2, r3, r4, r5, r6, r7, r8⟩
  · cases q
  · exact .inr ⟨T', oT', ts', fl', r1, r2, r3, r4, r5, r6, r7, r8.1⟩

/-! ### while -/
noncomputable def whileM (c : M Bool) (b : M Fl) : Nat → M Fl
  | 0 => stuck
  | n + 1 => do
    if (← c) = true then
      match ← b with
      | .next => whileM c b n
      | .cont => whileM c b n
      | .brk => pure .next
      | .ret v => pure (.ret v)
    else pure .next

theorem simS_while {test : Expr} {body : List Stmt} {mt : M Bool} {mb : M Fl} (pos : Pos) (n : Nat) (ht : SimB K F test mt) (hb : SimSs K F body mb) : SimS K F (.While test body [] pos) (whileM mt mb n) := by
  intro σ ρ s rel
  refine Run.of_wp fun hne => ?_
  refine wpAny_While ?_
  refine codeAny_whileLoop (R := fun r s' => match r with | .ok f => QO K F (FlRep K) (whileM mt mb n σ) ρ s.heap f s' | .error e => cameBackBy (model K.prog K.w) F.A F.env (EO K F (whileM mt mb n σ) ρ s.heap) e s')
    (fun k s' => ∃ σ₁ ρ₁, Rel K F σ₁ ρ₁ s' ∧ whileM mt mb k σ₁ = whileM mt mb n σ ∧ Ext F.mine ρ ρ₁ s.heap s'.heap) ?_ n ⟨σ, ρ, rel, rfl, Ext.refl ..⟩
  generalize whileM mt mb n σ = out at hne ⊢
  rintro k s₁ ⟨σ₁, ρ₁, rel₁, e₁, x₁⟩
  have note : ∀ {v : Value} {s' : Shared}, EO K F out ρ s.heap v s' → notedBy (model K.prog K.w) F.A F.env (fun e s' => cameBackBy (model K.prog K.w) F.A F.env (EO K F out ρ s.heap) e s') v s' := by
    intro v s' hx
    exact hx.notedN fun _ _ q => q.back
  cases k with
  | zero => exact absurd e₁.symm hne
  | succ k =>
    have hc := ht σ₁ ρ₁ s₁ rel₁
    have e₂ : whileM mt mb (k + 1) σ₁ = (match mt σ₁ with
      | .ok true σ₂ => (match mb σ₂ with
        | .ok .next σ₃ => whileM mt mb k σ₃
        | .ok .cont σ₃ => whileM mt mb k σ₃
        | .ok .brk σ₃ => .ok .next σ₃
        | .ok (.ret v) σ₃ => .ok (.ret v) σ₃
        | .exc e σ₃ => .exc e σ₃
        | .stuck => .stuck)
      | .ok false σ₂ => .ok .next σ₂
      | .exc e σ₂ => .exc e σ₂
      | .stuck => .stuck) := by
      show (mt >>= _) σ₁ = _
      rw [M.bind_def]
      cases mt σ₁ with
      | stuck => rfl
      | exc e y => rfl
      | ok b y =>
        cases b with
        | false => rfl
        | true =>
          dsimp only
          rw [if_pos rfl, M.bind_def]
          cases mb y with
          | stuck => rfl
          | exc e z => rfl
          | ok f z => cases f <;> rfl
    rw [e₂] at e₁
    cases em : mt σ₁ with
    | stuck => rw [em] at e₁; exact absurd e₁.symm hne
    | exc e σ₂ =>
      rw [em] at hc e₁
      refine wpAny_mono (hc.wp (by simp)) (fun a s' hq => ?_) fun v s' he => ?_
      · obtain ⟨_, _, _, e, _⟩ := hq; cases e
      · obtain ⟨e', σ', ρ', e2, r1, r2, r3⟩ := he
        cases e2
        exact note ⟨e, σ₂, ρ', e₁.symm, r1, x₁.trans r2, r3.up x₁⟩
    | ok b σ₂ =>
      rw [em] at hc e₁
      refine wpAny_mono (hc.wp (by simp)) (fun a s₂ hq => ?_) fun v s' he => ?_
      · obtain ⟨b', σ', ρ₂, e2, rel₂, x₂, rb⟩ := hq
        cases e2
        have : a = b := rb
        subst this
        have x02 := x₁.trans x₂
        cases a with
        | false =>
          simp only [Bool.false_eq_true, if_false]
          exact wpAny_execs_nil ⟨.next, σ₂, ρ₂, e₁.symm, rel₂, x02, rfl⟩
        | true =>
          simp only [if_true]
          dsimp only at e₁
          have hb' := hb σ₂ ρ₂ s₂ rel₂
          cases eb : mb σ₂ with
          | stuck => rw [eb] at e₁; exact absurd e₁.symm hne
          | exc e σ₃ =>
            rw [eb] at hb' e₁
            refine wpAny_mono (hb'.wp (by simp)) (fun a s' hq => ?_) fun v s' he => ?_
            · obtain ⟨_, _, _, e, _⟩ := hq; cases e
            · obtain ⟨e', σ', ρ', e2, r1, r2, r3⟩ := he
              cases e2
              exact note ⟨e, σ₃, ρ', e₁.symm, r1, x02.trans r2, r3.up x02⟩
          | ok f σ₃ =>
            rw [eb] at hb' e₁
            refine wpAny_mono (hb'.wp (by simp)) (fun wf s₃ hq => ?_) fun v s' he => ?_
            · obtain ⟨f', σ', ρ₃, e3, rel₃, x₃, rf⟩ := hq
              cases e3
              have x03 := x02.trans x₃
              cases f with
              | next => have : wf = .next := rf; subst this; exact ⟨k, Nat.lt_succ_self _, σ₃, ρ₃, rel₃, e₁, x03⟩
              | cont => have : wf = .cont := rf; subst this; exact ⟨k, Nat.lt_succ_self _, σ₃, ρ₃, rel₃, e₁, x03⟩
              | brk => have : wf = .brk := rf; subst this; exact ⟨.next, σ₃, ρ₃, e₁.symm, rel₃, x03, rfl⟩
              | ret v => obtain ⟨w, e, r⟩ := rf; subst e; exact ⟨.ret v, σ₃, ρ₃, e₁.symm, rel₃, x03, w, rfl, r⟩
            · obtain ⟨_, _, _, e, _⟩ := he; cases e
      · obtain ⟨_, _, _, e, _⟩ := he; cases e

/-! ### targets that are tuples -/
theorem kept_of_extBut {h h' : Heap} (x : Heap.ExtBut h.objs.size h h') : ∀ b o, h.get? b = some o → h'.get? b = some o :=
  fun b o e => x b o (Nat.ne_of_lt (Heap.lt_size e)) e

noncomputable def SimTs (K : Glo) (F : Frm) (es : List Expr) (m : List V → M Unit) : Prop :=
  (∃ n, (assignEach es F.env).length = n ∧ n = es.length ∧ (assignEach es F.env).findIdx? (·.1) = none) ∧
  ∀ σ ρ s vs ws, Rel K F σ ρ s → RepL K s.heap ρ vs ws → vs.length = es.length → Run K F (assignInOrder ((assignEach es F.env).map (·.2)) ws) URep (m vs σ) ρ s
theorem simTs_nil : SimTs K F [] (fun _ => pure ()) := ⟨⟨0, rfl, rfl, rfl⟩, fun _ _ _ _ _ rel _ _ => Run.pure rel trivial⟩
noncomputable def consT (m : V → M Unit) (ms : List V → M Unit) : List V → M Unit
  | v :: vs => do m v; ms vs
  | [] => stuck
theorem simTs_cons {e : Expr} {es : List Expr} {m : V → M Unit} {ms : List V → M Unit} (h : SimT K F e m) (hs : SimTs K F es ms)
    (hst : assignEach (e :: es) F.env = (false, assign e F.env) :: assignEach es F.env := by rfl) : SimTs K F (e :: es) (consT m ms) := by
  obtain ⟨⟨n, h1, h2, h3⟩, h4⟩ := hs
  refine ⟨⟨n + 1, by rw [hst]; simp [h1], by simp [h2], by rw [hst, List.findIdx?_cons]; simp [h3]⟩, ?_⟩
  intro σ ρ s vs ws rel r hl
  rw [hst]
  cases vs with
  | nil => exact Run.stuck
  | cons v vs =>
    obtain ⟨x, ws', rfl, r1, r2⟩ := RepL.cons_iff.mp r
    show Run K F (do holding ws' (assign e F.env x); assignInOrder ((assignEach es F.env).map (·.2)) ws') URep ((do m v; ms vs) σ) ρ s
    refine Run.bind (Run.holding (h σ ρ s v x rel r1)) fun _ σ₁ ρ₁ s₁ _ _ rel₁ x₁ _ => ?_
    exact h4 σ₁ ρ₁ s₁ vs ws' rel₁ (r2.mono x₁) (by simpa using hl)

noncomputable def unpackT (n : Nat) (m : List V → M Unit) : V → M Unit
  | .tup vs => if vs.length = n then m vs else stuck
  | _ => stuck
theorem simT_tuple (fk : FOk F) {es : List Expr} {m : List V → M Unit} (k : Nat) (pos : Pos) (hs : SimTs K F es m) (hnh : F.nh = true := by rfl) : SimT K F (.Tuple es k pos) (unpackT es.length m) := by
  obtain ⟨⟨n, h1, h2, h3⟩, h4⟩ := hs
  intro σ ρ s v w rel r
  cases v with
  | tup vs =>
    unfold unpackT
    dsimp only
    by_cases hl : vs.length = es.length
    · rw [if_pos hl]
      obtain ⟨_, a, ws, rfl, ht, rl⟩ := Rep.tup_iff.mp r
      refine Run.of_wp fun hne => ?_
      refine wpAny_assign_Tuple (fk.hd hnh) (items := ws.toArray) ht (by rw [h1, h2, List.size_toArray, rl.length, hl]) h3 fun h' hx => ?_
      have hk := kept_of_extBut hx
      have rel' : Rel K F σ ρ { s with heap := h' } := rel.kept hk rfl rfl
      have x' : Ext F.mine ρ ρ s.heap h' := Ext.kept hk
      refine wpAny_mono ((h4 σ ρ { s with heap := h' } vs ws rel' (rl.mono x') hl).wp hne) ?_ ?_
      · rintro b s'' ⟨b', σ'', ρ', e, q1, q2, q3⟩; exact ⟨b', σ'', ρ', e, q1, x'.trans q2, q3⟩
      · rintro b s'' ⟨b', σ'', ρ', e, q1, q2, q3⟩; exact ⟨b', σ'', ρ', e, q1, x'.trans q2, q3.up x'⟩
    · rw [if_neg hl]; exact Run.stuck
  | _ => exact Run.stuck

end Mine


/-! part F5 -/
set_option autoImplicit false
set_option maxRecDepth 100000
set_option linter.unusedVariables false
open PySem PySem.W PyProof.Rows
namespace Mine

variable {K : Glo} {F : Frm}

section
variable {σ : S} {ρ ρ₀ : List Addr} {s s' : Shared} {mine : List Addr} {h h₀ h' : Heap} {a : Addr} {o : Obj}

/-- all stays but one hidden object (an iterator) -/
theorem Ext.but {vs : Array Value} (x : Ext mine ρ₀ ρ h₀ h) (h0 : h₀.get? a = none) (ho : h.get? a = some o) (hd : o.data = .fields vs) (hc : o.cls ≠ .type "range") (hx : Heap.ExtBut a h h') : Ext mine ρ₀ ρ h₀ h' where
  pre := x.pre
  alive := fun b o' e => by
    obtain ⟨o1, e1⟩ := x.alive b o' e
    exact ⟨o1, hx b o1 (by rintro rfl; rw [h0] at e; cases e) e1⟩
  new := x.new
  keep := fun b o' e n1 n2 => by
    obtain ⟨o1, e1, l1⟩ := x.keep b o' e n1 n2
    exact ⟨o1, hx b o1 (by rintro rfl; rw [h0] at e; cases e) e1, l1⟩
  froz := fun b o' e f => hx b o' (by rintro rfl; rw [h0] at e; cases e) (x.froz b o' e f)

theorem hid_ne_froz {vs : Array Value} {b : Addr} {o' : Obj} (ho : h.get? a = some o) (hd : o.data = .fields vs) (hc : o.cls ≠ .type "range") (e : h.get? b = some o') (f : Froz o') : b ≠ a := by
  rintro rfl
  rw [ho] at e; cases e
  rcases f with ⟨_, _, _, f⟩ | ⟨f, _⟩
  · rw [hd] at f; cases f
  · exact hc f
theorem hid_ne_list {vs : Array Value} {b : Addr} {it : Array Value} (ho : h.get? a = some o) (hd : o.data = .fields vs) (e : h.IsList b it) : b ≠ a := by
  rintro rfl
  obtain ⟨o', e', _, n, d⟩ := e
  rw [ho] at e'; cases e'; rw [hd] at d; cases d
theorem hid_ne_ns {vs : Array Value} {b : Addr} {m : Str → Option Value} (ho : h.get? a = some o) (hd : o.data = .fields vs) (e : h.Ns b m) : b ≠ a := by
  rintro rfl
  obtain ⟨o', es, ep, e', d, _⟩ := e
  rw [ho] at e'; cases e'; rw [hd] at d; cases d
theorem hid_ne_cell {vs : Array Value} {b : Addr} {v : Option Value} (ho : h.get? a = some o) (hd : o.data = .fields vs) (e : h.IsCell b v) : b ≠ a := by
  rintro rfl
  obtain ⟨o', e', d⟩ := e
  rw [ho] at e'; cases e'; rw [hd] at d; cases d

theorem GRel.but {st : Store} {vs : Array Value} (rel : GRel K st ρ s) (hb : K.base.get? a = none) (ho : s.heap.get? a = some o) (hd : o.data = .fields vs) (hc : o.cls ≠ .type "range") (hx : Heap.ExtBut a s.heap s'.heap)
    (hg : s'.gens = s.gens) (hos : s'.os = s.os) : GRel K st ρ s' where
  gens := hg.trans rel.gens
  os := hos.trans rel.os
  base := fun b o' e => hx b o' (by rintro rfl; rw [hb] at e; cases e) (rel.base b o' e)
  len := rel.len
  cell := fun l b c h1 h2 => by
    refine (rel.cell l b c h1 h2).mono (List.prefix_refl _) (fun d o' e f => hx d o' (hid_ne_froz ho hd hc e f) e) fun it n x => ?_
    have hne := hid_ne_list ho hd x.isList
    exact hx b _ hne x
  nodup := rel.nodup
  above := rel.above

theorem Rel.but {vs : Array Value} (rel : Rel K F σ ρ s) (hb : K.base.get? a = none) (hm : a ∉ F.mine) (ho : s.heap.get? a = some o) (hd : o.data = .fields vs) (hc : o.cls ≠ .type "range") (hx : Heap.ExtBut a s.heap s'.heap)
    (hg : s'.gens = s.gens) (hos : s'.os = s.os) : Rel K F σ ρ s' where
  toGRel := rel.toGRel.but hb ho hd hc hx hg hos
  vars := fun y u e => by
    obtain ⟨w, h1, h2⟩ := rel.vars y u e
    refine ⟨w, h1.mono (fun m n => ?_) (fun c u _ n => ?_), Rep.mono' (List.prefix_refl _) (fun d o' e f => hx d o' (hid_ne_froz ho hd hc e f) e) h2⟩
    · have hne := hid_ne_ns ho hd n
      obtain ⟨o', es, ep, e', r⟩ := n
      exact ⟨o', es, ep, hx _ _ hne e', r⟩
    · have hne := hid_ne_cell ho hd n
      obtain ⟨o', e', r⟩ := n
      exact ⟨o', hx _ _ hne e', r⟩
  loc := by
    obtain ⟨m, n⟩ := rel.loc
    have hne := hid_ne_ns ho hd n
    obtain ⟨o', es, ep, e', r⟩ := n
    exact ⟨m, o', es, ep, hx _ _ hne e', r⟩
  cels := fun y c e => by
    obtain ⟨v, n⟩ := rel.cels y c e
    have hne := hid_ne_cell ho hd n
    obtain ⟨o', e', r⟩ := n
    exact ⟨v, o', hx _ _ hne e', r⟩
  mineAbove := fun b hb' => by
    obtain ⟨h1, o', h2⟩ := rel.mineAbove b hb'
    exact ⟨h1, o', hx b o' (by rintro rfl; exact hm hb') h2⟩
  mineApart := rel.mineApart
  mineLoc := rel.mineLoc
  frs := rel.frs.next fun b o' es n g d => ⟨o', es, n, hx b o' (by
    rintro rfl
    rw [ho] at g; cases g; rw [hd] at d; cases d) g, d⟩
end

/-! ### for -/
noncomputable def ownedKinds : List String := ["enumerate", "zip", "dict_itemiterator", "dict_reverseitemiterator", "odict_iterator", "itertools.zip_longest", "itertools.pairwise"]
theorem owned_skip {target : Expr} {I : Addr} {v : Value} {s : Shared} {o : Obj} {T : String} {Q : Unit → Shared → Prop} {E : Value → Shared → Prop} (ho : s.heap.get? I = some o) (hc : o.cls = .type T)
    (hT : ownedKinds.contains T = false) (h : Q () s) : wpAny (model K.prog K.w) F.A (letOwnedTupleGo target (.ref I) v) Q E s := by
  have key : ∀ {vs : Array Value} {a : Addr}, o.data = .fields vs → (ownedKinds.contains T && vs[0]? == some (rawInt a)) = false := by
    intro vs a _; rw [hT]; rfl
  have main : wpAny (model K.prog K.w) F.A (do
    let (.ref r, .ref a) := (Value.ref I, v) | return
    let o ← load r
    match o.cls, o.data with
    | .type n, .fields vs =>
      if ownedKinds.contains n && vs[0]? == some (rawInt a) then
        rule "for.unpacks-the-owned-tuple"
        updateField r 0 .none
    | _, _ => pure ()) Q E s := by
    cases v with
    | ref b =>
      refine wpAny_bind (wpAny_load ho ?_)
      rw [hc]
      cases hd : o.data <;> first | exact wpAny_pure h | skip
      rename_i vs
      dsimp only
      rw [hT]
      exact wpAny_pure h
    | _ => exact wpAny_pure h
  cases target <;> first | exact main | exact wpAny_pure h

noncomputable def forG (nxt : S → Nat → Option (Option V)) (t : V → M Unit) (b : M Fl) : Nat → Nat → M Fl
  | 0, _ => stuck
  | n + 1, i => fun σ => match nxt σ i with
    | none => .stuck
    | some none => .ok .next σ
    | some (some v) => (do
      t v
      match ← b with
      | .next => forG nxt t b n (i + 1)
      | .cont => forG nxt t b n (i + 1)
      | .brk => pure .next
      | .ret v => pure (.ret v)) σ

/-- what an iterator object does: Src i o says that o stands before its item i -/
noncomputable def Iter (K : Glo) (F : Frm) (I : Addr) (Src : Nat → Obj → Prop) (nxt : S → Nat → Option (Option V)) (ρ₁ : List Addr) (h₁ : Heap) : Prop :=
  (∀ i o, Src i o → ∃ vs T, o.data = .fields vs ∧ o.cls = .type T ∧ ownedKinds.contains T = false ∧ T ≠ "range") ∧
  (∀ i o (s : Shared) (A : Around) (Q : Value → Shared → Prop) (E : Value → Shared → Prop), s.heap.get? I = some o → Src i o → Q (.ref I) s → wpAny (model K.prog K.w) A (pyIter (.ref I)) Q E s) ∧
  ∀ σ ρ s i o, Rel K F σ ρ s → Ext F.mine ρ₁ ρ h₁ s.heap → s.heap.get? I = some o → Src i o →
    match nxt σ i with
    | none => True
    | some none => wpAny (model K.prog K.w) F.A (pyNext (.ref I)) (fun r s' => r = none ∧ Heap.ExtBut I s.heap s'.heap ∧ s'.gens = s.gens ∧ s'.os = s.os) (fun _ _ => False) s
    | some (some v) => wpAny (model K.prog K.w) F.A (pyNext (.ref I)) (fun r s' => ∃ w, r = some w ∧ Heap.ExtBut I s.heap s'.heap ∧ s'.gens = s.gens ∧ s'.os = s.os ∧ (∃ o', s'.heap.get? I = some o' ∧ Src (i + 1) o') ∧ Rep K s'.heap ρ v w) (fun _ _ => False) s

theorem codeAny_forLoopT {prog : Program} {w : World} {A : Around} {s : Shared} {R : Result → Shared → Prop} {target : Expr} {it : Value} {body : List Stmt} {env : Env} (I : Nat → Shared → Prop)
    (turn : ∀ n s, I n s → wpAny (model prog w) A (pyNext it) (fun r s₁ => match r with
      | none => R (.ok .next) s₁
      | some v => wpAny (model prog w) A (letOwnedTupleGo target it v) (fun _ s₁' => wpAny (model prog w) A (assign target env v) (fun _ s₂ => wpAny (model prog w) A (execs body env) (fun f s₃ => match f with
          | .next | .cont => ∃ m, m < n ∧ I m s₃
          | .brk => R (.ok .next) s₃
          | .ret v => R (.ok (.ret v)) s₃) (notedBy (model prog w) A env fun e s' => R (.error e) s') s₂) (notedBy (model prog w) A env fun e s' => R (.error e) s') s₁') (notedBy (model prog w) A env fun e s' => R (.error e) s') s₁)
      (notedBy (model prog w) A env fun e s' => R (.error e) s') s)
    (n : Nat) (h : I n s) : codeAny (model prog w) A (.forLoop target it body [] env) R s := by
  refine codeAny_loop' rfl I (fun n s hI => ?_) n h
  show wpAny _ _ ((forTurn target it body [] env).onRaise (fun x => do noteFrame x env; theTreesLotGoes x)) _ _ s
  refine wpAny_noted ?_
  unfold forTurn
  refine wpAny_bind (wpAny_standAt (wpAny_bind (wpAny_onRaise (wpAny_mono (turn n s hI) (fun r s₁ h₁ => ?_) fun _ _ h' => wpAny_standAt h'))))
  cases r with
  | none => exact wpAny_pure (.inr ⟨rfl, codeAny_block (wpAny_execs_nil h₁)⟩)
  | some v =>
    refine wpAny_bind (wpAny_mono h₁ (fun _ s₁' h₁' => ?_) fun _ _ h' => h')
    refine wpAny_bind (wpAny_mono h₁' (fun _ s₂ h₂ => wpAny_bind (wpAny_mono h₂ (fun f s₃ h₃ => ?_) fun _ _ h' => h')) fun _ _ h' => h')
    cases f with
    | next => exact wpAny_pure (.inl ⟨rfl, h₃⟩)
    | cont => exact wpAny_pure (.inl ⟨rfl, h₃⟩)
    | brk => exact wpAny_pure h₃
    | ret v => exact wpAny_pure h₃

theorem forG_succ (nxt : S → Nat → Option (Option V)) (t : V → M Unit) (b : M Fl) (n i : Nat) (σ : S) : forG nxt t b (n + 1) i σ = (match nxt σ i with
    | none => .stuck
    | some none => .ok .next σ
    | some (some v) => match t v σ with
      | .stuck => .stuck
      | .exc e σ₂ => .exc e σ₂
      | .ok _ σ₂ => match b σ₂ with
        | .ok .next σ₃ => forG nxt t b n (i + 1) σ₃
        | .ok .cont σ₃ => forG nxt t b n (i + 1) σ₃
        | .ok .brk σ₃ => .ok .next σ₃
        | .ok (.ret v) σ₃ => .ok (.ret v) σ₃
        | .exc e σ₃ => .exc e σ₃
        | .stuck => .stuck) := by
  rw [forG]
  dsimp only
  cases nxt σ i with
  | none => rfl
  | some x =>
    cases x with
    | none => rfl
    | some v =>
      dsimp only
      rw [M.bind_def]
      cases t v σ with
      | stuck => rfl
      | exc e y => rfl
      | ok u y =>
        dsimp only
        rw [M.bind_def]
        cases b y with
        | stuck => rfl
        | exc e z => rfl
        | ok f z => cases f <;> rfl

theorem run_forLoop {target : Expr} {body : List Stmt} {t : V → M Unit} {b : M Fl} (ht : SimT K F target t) (hb : SimSs K F body b) {I : Addr} {Src : Nat → Obj → Prop} {nxt : S → Nat → Option (Option V)}
    {σ : S} {ρ ρ₀ : List Addr} {s : Shared} {h₀ : Heap} {o : Obj} (hI : Iter K F I Src nxt ρ₀ h₀) (rel : Rel K F σ ρ s) (x₀ : Ext F.mine ρ₀ ρ h₀ s.heap) (h0 : h₀.get? I = none) (hbase : K.base.get? I = none)
    (hmi : I ∉ F.mine) (hρ : I ∉ ρ) (ho : s.heap.get? I = some o) (hs : Src 0 o) (n : Nat) (hne : forG nxt t b n 0 σ ≠ .stuck) :
    wpAny (model K.prog K.w) F.A (runOwn (.forLoop target (.ref I) body [] F.env) F.env) (QO K F (FlRep K) (forG nxt t b n 0 σ) ρ₀ h₀) (EO K F (forG nxt t b n 0 σ) ρ₀ h₀) s := by
  refine wpAny_runOwn ?_
  refine codeAny_forLoopT (R := fun r s' => match r with | .ok f => QO K F (FlRep K) (forG nxt t b n 0 σ) ρ₀ h₀ f s' | .error e => cameBackBy (model K.prog K.w) F.A F.env (EO K F (forG nxt t b n 0 σ) ρ₀ h₀) e s')
    (fun k s' => ∃ σ₁ ρ' i o, Rel K F σ₁ ρ' s' ∧ forG nxt t b k i σ₁ = forG nxt t b n 0 σ ∧ Ext F.mine ρ₀ ρ' h₀ s'.heap ∧ I ∉ ρ' ∧ s'.heap.get? I = some o ∧ Src i o) ?_ n
    ⟨σ, ρ, 0, o, rel, rfl, x₀, hρ, ho, hs⟩
  generalize forG nxt t b n 0 σ = out at hne ⊢
  rintro k s₁ ⟨σ₁, ρ', i, o₁, rel₁, e₁, x₁, hρ₁, ho₁, hs₁⟩
  have note : ∀ {v : Value} {s' : Shared}, EO K F out ρ₀ h₀ v s' → notedBy (model K.prog K.w) F.A F.env (fun e s' => cameBackBy (model K.prog K.w) F.A F.env (EO K F out ρ₀ h₀) e s') v s' := by
    intro v s' hx
    exact hx.notedN fun _ _ q => q.back
  cases k with
  | zero => exact absurd e₁.symm hne
  | succ k =>
    rw [forG_succ] at e₁
    obtain ⟨vs₁, T₁, hd₁, hc₁, hT₁, hr₁⟩ := hI.1 i o₁ hs₁
    have hc₁' : o₁.cls ≠ .type "range" := by rw [hc₁]; exact fun e => hr₁ (by cases e; rfl)
    have hstep := hI.2.2 σ₁ ρ' s₁ i o₁ rel₁ x₁ ho₁ hs₁
    cases en : nxt σ₁ i with
    | none => rw [en] at e₁; exact absurd e₁.symm hne
    | some ov =>
      rw [en] at hstep e₁
      cases ov with
      | none =>
        refine wpAny_mono hstep (fun r s₂ h => ?_) fun _ _ h => h.elim
        obtain ⟨rfl, hx, hg, hos⟩ := h
        exact ⟨.next, σ₁, ρ', e₁.symm, rel₁.but hbase hmi ho₁ hd₁ hc₁' hx hg hos, x₁.but h0 ho₁ hd₁ hc₁' hx, rfl⟩
      | some v =>
        refine wpAny_mono hstep (fun r s₂ h => ?_) fun _ _ h => h.elim
        obtain ⟨w, rfl, hx, hg, hos, ⟨o₂, ho₂, hs₂⟩, rv⟩ := h
        have rel₂ := rel₁.but hbase hmi ho₁ hd₁ hc₁' hx hg hos
        have x₂ := x₁.but h0 ho₁ hd₁ hc₁' hx
        obtain ⟨vs₂, T₂, hd₂, hc₂, hT₂, hr₂⟩ := hI.1 (i + 1) o₂ hs₂
        refine owned_skip ho₂ hc₂ hT₂ ?_
        have hta := ht σ₁ ρ' s₂ v w rel₂ rv
        dsimp only at e₁
        cases et : t v σ₁ with
        | stuck => rw [et] at e₁; exact absurd e₁.symm hne
        | exc e σ₃ =>
          rw [et] at hta e₁
          refine wpAny_mono (hta.wp (by simp)) (fun a s' hq => ?_) fun v s' he => ?_
          · obtain ⟨_, _, _, e, _⟩ := hq; cases e
          · obtain ⟨e', σ', ρ'', e2, r1, r2, r3⟩ := he
            cases e2
            exact note ⟨e, σ₃, ρ'', e₁.symm, r1, x₂.trans r2, r3.up x₂⟩
        | ok u σ₃ =>
          rw [et] at hta e₁
          refine wpAny_mono (hta.wp (by simp)) (fun a s₃ hq => ?_) fun v s' he => by obtain ⟨_, _, _, e, _⟩ := he; cases e
          obtain ⟨_, σ', ρ₃, e2, rel₃, x₃, _⟩ := hq
          cases e2
          dsimp only at e₁
          have hb' := hb σ₃ ρ₃ s₃ rel₃
          have x03 := x₂.trans x₃
          have hold : ∀ {ρ₂ ρ₃ : List Addr} {g g' : Heap} {oo : Obj}, Ext F.mine ρ₂ ρ₃ g g' → I ∉ ρ₂ → g.get? I = some oo → (∃ vs, oo.data = .fields vs) → g'.get? I = some oo ∧ I ∉ ρ₃ := by
            intro ρ₂ ρ₃ g g' oo x hn e ⟨vs, d⟩
            obtain ⟨o', e', l⟩ := x.keep I oo e hn hmi
            refine ⟨by rw [e', l.same (fun es n q => by rw [d] at q; cases q)], fun hin => ?_⟩
            rcases x.new I hin with q | q
            · exact hn q
            · rw [e] at q; cases q
          obtain ⟨ho₃, hρ₃⟩ := hold x₃ hρ₁ ho₂ ⟨_, hd₂⟩
          cases eb : b σ₃ with
          | stuck => rw [eb] at e₁; exact absurd e₁.symm hne
          | exc e σ₄ =>
            rw [eb] at hb' e₁
            refine wpAny_mono (hb'.wp (by simp)) (fun a s' hq => ?_) fun v s' he => ?_
            · obtain ⟨_, _, _, e, _⟩ := hq; cases e
            · obtain ⟨e', σ', ρ'', e2, r1, r2, r3⟩ := he
              cases e2
              exact note ⟨e, σ₄, ρ'', e₁.symm, r1, x03.trans r2, r3.up x03⟩
          | ok f σ₄ =>
            rw [eb] at hb' e₁
            refine wpAny_mono (hb'.wp (by simp)) (fun wf s₄ hq => ?_) fun v s' he => by obtain ⟨_, _, _, e, _⟩ := he; cases e
            obtain ⟨f', σ', ρ₄, e3, rel₄, x₄, rf⟩ := hq
            cases e3
            have x04 := x03.trans x₄
            obtain ⟨ho₄, hρ₄⟩ := hold x₄ hρ₃ ho₃ ⟨_, hd₂⟩
            cases f with
            | next => have : wf = .next := rf; subst this; exact ⟨k, Nat.lt_succ_self _, σ₄, ρ₄, i + 1, o₂, rel₄, e₁, x04, hρ₄, ho₄, hs₂⟩
            | cont => have : wf = .cont := rf; subst this; exact ⟨k, Nat.lt_succ_self _, σ₄, ρ₄, i + 1, o₂, rel₄, e₁, x04, hρ₄, ho₄, hs₂⟩
            | brk => have : wf = .brk := rf; subst this; exact ⟨.next, σ₄, ρ₄, e₁.symm, rel₄, x04, rfl⟩
            | ret v => obtain ⟨w, e, r⟩ := rf; subst e; exact ⟨.ret v, σ₄, ρ₄, e₁.symm, rel₄, x04, w, rfl, r⟩

end Mine


/-! part F6 -/
set_option autoImplicit false
set_option maxRecDepth 100000
set_option linter.unusedVariables false
open PySem PySem.W PyProof.Rows
namespace Mine

variable {K : Glo} {F : Frm}

theorem QO.up {α β : Type} {R : Heap → List Addr → β → α → Prop} {out : Res S β} {ρ ρ' : List Addr} {h h' : Heap} {a : α} {s : Shared} (x : Ext F.mine ρ ρ' h h') (q : QO K F R out ρ' h' a s) : QO K F R out ρ h a s := by
  obtain ⟨b, σ, ρ'', e, r1, r2, r3⟩ := q; exact ⟨b, σ, ρ'', e, r1, x.trans r2, r3⟩
theorem EO.up {β : Type} {out : Res S β} {ρ ρ' : List Addr} {h h' : Heap} {a : Value} {s : Shared} (x : Ext F.mine ρ ρ' h h') (q : EO K F out ρ' h' a s) : EO K F out ρ h a s := by
  obtain ⟨b, σ, ρ'', e, r1, r2, r3⟩ := q; exact ⟨b, σ, ρ'', e, r1, x.trans r2, r3.up x⟩

theorem Run.bindWp {α β δ : Type} {t : Sem α} {R : Heap → List Addr → β → α → Prop} {m : M β} {k : β → M δ} {σ : S} {ρ : List Addr} {s : Shared} {P : α → Shared → Prop}
    (h1 : Run K F t R (m σ) ρ s) (hne : (m >>= k) σ ≠ .stuck)
    (h2 : ∀ b σ' ρ' s' a, m σ = .ok b σ' → (m >>= k) σ = k b σ' → Rel K F σ' ρ' s' → Ext F.mine ρ ρ' s.heap s'.heap → R s'.heap ρ' b a → P a s') :
    wpAny (model K.prog K.w) F.A t P (EO K F ((m >>= k) σ) ρ s.heap) s := by
  cases e : m σ with
  | stuck => exact absurd (by rw [M.bind_def, e]) hne
  | ok b σ' =>
    rw [e] at h1
    have e2 : (m >>= k) σ = k b σ' := M.bind_ok e
    exact wpAny_mono h1 (fun a s' ⟨ρ', r1, r2, r3⟩ => h2 b σ' ρ' s' a e e2 r1 r2 r3) fun _ _ h => h.elim
  | exc x σ' =>
    rw [e] at h1
    have e2 : (m >>= k) σ = .exc x σ' := by rw [M.bind_def, e]
    exact wpAny_mono h1 (fun _ _ h => h.elim) fun v s' ⟨ρ', r1, r2, r3⟩ => ⟨x, σ', ρ', e2, r1, r2, r3⟩

/-! ### what a call of a def does -/
noncomputable def Room (A : Around) (n : Nat) : Prop := A.handled = none ∧ A.depth + n < recursionLimit ∧ A.units + 1000 + 10 * n < cLine
theorem Room.deeper {A : Around} {n : Nat} (r : Room A (n + 1)) (env : Env) : Room (A.deeper env) n := by
  obtain ⟨h1, h2, h3⟩ := r
  refine ⟨h1, ?_, ?_⟩
  · show A.depth + 1 + n < _; (first | lia | omega)
  · show A.units + 3 + 1000 + 10 * n < _; (first | lia | omega)
theorem Room.le {A : Around} {n k : Nat} (r : Room A n) (h : k ≤ n) : Room A k := ⟨r.1, by have := r.2.1; (first | lia | omega), by have := r.2.2; (first | lia | omega)⟩

noncomputable abbrev Fun := List V → Store → Res Store V

/-- an exception that has left a frame -/
noncomputable def XOut (K : Glo) (e : Exc) (h₀ : Heap) (v : Value) (s : Shared) : Prop := ∃ X, (∀ b ∈ X, h₀.get? b = none) ∧ (∀ b ∈ X, K.base.get? b = none) ∧ XObj true (fun fl => fl = .none) e X v s.heap
/-- the frames on the stack at a call -/
noncomputable def FrA (K : Glo) (A : Around) (h : Heap) : Prop := ∃ l, A.frames = some l ∧ FramesOk K h l

noncomputable def CallRes (K : Glo) (A : Around) (out : Res Store V) (ρ : List Addr) (h : Heap) : Result → Shared → Prop := fun r s' =>
  (∃ v st' w ρ', out = .ok v st' ∧ r = .ok (.ret w) ∧ GRel K st' ρ' s' ∧ Ext [] ρ ρ' h s'.heap ∧ Rep K s'.heap ρ' v w) ∨
  (∃ e st' w ρ', out = .exc e st' ∧ r = .error w ∧ GRel K st' ρ' s' ∧ Ext [] ρ ρ' h s'.heap ∧ XOut K e h w s')

noncomputable def SimF (K : Glo) (lvl : Nat) (f : Value) (g : Fun) : Prop :=
  ∀ A, Room A lvl → ∀ st ρ s, GRel K st ρ s → FrA K A s.heap → ∀ vs ws, RepL K s.heap ρ vs ws → g vs st ≠ .stuck →
    codeAny (model K.prog K.w) A (.call f ⟨ws, []⟩) (CallRes K A (g vs st) ρ s.heap) s

noncomputable def callF (g : Fun) (vs : List V) : M V := fun σ => match g vs σ.st with
  | .ok v st => .ok v { σ with st := st }
  | .exc e st => .exc e { σ with st := st }
  | .stuck => .stuck

theorem ext_of_nil {mine ρ ρ' : List Addr} {h h' : Heap} (x : Ext [] ρ ρ' h h') : Ext mine ρ ρ' h h' := ⟨x.pre, x.alive, x.new, fun b o e n1 _ => x.keep b o e n1 (by simp), x.froz⟩

/-- the caller's frame behind a call -/
theorem Rel.called {σ : S} {ρ ρ' : List Addr} {s s' : Shared} {st' : Store} (rel : Rel K F σ ρ s) (g : GRel K st' ρ' s') (x : Ext [] ρ ρ' s.heap s'.heap) (fk : FOk F) : Rel K F { σ with st := st' } ρ' s' := by
  have hns : ∀ {a : Addr} {m : Str → Option Value}, s.heap.Ns a m → a ∉ ρ → s'.heap.Ns a m := by
    intro a m n hn
    obtain ⟨o, es, ep, e, d, k, f⟩ := n
    obtain ⟨o', e', l⟩ := x.keep a o e hn (by simp)
    exact ⟨o', es, ep, e', l.data.1.trans d, k, f⟩
  have hnl : F.env.locals ∉ ρ := rel.mineApart _ rel.mineLoc
  have hcell : ∀ {c : Addr} {v : Option Value}, s.heap.IsCell c v → s'.heap.IsCell c v := by
    intro c v n
    have hn : c ∉ ρ := fun hc => by
      obtain ⟨it, hl⟩ := rel.toGRel.alive hc
      exact list_ne_cell hl n rfl
    obtain ⟨o, e, d⟩ := n
    obtain ⟨o', e', l⟩ := x.keep c o e hn (by simp)
    exact ⟨o', e', l.data.1.trans d⟩
  refine { toGRel := g, vars := ?_, loc := ?_, cels := ?_, mineAbove := ?_, mineApart := ?_, mineLoc := rel.mineLoc, frs := rel.frs.next fun b o es n q d => ?_ }
  · intro y v e
    obtain ⟨w, h1, h2⟩ := rel.vars y v e
    exact ⟨w, h1.mono (fun m n => hns n hnl) (fun c u _ n => hcell n), h2.mono x⟩
  · obtain ⟨m, n⟩ := rel.loc; exact ⟨m, hns n hnl⟩
  · intro y c e
    obtain ⟨v, n⟩ := rel.cels y c e; exact ⟨v, hcell n⟩
  · intro a ha
    obtain ⟨h1, o, h2⟩ := rel.mineAbove a ha
    obtain ⟨o', h3⟩ := x.alive a o h2
    exact ⟨h1, o', h3⟩
  · intro a ha hb
    rcases x.new a hb with h1 | h1
    · exact rel.mineApart a ha h1
    · obtain ⟨_, o, h2⟩ := rel.mineAbove a ha
      rw [h1] at h2; cases h2
  · have hb : b ∉ ρ := fun hb => by
      obtain ⟨it, o', e, _, n', d'⟩ := rel.toGRel.alive hb
      rw [q] at e; cases e; rw [d] at d'; cases d'
    obtain ⟨o', e', l⟩ := x.keep b o q hb (by simp)
    exact ⟨o', es, n, e', l.data.1.trans d⟩

theorem XOut.toX {e : Exc} {h₀ : Heap} {v : Value} {s : Shared} (x : XOut K e h₀ v s) (hm : ∀ a ∈ F.mine, ∃ o, h₀.get? a = some o) : XRep K F e h₀ v s := by
  obtain ⟨X, f, g, hc', a', t', tok', oe', vs', q1, q2, q3, q4, q5, q6, q7, q8⟩ := x
  refine ⟨X, f, fun b hb => ⟨g b hb, fun q => ?_⟩, hc', a', t', tok', oe', vs', q1, q2, q3, q4, q5, q6, q7, ?_⟩
  · obtain ⟨o, e⟩ := hm b q
    rw [f b hb] at e; cases e
  · rcases q8 with ⟨q, _⟩ | ⟨T', oT', ts', fl', r1, r2, r3, r4, r5, r6, r7, r8⟩
    · cases q
    · exact .inr ⟨T', oT', ts', fl', r1, r2, r3, r4, r5, r6, r7, .inl r8⟩
theorem Rel.frA {σ : S} {ρ : List Addr} {s : Shared} (rel : Rel K F σ ρ s) : FrA K F.A s.heap := by
  obtain ⟨e, l, a1, a2, a3⟩ := rel.frs
  exact ⟨_, a1, a3⟩

theorem run_call (fk : FOk F) {f : Value} {g : Fun} {lvl : Nat} (hf : SimF K lvl f g) (hr : Room F.A lvl) {σ : S} {ρ : List Addr} {s : Shared} {vs : List V} {ws : List Value} (rel : Rel K F σ ρ s) (r : RepL K s.heap ρ vs ws) :
    Run K F (PySem.call f ws) (Rep K) (callF g vs σ) ρ s := by
  refine Run.of_wp fun hne => ?_
  have hne' : g vs σ.st ≠ .stuck := by
    intro e; apply hne; unfold callF; rw [e]
  refine wpAny_call (codeAny_mono (hf F.A hr σ.st ρ s rel.toGRel rel.frA vs ws r hne') fun r s' h => ?_)
  rcases h with ⟨v, st', w, ρ', e, rfl, gr, x, rv⟩ | ⟨e, st', w, ρ', e1, rfl, gr, x, rv⟩
  · exact ⟨v, { σ with st := st' }, ρ', by unfold callF; rw [e], rel.called gr x fk, ext_of_nil x, rv⟩
  · exact ⟨e, { σ with st := st' }, ρ', by unfold callF; rw [e1], rel.called gr x fk, ext_of_nil x, rv.toX fun a ha => (rel.mineAbove a ha).2⟩

/-! ### a def's body -/
noncomputable def bindP : List String → List V → String → Option V
  | x :: xs, v :: vs => fun y => if y = x then some v else bindP xs vs y
  | _, _ => fun _ => none
noncomputable def funM (params : List String) (body : M Fl) : Fun := fun vs st =>
  if vs.length = params.length then
    match body ⟨st, bindP params vs⟩ with
    | .ok (.ret v) σ' => .ok v σ'.st
    | .ok _ σ' => .ok .none σ'.st
    | .exc e σ' => .exc e σ'.st
    | .stuck => .stuck
  else .stuck

theorem bindL_mem {kindOf : Str → Option NameKind} : ∀ (binds : List (Str × Value)) (m : Str → Option Value) {x : Str} {w : Value}, (binds.map (·.1)).Nodup → kindOf x = some .local →
    ((x, w) ∈ binds → bindL kindOf binds m x = some w) ∧ (x ∉ binds.map (·.1) → bindL kindOf binds m x = m x)
  | [], m, x, w, _, _ => ⟨fun h => by simp at h, fun _ => rfl⟩
  | (n, v) :: r, m, x, w, hn, hk => by
    obtain ⟨n1, n2⟩ := List.nodup_cons.mp hn
    refine ⟨fun h => ?_, fun h => ?_⟩
    · rcases List.mem_cons.mp h with h | h
      · cases h
        unfold bindL
        rw [(bindL_mem r _ (w := v) n2 hk).2 n1, if_pos hk]; simp
      · unfold bindL
        exact (bindL_mem r _ n2 hk).1 h
    · have h1 : x ≠ n := fun e => h (by simp [e])
      have h2 : x ∉ r.map (·.1) := fun e => h (List.mem_cons_of_mem _ e)
      unfold bindL
      rw [(bindL_mem r _ (w := w) n2 hk).2 h2]
      split
      · exact if_neg h1
      · rfl
theorem bindC_mem {kindOf : Str → Option NameKind} : ∀ (binds : List (Str × Value)) (m : Str → Option Value) {x : Str} {w : Value}, (binds.map (·.1)).Nodup → kindOf x ≠ some .local →
    ((x, w) ∈ binds → bindC kindOf binds m x = some w) ∧ (x ∉ binds.map (·.1) → bindC kindOf binds m x = m x)
  | [], m, x, w, _, _ => ⟨fun h => by simp at h, fun _ => rfl⟩
  | (n, v) :: r, m, x, w, hn, hk => by
    obtain ⟨n1, n2⟩ := List.nodup_cons.mp hn
    refine ⟨fun h => ?_, fun h => ?_⟩
    · rcases List.mem_cons.mp h with h | h
      · cases h
        unfold bindC
        rw [(bindC_mem r _ (w := v) n2 hk).2 n1, if_neg hk]; simp
      · unfold bindC
        exact (bindC_mem r _ n2 hk).1 h
    · have h1 : x ≠ n := fun e => h (by simp [e])
      have h2 : x ∉ r.map (·.1) := fun e => h (List.mem_cons_of_mem _ e)
      unfold bindC
      rw [(bindC_mem r _ (w := w) n2 hk).2 h2]
      split
      · rfl
      · exact if_neg h1

theorem bindP_mem : ∀ {ps : List String} {vs : List V} {ws : List Value} {h : Heap} {ρ : List Addr} {x : String} {v : V}, RepL K h ρ vs ws → bindP ps vs x = some v →
    ∃ w, (Str.ofString x, w) ∈ (ps.map Str.ofString).zip ws ∧ Rep K h ρ v w
  | [], vs, ws, h, ρ, x, v, _, e => by simp [bindP] at e
  | p :: ps, [], ws, h, ρ, x, v, _, e => by simp [bindP] at e
  | p :: ps, u :: vs, ws, h, ρ, x, v, r, e => by
    obtain ⟨w, ws', rfl, r1, r2⟩ := RepL.cons_iff.mp r
    unfold bindP at e
    by_cases hx : x = p
    · rw [if_pos hx] at e; cases e; subst hx
      exact ⟨w, by simp, r1⟩
    · rw [if_neg hx] at e
      obtain ⟨w', h1, h2⟩ := bindP_mem r2 e
      exact ⟨w', by simp only [List.map_cons, List.zip_cons_cons]; exact List.mem_cons_of_mem _ h1, h2⟩

/-- the def as it lies in the base -/
structure DefAt (K : Glo) (fa : Addr) (fd : FuncData) (body : List Stmt) : Prop where
  obj : ∃ o, K.base.get? fa = some o ∧ o.data = .func fd
  code : K.base.CodeRec fd.code fd.qualname
  body : fd.body = .stmts body
  clo : fd.closure = []
  glob : fd.globals = mainGlobals
  blt : fd.builtins = builtinsNs
  co : fd.scope.isCoroutine = false
  gen : fd.scope.isGenerator = false
  kind : fd.scope.kind = .function

/-- an exception leaves the frame -/
theorem leave_x {e : Exc} {ρ ρ₀ : List Addr} {h₀ : Heap} {v : Value} {s : Shared} {σ : S} {Q : Unit → Shared → Prop} {E : Value → Shared → Prop} (x : XRep K F e h₀ v s) (rel : Rel K F σ ρ s) (ext : Ext F.mine ρ₀ ρ h₀ s.heap)
    (h : ∀ s', Rel K F σ ρ s' → Ext F.mine ρ₀ ρ h₀ s'.heap → XOut K e h₀ v s' → Q () s') : wpAny (model K.prog K.w) F.A (leaving F.env v) Q E s := by
  unfold leaving
  refine wpAny_bind (x.noted rel ext fun s₁ rel₁ ext₁ x₁ => ?_)
  refine x₁.flight rel₁ ext₁ (.inl rfl) fun s₂ rel₂ ext₂ x₂ => h s₂ rel₂ ext₂ ?_
  obtain ⟨X', f', g', hc', a', t', tok', oe', vs', q1, q2, q3, q4, q5, q6, q7, q8⟩ := x₂
  refine ⟨X', f', fun b hb => (g' b hb).1, hc', a', t', tok', oe', vs', q1, q2, q3, q4, q5, q6, q7, ?_⟩
  rcases q8 with ⟨q, _⟩ | ⟨T', oT', ts', fl', r1, r2, r3, r4, r5, r6, r7, r8⟩
  · cases q
  · exact .inr ⟨T', oT', ts', fl', r1, r2, r3, r4, r5, r6, r7, r8.2 rfl⟩

noncomputable def cellAddrs (cells : List (Str × Addr)) : List Addr := cells.filterMap fun x => cells.lookup x.1
theorem mem_cellAddrs {cells : List (Str × Addr)} {c : Addr} (h : c ∈ cellAddrs cells) : ∃ n, cells.lookup n = some c := by
  obtain ⟨x, _, e⟩ := List.mem_filterMap.mp h; exact ⟨x.1, e⟩
theorem cellAddrs_of {cells : List (Str × Addr)} {x : Str} {c : Addr} (h : cells.lookup x = some c) : c ∈ cellAddrs cells :=
  List.mem_filterMap.mpr ⟨(x, c), mem_of_lookup h, h⟩
theorem cells_apart : ∀ (names : List (Str × NameKind)) (n : Nat) (acc : List (Str × Addr)), (acc.Pairwise fun x y => x.2 ≠ y.2) → (∀ p ∈ acc, p.2 < n) → ((cellsFrom n names acc).Pairwise fun x y => x.2 ≠ y.2)
  | [], n, acc, h, _ => h
  | (nm, k) :: r, n, acc, h, hlt => by
    unfold cellsFrom
    split
    · refine cells_apart r (n + 1) _ (List.pairwise_cons.mpr ⟨fun p hp => ?_, h⟩) ?_
      · exact fun e => absurd (hlt p hp) (by rw [← e]; exact Nat.lt_irrefl _)
      · intro p hp
        rcases List.mem_cons.mp hp with rfl | hp
        · exact Nat.lt_succ_self _
        · exact Nat.lt_succ_of_lt (hlt p hp)
    · exact cells_apart r n acc h hlt
theorem cell_inj {names : List (Str × NameKind)} {n : Nat} {x : Str} {c : Addr} (h : (cellsFrom n names []).lookup x = some c) : ∀ y, (cellsFrom n names []).lookup y = some c → y = x :=
  fun y hy => name_of_addr (cells_apart names n [] List.Pairwise.nil (by simp)) (mem_of_lookup hy) (mem_of_lookup h)

noncomputable def defFrm (fd : FuncData) (L fa : Addr) (A : Around) : Frm := ⟨callEnvC fd L fa, A, L :: cellAddrs (cellsFrom (L + 1) fd.scope.names []), true⟩

theorem simF_def {lvl : Nat} {fa : Addr} {fd : FuncData} {body : List Stmt} {params : List String} {mb : M Fl} (hd : DefAt K fa fd body)
    (hnd : params.Nodup)
    (hbind : ∀ ws : List Value, ws.length = params.length → bindArgs fd ⟨ws, []⟩ = pure ((params.map Str.ofString).zip ws))
    (hkind : ∀ n, ∀ x ∈ params, fd.scope.names.lookup (Str.ofString x) = some .local ∨ (fd.scope.names.lookup (Str.ofString x) = some .cell ∧ ((cellsFrom n fd.scope.names []).lookup (Str.ofString x)).isSome = true))
    (hb : ∀ L A, Room A lvl → SimSs K (defFrm fd L fa A) body mb) : SimF K (lvl + 1) (.ref fa) (funM params mb) := by
  intro A hroom st ρ s g hfa vs ws r hne
  have hl : vs.length = params.length := by
    by_cases h : vs.length = params.length
    · exact h
    · exact absurd (by unfold funM; rw [if_neg h]) hne
  have hwl : ws.length = params.length := r.length.trans hl
  obtain ⟨o, ho, hdat⟩ := hd.obj
  have hmem : ∀ x ∈ (params.map Str.ofString).zip ws, ∃ p ∈ params, x.1 = Str.ofString p := by
    intro x hx
    have := (List.of_mem_zip (a := x.1) (b := x.2) hx).1
    obtain ⟨p, hp, e⟩ := List.mem_map.mp this
    exact ⟨p, hp, e.symm⟩
  have hnd' : (((params.map Str.ofString).zip ws).map (·.1)).Nodup := by
    rw [List.map_fst_zip (by simp [hwl])]
    have inj : ∀ l : List String, l.Nodup → (l.map Str.ofString).Nodup := by
      intro l
      induction l with
      | nil => intro _; exact List.nodup_nil
      | cons a l ih =>
        intro hn
        obtain ⟨a1, a2⟩ := List.nodup_cons.mp hn
        refine List.nodup_cons.mpr ⟨fun hm => ?_, ih a2⟩
        obtain ⟨b, hb, e⟩ := List.mem_map.mp hm
        exact a1 (ofString_inj e ▸ hb)
    exact inj params hnd
  refine codeAny_call_cells (fd := fd) (binds := (params.map Str.ofString).zip ws) (by have := hroom.2.1; (first | lia | omega)) (g.base fa o ho) hdat (K.top.nolimit.keeps g.base) (hd.code.keeps g.base) hd.body (hbind ws hwl) hd.clo ?_ ?_ hd.co hd.gen hd.kind
  · intro x hx
    obtain ⟨p, hp, e⟩ := hmem x hx
    rw [e]; exact hkind _ p hp
  · intro s₁ X
    have hkeep := X.toInCall.keep
    obtain ⟨h₁, tk, rfl, _⟩ := X.done
    have hLfresh := X.toInCall.fresh
    have fresh : ∀ {a : Addr}, s.heap.objs.size ≤ a → s.heap.get? a = none := fun ha => Heap.get?_none_of_le ha
    have fbase : ∀ {a : Addr}, s.heap.get? a = none → K.base.get? a = none := by
      intro a ha
      cases e : K.base.get? a with
      | none => rfl
      | some o' => have := g.base a o' e; rw [ha] at this; cases this
    have hmineFresh : ∀ a ∈ (defFrm fd s.heap.objs.size fa (A.deeper (callEnvC fd s.heap.objs.size fa))).mine, s.heap.get? a = none ∧ ∃ o', h₁.get? a = some o' := by
      intro a ha
      rcases List.mem_cons.mp ha with rfl | ha
      · obtain ⟨o', _, _, e, _⟩ := X.toInCall.ns
        exact ⟨fresh hLfresh, o', e⟩
      · obtain ⟨n, hn⟩ := mem_cellAddrs ha
        have h1 := X.above n a (mem_of_lookup hn)
        obtain ⟨o', e, _⟩ := X.cell n a hn
        exact ⟨fresh (Nat.le_of_lt (Nat.lt_of_le_of_lt hLfresh h1)), o', e⟩
    have rel : Rel K (defFrm fd s.heap.objs.size fa (A.deeper (callEnvC fd s.heap.objs.size fa))) ⟨st, bindP params vs⟩ ρ { s with heap := h₁, toks := tk } := by
      refine { toGRel := g.kept hkeep rfl rfl, vars := ?_, loc := ⟨_, X.toInCall.ns⟩, cels := fun x c e => ⟨_, X.cell x c e⟩, mineAbove := ?_, mineApart := ?_, mineLoc := List.mem_cons_self, frs := ?_ }
      · intro x v e
        obtain ⟨w, h1, h2⟩ := bindP_mem r e
        refine ⟨w, ?_, Rep.mono' (List.prefix_refl _) (kept_tup hkeep) h2⟩
        obtain ⟨p, hp, ep⟩ := hmem _ h1
        have hx : x = p := ofString_inj ep
        subst hx
        rcases hkind (s.heap.objs.size + 1) x hp with hk | ⟨hk, hk2⟩
        · exact .inl ⟨hk, _, X.toInCall.ns, (bindL_mem _ _ hnd' hk).1 h1⟩
        · obtain ⟨c, hc⟩ := Option.isSome_iff_exists.mp hk2
          refine .inr ⟨.inl hk, c, hc, ?_⟩
          have hnl : (callEnvC fd s.heap.objs.size fa).kindOf (Str.ofString x) ≠ some .local := by
            show fd.scope.names.lookup (Str.ofString x) ≠ some .local
            rw [hk]; decide
          have := X.cell _ c hc
          rw [(bindC_mem _ _ hnd' hnl).1 h1] at this
          exact this
      · intro a ha
        obtain ⟨h1, h2⟩ := hmineFresh a ha
        exact ⟨fbase h1, h2⟩
      · intro a ha hb
        obtain ⟨h1, _⟩ := hmineFresh a ha
        obtain ⟨it, o', e, _⟩ := g.alive hb
        rw [h1] at e; cases e
      · obtain ⟨l, hl1, hl2⟩ := hfa
        refine ⟨callEnvC fd s.heap.objs.size fa, l, by show A.frames.map _ = _; rw [hl1]; rfl, rfl, ?_⟩
        intro env he
        rcases List.mem_cons.mp he with rfl | he
        · obtain ⟨o', es, ep, e1, d1, _⟩ := X.toInCall.ns
          exact ⟨by show fd.scope.kind ≠ _; rw [hd.kind]; decide, s.heap.objs.size, o', _, _, rfl, fbase (fresh (Nat.le_refl _)), e1, d1⟩
        · exact hl2.next (fun b o es n _ q d => ⟨o, es, n, hkeep b o q, d⟩) env he
    have hrun := hb s.heap.objs.size (A.deeper (callEnvC fd s.heap.objs.size fa)) (hroom.deeper _) _ ρ _ rel
    have up : ∀ {ρ' : List Addr} {h' : Heap}, Ext (defFrm fd s.heap.objs.size fa (A.deeper (callEnvC fd s.heap.objs.size fa))).mine ρ ρ' h₁ h' → Ext [] ρ ρ' s.heap h' := by
      intro ρ' h' x
      refine ⟨x.pre, fun b o' e => x.alive b o' (hkeep b o' e), fun a ha => ?_, fun b o' e n1 _ => x.keep b o' (hkeep b o' e) n1 (fun hm => ?_), fun b o' e f => x.froz b o' (hkeep b o' e) f⟩
      · rcases x.new a ha with h1 | h1
        · exact .inl h1
        · refine .inr ?_
          cases e : s.heap.get? a with
          | none => rfl
          | some o' => have := hkeep a o' e; rw [h1] at this; cases this
      · have := (hmineFresh b hm).1
        rw [e] at this; cases this
    have hout : funM params mb vs st = (match mb ⟨st, bindP params vs⟩ with
      | .ok (.ret v) σ' => .ok v σ'.st
      | .ok _ σ' => .ok .none σ'.st
      | .exc e σ' => .exc e σ'.st
      | .stuck => .stuck) := by unfold funM; rw [if_pos hl]
    cases em : mb ⟨st, bindP params vs⟩ with
    | stuck => rw [em] at hout; exact absurd hout hne
    | exc e σ' =>
      rw [em] at hrun
      rw [em] at hout
      refine wpAny_mono hrun (fun _ _ h => h.elim) fun v s' ⟨ρ', rel', x', xr⟩ => ?_
      refine leave_x (K := K) (F := defFrm fd s.heap.objs.size fa (A.deeper (callEnvC fd s.heap.objs.size fa))) (σ := σ') xr rel' x' fun s₂ rel₂ x₂ xo => ?_
      obtain ⟨X', f', g'⟩ := xo
      have f2 : ∀ b ∈ X', s.heap.get? b = none := by
        intro b hb
        cases q : s.heap.get? b with
        | none => rfl
        | some o' => have := hkeep b o' q; rw [f' b hb] at this; cases this
      exact .inr ⟨e, σ'.st, v, ρ', hout, rfl, rel₂.toGRel, up x₂, X', f2, g'⟩
    | ok f σ' =>
      rw [em] at hrun hout
      refine wpAny_mono hrun (fun wf s' ⟨ρ', rel', x', rf⟩ => ?_) fun _ _ h => h.elim
      cases f with
      | ret v =>
        obtain ⟨w, rfl, rw'⟩ := rf
        exact .inl ⟨v, σ'.st, w, ρ', hout, rfl, rel'.toGRel, up x', rw'⟩
      | next => have : wf = .next := rf; subst this; exact .inl ⟨.none, σ'.st, .none, ρ', hout, rfl, rel'.toGRel, up x', Rep.none⟩
      | brk => have : wf = .brk := rf; subst this; exact .inl ⟨.none, σ'.st, .none, ρ', hout, rfl, rel'.toGRel, up x', Rep.none⟩
      | cont => have : wf = .cont := rf; subst this; exact .inl ⟨.none, σ'.st, .none, ρ', hout, rfl, rel'.toGRel, up x', Rep.none⟩

end Mine


/-! part F7 -/
set_option autoImplicit false
set_option maxRecDepth 100000
set_option linter.unusedVariables false
open PySem PySem.W PyProof.Rows
namespace Mine

variable {K : Glo} {F : Frm}

theorem wp_global {A : Around} {s : Shared} {σ : S} {ρ : List Addr} {x : Str} {pos : Pos} {v : Value} {Q : Value → Shared → Prop} {E : Value → Shared → Prop} (fk : FOk F) (rel : Rel K F σ ρ s) (hx : F.env.kindOf x = some .globalImplicit)
    (hg : K.mg x = some v) (h : Q v s) (hd : (x == ("__debug__" : Str)) = false := by decide) : wpAny (model K.prog K.w) A (eval (.Name x pos) F.env) Q E s :=
  Calls.Name_function_global fk.kind hx (Calls.loadGlobal_global (mg := K.mg) (by rw [fk.glob]; exact K.top.g.keeps rel.base) hg h) hd

theorem wp_builtin {A : Around} {s : Shared} {σ : S} {ρ : List Addr} {x : Str} {pos : Pos} {v : Value} {Q : Value → Shared → Prop} {E : Value → Shared → Prop} (fk : FOk F) (rel : Rel K F σ ρ s) (hx : F.env.kindOf x = some .globalImplicit)
    (hm : K.mg x = none) (hb : bootBuiltins x = some v) (h : Q v s) (hn : x ≠ "__name__" := by decide) (hd : (x == ("__debug__" : Str)) = false := by decide) : wpAny (model K.prog K.w) A (eval (.Name x pos) F.env) Q E s :=
  Calls.Name_function_global fk.kind hx (Calls.loadGlobal_builtin (mg := K.mg) (mb := K.mb) (by rw [fk.glob]; exact K.top.g.keeps rel.base) hm (by rw [fk.blt]; exact K.top.b.keeps rel.base) ((K.top.builtins x hn).trans hb) h) hd

theorem backTo_any (pos : Pos) (l : List (Bool × Sem Value)) : (backTo pos l).any (·.1) = l.any (·.1) := by
  unfold backTo; rw [List.any_map]; rfl

theorem wp_evalArgs {A : Around} {M : Model} {E : Value → Shared → Prop} {s : Shared} {f : Value} {args : List (Bool × Sem Value)} {Q : Args → Shared → Prop} (hpl : args.any (·.1) = false)
    (h : wpAny M A (spliced args) (fun vs s' => Q ⟨vs, []⟩ s') E s) : wpAny M A (evalArgs f true args []) Q E s := by
  cases args with
  | nil =>
    unfold evalArgs
    show wpAny M A (spliced [] >>= _) Q E s
    refine wpAny_bind (wpAny_mono h (fun vs s' h' => wpAny_bind (wpAny_pure (wpAny_holding ?_))) fun _ _ e => e)
    exact wpAny_bind (wpAny_pure (wpAny_bind (wpAny_pure (wpAny_pure h'))))
  | cons a r =>
    obtain ⟨b, x⟩ := a
    have : b = false := by
      rw [List.any_cons] at hpl
      cases b <;> simp_all
    subst this
    exact Calls.evalArgs_plain h

theorem eval_CallName (x : Str) (np pos : Pos) (args : List Expr) (env : Env) : eval (.Call (.Name x np) args [] pos) env = (do callWith pos (← eval (.Name x np) env) [] (backTo pos (starEach args env)) []) := rfl

/-- a call of a def of the text -/
theorem simE_callDef (fk : FOk F) {x : String} {np pos : Pos} {args : List Expr} {ms : M (List V)} {fa : Addr} {fd : FuncData} {body : List Stmt} {g : Fun} {lvl : Nat}
    (hx : F.env.kindOf (Str.ofString x) = some .globalImplicit) (hg : K.mg (Str.ofString x) = some (.ref fa)) (hd : DefAt K fa fd body) (hf : SimF K lvl (.ref fa) g) (hr : Room F.A lvl) (hs : SimEs K F args ms)
    (hpl : (starEach args F.env).any (·.1) = false := by rfl) (hdb : (Str.ofString x == ("__debug__" : Str)) = false := by decide) :
    SimE K F (.Call (.Name (Str.ofString x) np) args [] pos) (do let vs ← ms; callF g vs) := by
  intro σ ρ s rel
  refine Run.of_wp fun hne => ?_
  rw [eval_CallName]
  refine wpAny_bind (wp_global fk rel hx hg ?_ hdb)
  obtain ⟨o, ho, hdat⟩ := hd.obj
  refine Calls.callWith_function (o := o) (fd := fd) (wp_evalArgs (by rw [backTo_any]; exact hpl) ?_)
  refine Run.bindWp (hs pos σ ρ s rel) hne fun vs σ' ρ' s' ws e1 e2 rel' x' rv => ⟨⟨rel'.base _ _ ho, hdat⟩, ?_⟩
  rw [e2] at hne ⊢
  exact wpAny_mono ((run_call fk hf hr rel' rv).wp hne) (fun _ _ q => q.up x') fun _ _ q => q.up x'

/-- a built-in, or a type, called -/
noncomputable def BuiltOk (K : Glo) (f : Value) (g : List V → M V) : Prop :=
  ∀ F : Frm, FOk F → F.nh = true → ∀ σ ρ s vs ws, Rel K F σ ρ s → RepL K s.heap ρ vs ws → Run K F (PySem.call f ws) (Rep K) (g vs σ) ρ s

noncomputable def isBT : Value → Bool
  | .builtin _ => true
  | .type _ => true
  | _ => false

theorem wp_callWith {A : Around} {M : Model} {E : Value → Shared → Prop} {s : Shared} {pos : Pos} {f : Value} {first : List Value} {args : List (Bool × Sem Value)} {Q : Value → Shared → Prop} (hf : isBT f = true) (hpl : args.any (·.1) = false)
    (h : wpAny M A (spliced args) (fun vs s₁ => wpAny M A (PySem.call f (first ++ vs)) Q E s₁) E s) : wpAny M A (callWith pos f first args []) Q E s := by
  cases f with
  | builtin id => exact Calls.callWith_builtin hpl (wp_evalArgs hpl h)
  | type T => exact PyProof.Rows.callWith_type hpl (wp_evalArgs hpl h)
  | _ => cases hf

theorem simE_callB (fk : FOk F) {x : String} {np pos : Pos} {args : List Expr} {ms : M (List V)} {f : Value} {g : List V → M V} (hf : isBT f = true)
    (hx : F.env.kindOf (Str.ofString x) = some .globalImplicit) (hm : K.mg (Str.ofString x) = none) (hb : bootBuiltins (Str.ofString x) = some f) (ho : BuiltOk K f g) (hs : SimEs K F args ms)
    (hpl : (starEach args F.env).any (·.1) = false := by rfl) (hn : Str.ofString x ≠ "__name__" := by decide) (hdb : (Str.ofString x == ("__debug__" : Str)) = false := by decide) (hnh : F.nh = true := by rfl) :
    SimE K F (.Call (.Name (Str.ofString x) np) args [] pos) (do let vs ← ms; g vs) := by
  intro σ ρ s rel
  refine Run.of_wp fun hne => ?_
  rw [eval_CallName]
  refine wpAny_bind (wp_builtin fk rel hx hm hb ?_ hn hdb)
  refine wp_callWith hf (by rw [backTo_any]; exact hpl) ?_
  refine Run.bindWp (hs pos σ ρ s rel) hne fun vs σ' ρ' s' ws e1 e2 rel' x' rv => ?_
  rw [e2] at hne ⊢
  exact wpAny_mono ((ho F fk hnh σ' ρ' s' vs ws rel' rv).wp hne) (fun _ _ q => q.up x') fun _ _ q => q.up x'

/-! ### methods of lists -/
noncomputable def chkL : V → M Unit
  | .obj l => fun σ => match σ.st[l]? with
    | some (.lst _) => .ok () σ
    | _ => .stuck
  | _ => fun _ => .stuck

theorem chkL_ok {σ : S} {l : Nat} {us : List V} (h : σ.st[l]? = some (.lst us)) : chkL (.obj l) σ = .ok () σ := by
  show (match σ.st[l]? with | some (.lst _) => Res.ok () σ | _ => .stuck) = _
  rw [h]

noncomputable def MethOk (K : Glo) (id : String) (g : V → List V → M V) : Prop :=
  ∀ F : Frm, FOk F → F.nh = true → ∀ σ ρ s o wo vs ws, Rel K F σ ρ s → Rep K s.heap ρ o wo → RepL K s.heap ρ vs ws → Run K F (PySem.call (.builtin id) (wo :: ws)) (Rep K) (g o vs σ) ρ s

theorem Rel.list {σ : S} {ρ : List Addr} {s : Shared} {l : Nat} {w : Value} {vs : List V} (rel : Rel K F σ ρ s) (hr : Rep K s.heap ρ (.obj l) w) (hs : σ.st[l]? = some (.lst vs)) :
    ∃ a ws n, w = .ref a ∧ ρ[l]? = some a ∧ IsL s.heap a ws.toArray n ∧ RepL K s.heap ρ vs ws ∧ vs.length ≤ 1000000 := by
  obtain ⟨a, e, rfl⟩ := Rep.obj_iff.mp hr
  obtain ⟨h0, ws, n, h1, h2⟩ := rel.cell l a _ e hs
  exact ⟨a, ws, n, rfl, e, h1, h2, h0⟩

theorem simE_meth (fk : FOk F) {o : Expr} {name : String} {id : String} {apos pos : Pos} {args : List Expr} {mo : M V} {ms : M (List V)} {g : V → List V → M V} (hsl : Slot "list" (Str.ofString name) id)
    (hty : typeOf (.builtin id) = pure (.type "method_descriptor")) (ho : SimE K F o mo) (hs : SimEs K F args ms) (hm : MethOk K id g) {pl : Sem Bool}
    (he : eval (.Call (.Attribute o (Str.ofString name) apos) args [] pos) F.env = (do
      let ov ← eval o F.env
      standAt apos.atName
      let (f, first) ← holding [ov] (getMethod ov (Str.ofString name) pl)
      callWith pos f first (backTo pos (starEach args F.env)) []) := by rfl)
    (hpl : (starEach args F.env).any (·.1) = false := by rfl) (hnh : F.nh = true := by rfl) :
    SimE K F (.Call (.Attribute o (Str.ofString name) apos) args [] pos) (do let ov ← mo; chkL ov; let vs ← ms; g ov vs) := by
  intro σ ρ s rel
  refine Run.of_wp fun hne => ?_
  refine MethodCall_ (pl := pl) ?_ he
  refine Run.bindWp (ho σ ρ s rel) hne fun ov σ₁ ρ₁ s₁ wo e1 e2 rel₁ x₁ ro => ?_
  rw [e2] at hne ⊢
  cases ov with
  | obj l =>
    cases hc : σ₁.st[l]? with
    | none => exact absurd (by rw [M.bind_def]; simp only [chkL, hc]) hne
    | some c =>
      cases c with
      | lst us =>
        obtain ⟨a, ws, n, rfl, hρ, hL, hr, _⟩ := rel₁.list ro hc
        have e3 : (chkL (.obj l) >>= fun _ => (ms >>= fun vs => g (.obj l) vs)) σ₁ = (ms >>= fun vs => g (.obj l) vs) σ₁ := M.bind_ok (chkL_ok hc)
        rw [e3] at hne ⊢
        refine getMethod_list_of hsl hty hL.isList ⟨_, hL, rfl⟩ ?_
        refine wp_callWith rfl (by rw [backTo_any]; exact hpl) ?_
        refine wpAny_mono (Run.bindWp (P := fun ws' s₂ => wpAny (model K.prog K.w) F.A (PySem.call (.builtin id) (.ref a :: ws')) (QO K F (Rep K) ((ms >>= fun vs => g (.obj l) vs) σ₁) ρ₁ s₁.heap) (EO K F ((ms >>= fun vs => g (.obj l) vs) σ₁) ρ₁ s₁.heap) s₂) (hs pos σ₁ ρ₁ s₁ rel₁) hne ?_) (fun _ _ q => ?_) (fun _ _ q => q.up x₁)
        · intro vs σ₂ ρ₂ s₂ ws₂ e4 e5 rel₂ x₂ rv
          rw [e5] at hne ⊢
          exact wpAny_mono ((hm F fk hnh σ₂ ρ₂ s₂ (.obj l) (.ref a) vs ws₂ rel₂ (ro.mono x₂) rv).wp hne) (fun _ _ q => q.up x₂) fun _ _ q => q.up x₂
        · exact wpAny_mono q (fun _ _ q => q.up x₁) fun _ _ q => q.up x₁
  | _ => exact absurd (by rw [M.bind_def]; simp only [chkL]) hne

end Mine


/-! part E1 -/
set_option autoImplicit false
set_option maxRecDepth 100000
set_option linter.unusedVariables false
open PySem PySem.W PyProof.Rows
namespace Mine

variable {K : Glo} {F : Frm}

/-! ### an exception is made -/
noncomputable def excHeap (h : Heap) (cls : String) (msg : Str) (tk : Tok) : Heap := (h.push { cls := .type "tuple", data := .seq #[.str msg tk] }).push { cls := .type cls, data := .fields #[.ref h.objs.size, .none, .none, .none, .bool false, .none] }
theorem excHeap_keep {h : Heap} {cls : String} {msg : Str} {tk : Tok} : ∀ b o, h.get? b = some o → (excHeap h cls msg tk).get? b = some o := fun b o e => Heap.get?_push_of_some _ (Heap.get?_push_of_some _ e)
section
variable {M : Model} {A : Around} {E : Value → Shared → Prop} {s : Shared}
theorem raise_made {α : Type} {cls msg : String} {Q : α → Shared → Prop} (hp : PlainExc cls) (hh : A.handled = none) (hm : (Str.ofString msg).length ≤ sizeLine)
    (h : E (.ref (s.heap.objs.size + 1)) { s with heap := excHeap s.heap cls (Str.ofString msg) s.toks, toks := s.toks + 1 }) : wpAny M A (raiseErrorMade cls msg : Sem α) Q E s := by
  unfold raiseErrorMade
  refine wpAny_bind (wpAny_mkStr (wpAny_bind ?_) hm)
  unfold newExc newTuple
  refine wpAny_bind (wpAny_newObj_type ?_)
  refine wpAny_bind (m := firstArgMember _ _) (wpAny_of_eq (a := Value.none) (by simp only [firstArgMember, hp.first]; rfl) ?_)
  rw [hp.own]
  refine wpAny_newObj_type ?_
  unfold raiseNew
  refine wpAny_bind (wpAny_handled ?_)
  rw [hh]
  first
    | refine wpAny_throw ?_
    | refine wpAny_bind (wpAny_pure (wpAny_throw ?_))
  have : (s.heap.push { cls := .type "tuple", data := .seq #[Value.str (Str.ofString msg) s.toks] }).objs.size = s.heap.objs.size + 1 := Heap.size_push ..
  rw [← this] at h
  exact h
end
theorem x_made {σ : S} {ρ : List Addr} {s : Shared} {cls : String} {msg : Str} {tk : Tok} {n : Nat} (rel : Rel K F σ ρ s) (hc : cls ≠ "range") :
    ∃ ρ', Rel K F σ ρ' { s with heap := excHeap s.heap cls msg tk, toks := n } ∧ Ext F.mine ρ ρ' s.heap (excHeap s.heap cls msg tk) ∧ XRep K F ⟨cls, msg⟩ s.heap (.ref (s.heap.objs.size + 1)) { s with heap := excHeap s.heap cls msg tk, toks := n } := by
  have h1 : (s.heap.push { cls := .type "tuple", data := .seq #[Value.str msg tk] }).objs.size = s.heap.objs.size + 1 := Heap.size_push ..
  have hnew : s.heap.get? (s.heap.objs.size + 1) = none := Heap.get?_none_of_le (Nat.le_succ _)
  have hg : (excHeap s.heap cls msg tk).get? (s.heap.objs.size + 1) = some { cls := .type cls, data := .fields #[.ref s.heap.objs.size, .none, .none, .none, .bool false, .none] } := by
    unfold excHeap
    have := Heap.get?_push_size (s.heap.push { cls := .type "tuple", data := .seq #[Value.str msg tk] }) (o := { cls := .type cls, data := .fields #[.ref s.heap.objs.size, .none, .none, .none, .bool false, .none] }) rfl
    rw [h1] at this; exact this
  have ht : IsTup (excHeap s.heap cls msg tk) s.heap.objs.size #[.str msg tk] := ⟨_, Heap.get?_push_of_some _ (Heap.get?_push_size _ rfl), rfl, 0, rfl⟩
  refine ⟨ρ, rel.kept excHeap_keep rfl rfl, Ext.kept excHeap_keep, [s.heap.objs.size + 1], fun b hb => by rw [List.mem_singleton.mp hb]; exact hnew, fun b hb => ?_, hc, _, _, tk, _, _, rfl, by simp, ht, hg, rfl, rfl, rfl, .inl ⟨rfl, rfl⟩⟩
  rw [List.mem_singleton.mp hb]
  refine ⟨?_, fun q => ?_⟩
  · cases e : K.base.get? (s.heap.objs.size + 1) with
    | none => rfl
    | some o => have := rel.base _ _ e; rw [hnew] at this; cases this
  · obtain ⟨_, o, e⟩ := rel.mineAbove _ q
    rw [hnew] at e; cases e

/-! ### pop of an empty list, an item that is not there -/
open PySem.SeqAt PySem.MeetsSeq PySem.MeetsSeq3 in
section
variable {A : Around} {E : Value → Shared → Prop} {s : Shared}
end

end Mine


/-! part F8 -/
set_option autoImplicit false
set_option maxRecDepth 100000
set_option linter.unusedVariables false
open PySem PySem.W PyProof.Rows
namespace Mine

variable {K : Glo} {F : Frm}

/-! ### items -/
noncomputable def ix (n : Nat) (k : Int) : Option Nat := if 0 ≤ k then (if k.toNat < n then some k.toNat else none) else (if -(n : Int) ≤ k then some (k + n).toNat else none)

theorem ix_seq {n j : Nat} {k : Int} (h : ix n k = some j) : seqIndex? k n = some j := by
  unfold ix at h
  unfold seqIndex?
  split at h
  · split at h
    · cases h
      have h1 : ¬ k < 0 := by (first | lia | omega)
      simp only [h1, if_false]
      rw [if_pos (by simp only [Bool.and_eq_true, decide_eq_true_eq]; (first | lia | omega))]
    · cases h
  · split at h
    · cases h
      have h1 : k < 0 := by (first | lia | omega)
      simp only [h1, if_true]
      rw [if_pos (by simp only [Bool.and_eq_true, decide_eq_true_eq]; (first | lia | omega))]
    · cases h
theorem ix_range {n j : Nat} {k : Int} (h : ix n k = some j) (hn : n ≤ 1000000) : -1000000 ≤ k ∧ k < 1000000 := by
  unfold ix at h
  split at h
  · split at h
    · (first | lia | omega)
    · cases h
  · split at h
    · (first | lia | omega)
    · cases h

noncomputable def getI : V → V → M V
  | .obj l, .int k => fun σ => match σ.st[l]? with
    | some (.lst vs) => match ix vs.length k with
      | some j => match vs[j]? with
        | some v => .ok v σ
        | none => .stuck
      | none => .stuck
    | _ => .stuck
  | .tup vs, .int k => fun σ => match ix vs.length k with
    | some j => match vs[j]? with
      | some v => .ok v σ
      | none => .stuck
    | none => .stuck
  | _, _ => fun _ => .stuck

theorem wp_getItem_list {A : Around} {s : Shared} {a : Addr} {ws : List Value} {k : Int} {t : Tok} {j : Nat} {x : Value} {Q : Value → Shared → Prop} {E : Value → Shared → Prop} (hl : s.heap.IsList a ws.toArray) (hn : ws.length ≤ 1000000)
    (hk : ix ws.length k = some j) (hx : ws[j]? = some x) (h : Q x s) : wpAny (model K.prog K.w) A (getItem (.ref a) (.int k t)) Q E s := by
  have hr := ix_range hk hn
  by_cases h0 : 0 ≤ k
  · refine wpAny_getItem_list hl h0 (by (first | lia | omega)) ?_ h
    unfold ix at hk
    rw [if_pos h0] at hk
    split at hk
    · cases hk; simpa using hx
    · cases hk
  · unfold ix at hk
    rw [if_neg h0] at hk
    split at hk
    · cases hk
      refine wpAny_getItem_list_neg hl (by (first | lia | omega)) (by simpa using ‹_›) (by (first | lia | omega)) ?_ h
      simpa using hx
    · cases hk

theorem run_getItem (fk : FOk F) {σ : S} {ρ : List Addr} {s : Shared} {a b : V} {wa wb : Value} (rel : Rel K F σ ρ s) (ra : Rep K s.heap ρ a wa) (rb : Rep K s.heap ρ b wb) {value slice : Expr}
    (hs : ∀ o i, subscripted slice false o i = PySem.operate [o, i] (getItem o i)) : Run K F (subscriptTail value slice wa wb) (Rep K) (getI a b σ) ρ s := by
  cases a with
  | obj l =>
    cases b with
    | int k =>
      obtain ⟨t, rfl⟩ := Rep.int_iff.mp rb
      unfold getI
      dsimp only
      cases hc : σ.st[l]? with
      | none => exact Run.stuck
      | some c =>
        cases c with
        | lst vs =>
          dsimp only
          obtain ⟨ad, ws, n, rfl, hρ, hL, hr, hn⟩ := rel.list ra hc
          cases hi : ix vs.length k with
          | none => exact Run.stuck
          | some j =>
            dsimp only
            cases hv : vs[j]? with
            | none => exact Run.stuck
            | some v =>
              obtain ⟨w, hw, rw'⟩ := hr.get? hv
              refine Run.ok (tail_any hL.isList.typeIs slot_list_getitem.lookup (wp_getItem_list hL.isList (by rw [hr.length]; exact hn) (by rw [hr.length]; exact hi) hw ?_) (hs _ _))
              exact ⟨ρ, rel, Ext.refl .., rw'⟩
    | _ => exact Run.stuck
  | tup vs =>
    cases b with
    | int k =>
      obtain ⟨t, rfl⟩ := Rep.int_iff.mp rb
      obtain ⟨hn, ad, ws, rfl, ht, hr⟩ := Rep.tup_iff.mp ra
      unfold getI
      dsimp only
      cases hi : ix vs.length k with
      | none => exact Run.stuck
      | some j =>
        dsimp only
        cases hv : vs[j]? with
        | none => exact Run.stuck
        | some v =>
          obtain ⟨w, hw, rw'⟩ := hr.get? hv
          have hrg := ix_range hi hn
          refine Run.ok (tail_any ht.typeIs slot_tuple_getitem.lookup (PyProof.Rows.getItem_tuple ht (by (first | lia | omega)) (by (first | lia | omega)) (j := j) (by rw [List.size_toArray, hr.length]; exact ix_seq hi) (by simpa using hw) ?_) (hs _ _))
          exact ⟨ρ, rel, Ext.refl .., rw'⟩
    | _ => exact Run.stuck
  | _ => cases b <;> exact Run.stuck

theorem simE_sub (fk : FOk F) {value slice : Expr} {mv mi : M V} (pos : Pos) (hv : SimE K F value mv) (hi : SimE K F slice mi)
    (hs : ∀ o i, subscripted slice false o i = PySem.operate [o, i] (getItem o i) := by intro _ _; rfl) :
    SimE K F (.Subscript value slice pos) (do let o ← mv; let i ← mi; getI o i) := by
  intro σ ρ s rel
  rw [eval_Subscript]
  refine Run.bind (hv σ ρ s rel) fun a σ₁ ρ₁ s₁ wa _ rel₁ x₁ ra => ?_
  refine Run.bind (Run.holding (hi σ₁ ρ₁ s₁ rel₁)) fun b σ₂ ρ₂ s₂ wb _ rel₂ x₂ rb => ?_
  exact Run.standAt (run_getItem fk rel₂ (ra.mono x₂) rb hs)

/-! ### an item is stored -/
theorem wp_setItem_list {A : Around} {s : Shared} {a : Addr} {items : Array Value} {n : Nat} {k : Int} {t : Tok} {v : Value} {Q : Unit → Shared → Prop} {E : Value → Shared → Prop} (hl : IsL s.heap a items n)
    (h0 : 0 ≤ k) (hfit : k < 2 ^ 63) (hn : k < items.size)
    (hQ : Q () { s with heap := s.heap.update a (Obj.mapSeq (·.setIfInBounds k.toNat v)) }) :
    wpAny (model K.prog K.w) A (setItem (.ref a) (.int k t) v) Q E s := by
  have hT : s.TypeIs (.ref a) "list" := ⟨_, hl, rfl⟩
  unfold setItem
  try with_reducible refine wpAny_holding ?_
  first | refine wpAny_bind (wpAny_pure ?_) | skip
  refine wpAny_bind (wpAny_sequenceKey hT (by decide) ?_)
  refine wpAny_bind (wpAny_callSpecial?_slot (name := Str.ofString "__setitem__") hT slot_list_setitem
    (wpAny_call_entry slot_list_setitem hT entry_list_setitem ?_ (args_list_setitem _ _ _)))
  show wpAny _ _ (Builtin.List.listSubscript? (.int k t) >>= _) _ _ s
  refine wpAny_bind (wpAny_listSubscript_int (fitsIndex_of h0 hfit) ?_)
  clear hfit
  obtain ⟨j, rfl⟩ := Int.eq_ofNat_of_zero_le h0
  have hj : j < items.size := by (first | lia | omega)
  have hx' : items[j]? = some items[j] := Array.getElem?_eq_getElem hj
  show wpAny _ _ ((seqItemAt a j >>= fun r => pure (r.map (j, ·))) >>= _) _ _ s
  refine wpAny_bind (wpAny_bind (wpAny_seqItemAt hl rfl (wpAny_pure ?_)))
  rw [hx']
  show wpAny _ _ (setSeqItemAt a j v >>= _) _ _ s
  refine wpAny_bind (wpAny_setSeqItemAt hl rfl ?_)
  first
    | exact wpAny_bind (wpAny_pure (wpAny_pure ⟨.none, rfl, wpAny_pure hQ⟩))
    | exact wpAny_pure ⟨.none, rfl, wpAny_pure hQ⟩

noncomputable def setI : V → V → V → M Unit
  | .obj l, .int k, v => fun σ => match σ.st[l]? with
    | some (.lst vs) => if l ≠ 0 ∧ 0 ≤ k ∧ k.toNat < vs.length then .ok () { σ with st := σ.st.set l (.lst (vs.set k.toNat v)) } else .stuck
    | _ => .stuck
  | _, _, _ => fun _ => .stuck

theorem run_setItem (fk : FOk F) {σ : S} {ρ : List Addr} {s : Shared} {a b v : V} {wa wb wv : Value} (rel : Rel K F σ ρ s) (ra : Rep K s.heap ρ a wa) (rb : Rep K s.heap ρ b wb) (rv : Rep K s.heap ρ v wv) :
    Run K F (setItem wa wb wv) URep (setI a b v σ) ρ s := by
  cases a with
  | obj l =>
    cases b with
    | int k =>
      obtain ⟨t, rfl⟩ := Rep.int_iff.mp rb
      unfold setI
      dsimp only
      cases hc : σ.st[l]? with
      | none => exact Run.stuck
      | some c =>
        cases c with
        | lst vs =>
          dsimp only
          obtain ⟨ad, ws, n, rfl, hρ, hL, hr, hn⟩ := rel.list ra hc
          by_cases hk : l ≠ 0 ∧ 0 ≤ k ∧ k.toNat < vs.length
          · rw [if_pos hk]
            obtain ⟨j, rfl⟩ := Int.eq_ofNat_of_zero_le hk.2.1
            have hj : j < vs.length := by simpa using hk.2.2
            refine Run.ok (wp_setItem_list hL hk.2.1 (by (first | lia | omega)) (by rw [List.size_toArray, hr.length]; (first | lia | omega)) ?_)
            obtain ⟨rel', x'⟩ := rel.upd (s' := { s with heap := s.heap.update ad (Obj.mapSeq (·.setIfInBounds j wv)) }) (vs := vs.set j v) (ws := ws.set j wv) (n := n) hρ hk.1 (Heap.SameBut.update ..) (by
              have := hL.update (·.setIfInBounds j wv)
              simpa using this) (hr.set j rv) (by simpa using hn) rfl rfl
            exact ⟨ρ, rel', x', trivial⟩
          · rw [if_neg hk]; exact Run.stuck
    | _ => exact Run.stuck
  | _ => exact Run.stuck

theorem assign_Sub (o i : Expr) (pos : Pos) (env : Env) (w : Value) : assign (.Subscript o i pos) env w = (do
    let ov ← holding [w] (eval o env)
    let iv ← holding [w, ov] (eval i env)
    standAt pos
    holding [w, ov, iv] (setItem ov iv w)
    release (match i with | .Slice _ _ none _ => [iv, w, ov] | _ => [w, ov, iv]) []) := rfl
theorem simT_sub (fk : FOk F) {o i : Expr} {mo mi : M V} (pos : Pos) (ho : SimE K F o mo) (hi : SimE K F i mi) : SimT K F (.Subscript o i pos) (fun v => do let a ← mo; let b ← mi; setI a b v) := by
  intro σ ρ s v w rel rv
  rw [assign_Sub]
  refine Run.bind (Run.holding (ho σ ρ s rel)) fun a σ₁ ρ₁ s₁ wa _ rel₁ x₁ ra => ?_
  refine Run.bind (Run.holding (hi σ₁ ρ₁ s₁ rel₁)) fun b σ₂ ρ₂ s₂ wb _ rel₂ x₂ rb => ?_
  refine Run.standAt ?_
  have key := run_setItem fk rel₂ (ra.mono x₂) rb ((rv.mono x₁).mono x₂)
  have e : setI a b v σ₂ = (setI a b v >>= fun u => (pure u : M Unit)) σ₂ := by
    rw [M.bind_def]; cases setI a b v σ₂ <;> rfl
  rw [e]
  refine Run.bind (Run.holding key) fun u σ₃ ρ₃ s₃ _ _ rel₃ x₃ _ => ?_
  exact Run.ok (wpAny_release ⟨ρ₃, rel₃, Ext.refl .., trivial⟩)

end Mine


/-! part F9 -/
set_option autoImplicit false
set_option maxRecDepth 100000
set_option linter.unusedVariables false
open PySem PySem.W PyProof.Rows
namespace Mine

variable {K : Glo} {F : Frm}

/-! ### values as data -/
noncomputable def mapO {α β : Type} (f : α → Option β) : List α → Option (List β)
  | [] => some []
  | a :: r => match f a, mapO f r with
    | some b, some bs => some (b :: bs)
    | _, _ => none

noncomputable def toD (st : Store) : Nat → V → Option PyData
  | 0, _ => none
  | n + 1, v => match v with
    | .none => some .none
    | .bool b => some (.bool b)
    | .int i => some (.int i)
    | .str x => if PySem.PyData.strOk x then some (.str x) else none
    | .tup vs => (mapO (toD st n) vs).map .tuple
    | .obj l => match st[l]? with
      | some (.lst vs) => (mapO (toD st n) vs).map .list
      | _ => none
    | _ => none

theorem mapO_cons {α β : Type} {f : α → Option β} {a : α} {r : List α} {l : List β} (h : mapO f (a :: r) = some l) : ∃ b bs, f a = some b ∧ mapO f r = some bs ∧ l = b :: bs := by
  unfold mapO at h
  cases h1 : f a with
  | none => rw [h1] at h; cases h
  | some b =>
    cases h2 : mapO f r with
    | none => rw [h1, h2] at h; cases h
    | some bs => rw [h1, h2] at h; cases h; exact ⟨b, bs, rfl, rfl, rfl⟩

theorem reads_all {h : Heap} {ρ : List Addr} {f : V → Option PyData} {n : Nat}
    (hf : ∀ v w d, f v = some d → Rep K h ρ v w → ∃ as, Reads h w d as ∧ d.canLay0 = true ∧ d.depth ≤ n) : ∀ (vs : List V) (ws : List Value) (ds : List PyData), mapO f vs = some ds → RepL K h ρ vs ws →
    ∃ as, ReadsAll h ws ds as ∧ PyData.canLayAll0 ds = true ∧ PyData.depthAll ds ≤ n
  | [], ws, ds, e, r => by
    unfold mapO at e; cases e
    rw [RepL.nil_iff.mp r]
    exact ⟨[], .nil, rfl, Nat.zero_le _⟩
  | v :: vs, ws, ds, e, r => by
    obtain ⟨b, bs, e1, e2, rfl⟩ := mapO_cons e
    obtain ⟨w, ws', rfl, r1, r2⟩ := RepL.cons_iff.mp r
    obtain ⟨as, q1, q2, q3⟩ := hf v w b e1 r1
    obtain ⟨as', p1, p2, p3⟩ := reads_all hf vs ws' bs e2 r2
    refine ⟨as ++ as', .cons q1 p1, ?_, ?_⟩
    · simp [PyData.canLayAll0, q2, p2]
    · simp [PyData.depthAll]; (first | lia | omega)

theorem toD_reads {st : Store} {ρ : List Addr} {s : Shared} (g : GRel K st ρ s) : ∀ (n : Nat) (v : V) (w : Value) (d : PyData), toD st n v = some d → Rep K s.heap ρ v w →
    ∃ as, Reads s.heap w d as ∧ d.canLay0 = true ∧ d.depth ≤ n
  | 0, v, w, d, e, _ => by simp [toD] at e
  | n + 1, v, w, d, e, r => by
    cases v with
    | none => simp only [toD] at e; cases e; rw [Rep.none_iff.mp r]; exact ⟨[], .none, rfl, Nat.zero_le _⟩
    | bool b => simp only [toD] at e; cases e; rw [Rep.bool_iff.mp r]; exact ⟨[], .bool b, rfl, Nat.zero_le _⟩
    | int i => simp only [toD] at e; cases e; obtain ⟨t, rfl⟩ := Rep.int_iff.mp r; exact ⟨[], .int i t, rfl, Nat.zero_le _⟩
    | str x =>
      simp only [toD] at e
      split at e
      · cases e; obtain ⟨t, rfl⟩ := Rep.str_iff.mp r; exact ⟨[], .str x t, by assumption, Nat.zero_le _⟩
      · cases e
    | tup vs =>
      simp only [toD] at e
      cases em : mapO (toD st n) vs with
      | none => rw [em] at e; cases e
      | some ds =>
        rw [em] at e; cases e
        obtain ⟨_, a, ws, rfl, ⟨o, h1, h2, k, h3⟩, rl⟩ := Rep.tup_iff.mp r
        obtain ⟨as, q1, q2, q3⟩ := reads_all (K := K) (n := n) (fun v w d e r => toD_reads g n v w d e r) vs ws ds em rl
        exact ⟨as, .tuple h1 h2 h3 (by simpa using q1), q2, by simp [PyData.depth]; (first | lia | omega)⟩
    | obj l =>
      simp only [toD] at e
      cases hc : st[l]? with
      | none => rw [hc] at e; cases e
      | some c =>
        cases c with
        | lst vs =>
          rw [hc] at e
          dsimp only at e
          cases em : mapO (toD st n) vs with
          | none => rw [em] at e; cases e
          | some ds =>
            rw [em] at e; cases e
            obtain ⟨a, hρ, rfl⟩ := Rep.obj_iff.mp r
            obtain ⟨_, ws, k, hL, rl⟩ := g.cell l a _ hρ hc
            obtain ⟨as, q1, q2, q3⟩ := reads_all (K := K) (n := n) (fun v w d e r => toD_reads g n v w d e r) vs ws ds em rl
            exact ⟨a :: as, .list hL rfl rfl (by simpa using q1), q2, by simp [PyData.depth]; (first | lia | omega)⟩
    | fn x => simp [toD] at e
    | rng a b c => simp [toD] at e

noncomputable def eqV (a b : V) : M V := fun σ => match toD σ.st 6 a, toD σ.st 6 b with
  | some d, some d' => .ok (.bool (PyData.eqv d d')) σ
  | _, _ => .stuck
noncomputable def neV (a b : V) : M V := fun σ => match toD σ.st 6 a, toD σ.st 6 b with
  | some d, some d' => .ok (.bool (!PyData.eqv d d')) σ
  | _, _ => .stuck

theorem cmp_eq : CmpOk K .Eq eqV := by
  intro F fk σ ρ s a b wa wb rel ra rb
  unfold eqV
  cases e1 : toD σ.st 6 a with
  | none => exact Run.stuck
  | some d =>
    cases e2 : toD σ.st 6 b with
    | none => exact Run.stuck
    | some d' =>
      obtain ⟨as, r1, c1, p1⟩ := toD_reads rel.toGRel 6 a wa d e1 ra
      obtain ⟨bs, r2, c2, p2⟩ := toD_reads rel.toGRel 6 b wb d' e2 rb
      exact Run.ok (SeqAt.compareEq_reads r1 r2 c1 c2 (by have := fk.units; (first | lia | omega)) ⟨ρ, rel, Ext.refl .., Rep.bool _⟩)
theorem cmp_ne : CmpOk K .NotEq neV := by
  intro F fk σ ρ s a b wa wb rel ra rb
  unfold neV
  cases e1 : toD σ.st 6 a with
  | none => exact Run.stuck
  | some d =>
    cases e2 : toD σ.st 6 b with
    | none => exact Run.stuck
    | some d' =>
      obtain ⟨as, r1, c1, p1⟩ := toD_reads rel.toGRel 6 a wa d e1 ra
      obtain ⟨bs, r2, c2, p2⟩ := toD_reads rel.toGRel 6 b wb d' e2 rb
      exact Run.ok (SeqAt.compareNe_reads r1 r2 c1 c2 (by have := fk.units; (first | lia | omega)) ⟨ρ, rel, Ext.refl .., Rep.bool _⟩)

/-! ### is, is not, in, not in -/
noncomputable def V.isNone : V → Bool
  | .none => true
  | _ => false
noncomputable def isNotV : V → V → M V
  | v, .none => fun σ => .ok (.bool (!v.isNone)) σ
  | .obj l, .obj k => fun σ => .ok (.bool (!decide (l = k))) σ
  | _, _ => fun _ => .stuck

theorem rep_none_beq {h : Heap} {ρ : List Addr} {v : V} {w : Value} (r : Rep K h ρ v w) : (w == Value.none) = v.isNone := by
  cases v with
  | none => rw [Rep.none_iff.mp r]; rfl
  | bool b => rw [Rep.bool_iff.mp r]; rfl
  | int i => obtain ⟨t, rfl⟩ := Rep.int_iff.mp r; rfl
  | str x => obtain ⟨t, rfl⟩ := Rep.str_iff.mp r; rfl
  | tup vs => obtain ⟨_, a, ws, rfl, _⟩ := Rep.tup_iff.mp r; rfl
  | obj l => obtain ⟨a, _, rfl⟩ := Rep.obj_iff.mp r; rfl
  | fn x => simp only [Rep] at r; obtain ⟨_, a, rfl⟩ := r; rfl
  | rng a b c => obtain ⟨a, _, _, _, rfl, _⟩ := Rep.rng_iff.mp r; rfl

theorem cmp_isNot : CmpOk K .IsNot isNotV := by
  intro F fk σ ρ s a b wa wb rel ra rb
  cases b with
  | none =>
    rw [Rep.none_iff.mp rb]
    have e : isNotV a .none σ = .ok (.bool (!a.isNone)) σ := by cases a <;> rfl
    rw [e]
    refine Run.ok (isNot_none ⟨ρ, rel, Ext.refl .., ?_⟩)
    rw [rep_none_beq ra]; exact Rep.bool _
  | obj k =>
    cases a with
    | obj l =>
      obtain ⟨x, hx, rfl⟩ := Rep.obj_iff.mp ra
      obtain ⟨y, hy, rfl⟩ := Rep.obj_iff.mp rb
      show Run K F _ (Rep K) (.ok (V.bool (!decide (l = k))) σ) ρ s
      by_cases hlk : l = k
      · subst hlk
        rw [hx] at hy; cases hy
        refine Run.ok (wpAny_isNot_ref_self ⟨ρ, rel, Ext.refl .., ?_⟩)
        rw [decide_eq_true rfl]; exact Rep.bool _
      · have hne : x ≠ y := fun e => hlk (nodup_get rel.nodup (e ▸ hx) hy)
        obtain ⟨_, ox, ex, cx, _⟩ := rel.toGRel.alive (List.mem_of_getElem? hx)
        obtain ⟨_, oy, ey, cy, _⟩ := rel.toGRel.alive (List.mem_of_getElem? hy)
        refine Run.ok (wpAny_isNot_ref_other hne ex ey (by rw [cx]; decide) ⟨ρ, rel, Ext.refl .., ?_⟩)
        rw [decide_eq_false hlk]; exact Rep.bool _
    | _ => exact Run.stuck
  | _ => cases a <;> exact Run.stuck

/-! ### less than -/
mutual
noncomputable def ltD : PyData → PyData → Option Bool
  | .int i, .int j => some (decide (i < j))
  | .tuple xs, .tuple ys => ltAll xs ys
  | .list xs, .list ys => ltAll xs ys
  | _, _ => none
noncomputable def ltAll : List PyData → List PyData → Option Bool
  | [], [] => some false
  | [], _ :: _ => some true
  | _ :: _, [] => some false
  | x :: xs, y :: ys => if PyData.eqv x y then ltAll xs ys else ltD x y
end

end Mine


/-! part F10 -/
set_option autoImplicit false
set_option maxRecDepth 100000
set_option linter.unusedVariables false
open PySem PySem.W PyProof.Rows
namespace Mine

variable {K : Glo} {F : Frm}
open PySem.SeqAt PySem.MeetsSeq PySem.MeetsSeq3

noncomputable def LtAt (A : Around) (s : Shared) (y x : Value) (b : Bool) : Prop :=
  ∀ (prog : Program) (w : World) (E : Value → Shared → Prop) (Q : Value → Shared → Prop), Q (.bool b) s → wpAny (model prog w) A (richCompare .Lt y x) Q E s

noncomputable def LexAt (A : Around) (s : Shared) (fin : Bool) : List (Value × Value) → Bool → Prop
  | [], r => r = fin
  | (x, y) :: rest, r => ∃ e, EqAt A s x y e ∧ (if e = true then LexAt A s fin rest r else LtAt A s x y r)

theorem tuple_ltAt (l b : Addr) (items items2 : Array Value) (n n2 : Nat) (dd dd2 : Option Addr) (sl sl2 : Array (Option Value)) (r : Bool) :
    Meets (Builtin.«tuple.__lt__» ⟨[.ref l, .ref b], []⟩)
      (fun A R s => s.heap.get? l = some { cls := .type "tuple", dict := dd, data := .seq items n, slots := sl } ∧ s.heap.get? b = some { cls := .type "tuple", dict := dd2, data := .seq items2 n2, slots := sl2 } ∧
        LexAt A.in1 s (decide (items.size < items2.size)) (items.toList.zip items2.toList) r ∧ R (.ok (.ret (.bool r))) s) :=
  .of_wp fun prog w A R s h => by
    obtain ⟨hp, g, d, tk, os⟩ := s; obtain ⟨hl, hb, he, h⟩ := h
    have f2 := AutoSeq1.sub_tuple_tuple
    wp_walk using wpAny_loadPart' hl, wpAny_loadPart' hb, wpAny_forIn_list _ (fun rest b s' => b.1 = none ∧ s' = ⟨hp, g, d, tk, os⟩ ∧ LexAt A.in1 ⟨hp, g, d, tk, os⟩ (decide (items.size < items2.size)) rest r) _
    case turn =>
      rintro ⟨y, x⟩ rest b s' ⟨hb', rfl, e, he1, he2⟩
      refine wpAny_bind (he1 prog w _ _ ?_)
      cases e with
      | true =>
        simp only [if_true] at he2
        wp_walk
        exact ⟨rfl, rfl, he2⟩
      | false =>
        simp only [Bool.false_eq_true, if_false] at he2
        simp only [Bool.not_false, if_true]
        refine wpAny_bind (wpAny_rule (wpAny_bind (he2 prog w _ _ ?_)))
        wp_walk
        exact ⟨_, rfl, h⟩
    case fin =>
      rintro ⟨b1, b2⟩ s' ⟨hb', rfl, he'⟩
      simp only at hb'
      subst hb'
      wp_walk
      have : r = decide (items.size < items2.size) := he'
      refine ⟨_, rfl, ?_⟩
      rw [this] at h
      exact h
    case h => exact ⟨rfl, rfl, he⟩

theorem lt_loopAt (l b : Addr) (items items2 : Array Value) (n n2 : Nat) (dd dd2 : Option Addr) (sl sl2 : Array (Option Value)) (r : Bool) (k : Nat) :
    ∀ i : Nat, min items.size items2.size - i = k → Meets (Builtin.«list.__eq__.loop» ⟨[.ref l, .ref b, rawInt i, rawInt 0], []⟩)
      (fun A R s => s.heap.get? l = some { cls := .type "list", dict := dd, data := .seq items n, slots := sl } ∧ s.heap.get? b = some { cls := .type "list", dict := dd2, data := .seq items2 n2, slots := sl2 } ∧
        LexAt A.in1 s (decide (items.size < items2.size)) ((items.toList.zip items2.toList).drop i) r ∧ R (.ok (.ret (.bool r))) s) := by
  induction k with
  | zero =>
    intro i hk prog w A R s h
    obtain ⟨hp, g, d, tk, os⟩ := s; obtain ⟨hl, hb, he, h⟩ := h
    wp_walk using wpAny_loadPart' hl, wpAny_loadPart' hb
    have hd : (items.toList.zip items2.toList).drop i = [] := by simp; (first | lia | omega)
    rw [hd] at he
    have hr : r = decide (items.size < items2.size) := he
    have hor : items[((i : Nat) : Int).toNat]? = none ∨ items2[((i : Nat) : Int).toNat]? = none := by
      simp; (first | lia | omega)
    rw [hr] at h
    rcases hor with hi | hi
    · rw [hi]
      wp_walk using wpAny_loadPart' hl, wpAny_loadPart' hb
      exact h
    · rw [hi]
      cases items[((i : Nat) : Int).toNat]? <;> (wp_walk using wpAny_loadPart' hl, wpAny_loadPart' hb; exact h)
  | succ k ih =>
    intro i hk prog w A R s h
    obtain ⟨hp, g, d, tk, os⟩ := s; obtain ⟨hl, hb, he, h⟩ := h
    wp_walk using wpAny_loadPart' hl, wpAny_loadPart' hb
    have hlt : i < items.size := by (first | lia | omega)
    have hlt2 : i < items2.size := by (first | lia | omega)
    have hi1 : items[((i : Nat) : Int).toNat]? = some items[i] := by simp [hlt]
    have hi2 : items2[((i : Nat) : Int).toNat]? = some items2[i] := by simp [hlt2]
    have hd : (items.toList.zip items2.toList).drop i = (items[i], items2[i]) :: (items.toList.zip items2.toList).drop (i + 1) := by
      rw [List.drop_eq_getElem_cons (by simp; (first | lia | omega))]; simp
    have hc : ((i : Int) + 1) = ((i + 1 : Nat) : Int) := by push_cast; rfl
    rw [hd] at he
    obtain ⟨e, he1, he2⟩ := he
    rw [hi1, hi2]
    refine wpAny_bind (he1 prog w _ _ ?_)
    cases e with
    | true =>
      simp only [if_true] at he2
      wp_walk
      rw [hc]
      exact ⟨plainId_quiet plain_eq_loop _, codeAny_builtin entry_eq_loop (by
        rw [Around.under_plainId plain_eq_loop _]
        exact ih (i + 1) (by (first | lia | omega)) prog w A R _ ⟨hl, hb, he2, h⟩)⟩
    | false =>
      simp only [Bool.false_eq_true, if_false] at he2 ⊢
      refine wpAny_bind (listItems_at hl rfl (wpAny_bind (listItems_at hb rfl ?_)))
      rw [hi1, hi2]
      refine wpAny_bind (he2 prog w _ _ ?_)
      wp_walk
      exact h

theorem list_ltAt (l b : Addr) (items items2 : Array Value) (n n2 : Nat) (dd dd2 : Option Addr) (sl sl2 : Array (Option Value)) (r : Bool) :
    Meets (Builtin.«list.__lt__» ⟨[.ref l, .ref b], []⟩)
      (fun A R s => s.heap.get? l = some { cls := .type "list", dict := dd, data := .seq items n, slots := sl } ∧ s.heap.get? b = some { cls := .type "list", dict := dd2, data := .seq items2 n2, slots := sl2 } ∧
        LexAt A.in1 s (decide (items.size < items2.size)) (items.toList.zip items2.toList) r ∧ R (.ok (.ret (.bool r))) s) := by
  intro prog w A R s h
  obtain ⟨hp, g, d, tk, os⟩ := s; obtain ⟨hl, hb, he, h⟩ := h
  have f3 := AutoSeq1.sub_list_list
  wp_walk using wpAny_loadPart' hl, wpAny_loadPart' hb
  exact ⟨plainId_quiet plain_eq_loop _, codeAny_builtin entry_eq_loop (by
    rw [Around.under_plainId plain_eq_loop _]
    exact lt_loopAt l b items items2 n n2 dd dd2 sl sl2 r _ 0 rfl prog w A R _ ⟨hl, hb, by simpa using he, h⟩)⟩

theorem LtAt.lists {A : Around} {s : Shared} {l b : Addr} {items items2 : Array Value} {r : Bool} (hl : s.heap.IsList l items) (hb : s.heap.IsList b items2) (hu : A.units < cLine)
    (he : LexAt A.in1 s (decide (items.size < items2.size)) (items.toList.zip items2.toList) r) : LtAt A s (.ref l) (.ref b) r := fun prog w E Q h => by
  obtain ⟨⟨cls, dd, data, sl⟩, ho, hc, n, hd⟩ := id hl
  obtain ⟨⟨cls2, dd2, data2, sl2⟩, ho2, hc2, n2, hd2⟩ := id hb
  simp only at hc hd hc2 hd2
  subst hc hd hc2 hd2
  exact richCompare_meets_room (op := .Lt) ⟨_, ho, rfl⟩ ⟨_, ho2, rfl⟩ PySem.F.slot_list_lt PySem.F.entry_list_lt (PySem.F.args_list_lt_2 _ _) (list_ltAt l b items items2 n n2 dd dd2 sl sl2 r)
    ⟨ho, ho2, he, show Value.bool r ≠ Value.notImplemented ∧ Q (.bool r) s from ⟨(fun x => nomatch x), h⟩⟩ hu
theorem LtAt.tuples {A : Around} {s : Shared} {l b : Addr} {items items2 : Array Value} {r : Bool} (hl : s.heap.IsTuple l items) (hb : s.heap.IsTuple b items2) (hu : A.units < cLine)
    (he : LexAt A.in1 s (decide (items.size < items2.size)) (items.toList.zip items2.toList) r) : LtAt A s (.ref l) (.ref b) r := fun prog w E Q h => by
  obtain ⟨⟨cls, dd, data, sl⟩, ho, hc, n, hd⟩ := id hl
  obtain ⟨⟨cls2, dd2, data2, sl2⟩, ho2, hc2, n2, hd2⟩ := id hb
  simp only at hc hd hc2 hd2
  subst hc hd hc2 hd2
  exact richCompare_meets_room (op := .Lt) ⟨_, ho, rfl⟩ ⟨_, ho2, rfl⟩ PySem.F.slot_tuple_lt PySem.F.entry_tuple_lt (PySem.F.args_tuple_lt_2 _ _) (tuple_ltAt l b items items2 n n2 dd dd2 sl sl2 r)
    ⟨ho, ho2, he, show Value.bool r ≠ Value.notImplemented ∧ Q (.bool r) s from ⟨(fun x => nomatch x), h⟩⟩ hu

mutual
theorem ltAt_reads : ∀ (da db : PyData) (A : Around) (s : Shared) (a b : Value) (as bs : List Addr) (r : Bool), Reads s.heap a da as → Reads s.heap b db bs → da.canLay0 = true → db.canLay0 = true →
    A.units + min da.depth db.depth < cLine → ltD da db = some r → LtAt A s a b r
  | .int i, db, A, s, a, b, as, bs, r, ra, rb, ha, hb, hu, e => by
    cases ra with
    | int _ t =>
      cases rb with
      | int j u =>
        simp only [ltD, Option.some.injEq] at e
        subst e
        exact fun prog w E Q h => lt_int h
      | _ => simp [ltD] at e
  | .tuple xs, db, A, s, a, b, as, bs, r, ra, rb, ha, hb, hu, e => by
    cases ra with
    | tuple h1 h2 h3 h4 =>
      cases rb with
      | tuple k1 k2 k3 k4 =>
        simp only [ltD] at e
        refine LtAt.tuples ⟨_, h1, h2, _, h3⟩ ⟨_, k1, k2, _, k3⟩ (room_here hu) ?_
        refine lexAt_reads _ _ _ _ _ _ _ _ r _ h4 k4 ha hb (room_in hu) e ?_
        rw [← Array.length_toList, ← Array.length_toList, ReadsAll.length _ _ _ h4, ReadsAll.length _ _ _ k4]
      | _ => simp [ltD] at e
  | .list xs, db, A, s, a, b, as, bs, r, ra, rb, ha, hb, hu, e => by
    cases ra with
    | list h1 h2 h3 h4 =>
      cases rb with
      | list k1 k2 k3 k4 =>
        simp only [ltD] at e
        refine LtAt.lists ⟨_, h1, h2, _, h3⟩ ⟨_, k1, k2, _, k3⟩ (room_here hu) ?_
        refine lexAt_reads _ _ _ _ _ _ _ _ r _ h4 k4 ha hb (room_in hu) e ?_
        rw [← Array.length_toList, ← Array.length_toList, ReadsAll.length _ _ _ h4, ReadsAll.length _ _ _ k4]
      | _ => simp [ltD] at e
  | .none, db, A, s, a, b, as, bs, r, ra, rb, ha, hb, hu, e => by cases db <;> simp [ltD] at e
  | .bool _, db, A, s, a, b, as, bs, r, ra, rb, ha, hb, hu, e => by cases db <;> simp [ltD] at e
  | .str _, db, A, s, a, b, as, bs, r, ra, rb, ha, hb, hu, e => by cases db <;> simp [ltD] at e
  | .dict _, db, A, s, a, b, as, bs, r, ra, rb, ha, hb, hu, e => by cases db <;> simp [ltD] at e
theorem lexAt_reads : ∀ (xs ys : List PyData) (A : Around) (s : Shared) (vs ws : List Value) (as bs : List Addr) (r fin : Bool), ReadsAll s.heap vs xs as → ReadsAll s.heap ws ys bs → PyData.canLayAll0 xs = true → PyData.canLayAll0 ys = true →
    A.units + min (PyData.depthAll xs) (PyData.depthAll ys) < cLine → ltAll xs ys = some r → fin = decide (xs.length < ys.length) → LexAt A s fin (vs.zip ws) r
  | [], ys, A, s, vs, ws, as, bs, r, fin, ra, rb, ha, hb, hu, e, hf => by
    cases ra
    subst hf
    cases ys with
    | nil => simp only [ltAll, Option.some.injEq] at e; subst e; rfl
    | cons y ys => simp only [ltAll, Option.some.injEq] at e; subst e; show true = _; simp
  | x :: xs, [], A, s, vs, ws, as, bs, r, fin, ra, rb, ha, hb, hu, e, hf => by
    cases rb
    subst hf
    simp only [ltAll, Option.some.injEq] at e; subst e
    rw [List.zip_nil_right]; show false = _; simp
  | x :: xs, y :: ys, A, s, vs, ws, as, bs, r, fin, ra, rb, ha, hb, hu, e, hf => by
    cases ra with
    | cons ra1 ra2 =>
      cases rb with
      | cons rb1 rb2 =>
        simp only [PyData.canLayAll0, Bool.and_eq_true] at ha hb
        have hu1 : A.units + min x.depth y.depth < cLine := room_head (by simpa [PyData.depthAll] using hu)
        have hu2 : A.units + min (PyData.depthAll xs) (PyData.depthAll ys) < cLine := room_tail (by simpa [PyData.depthAll] using hu)
        refine ⟨PyData.eqv x y, eqAt_reads x y A s _ _ _ _ ra1 rb1 ha.1 hb.1 hu1, ?_⟩
        simp only [ltAll] at e
        cases he : PyData.eqv x y with
        | true =>
          rw [he] at e
          simp only [if_true] at e ⊢
          exact lexAt_reads xs ys A s _ _ _ _ r fin ra2 rb2 ha.2 hb.2 hu2 e (by rw [hf]; simp)
        | false =>
          rw [he] at e
          simp only [Bool.false_eq_true, if_false] at e ⊢
          exact ltAt_reads x y A s _ _ _ _ r ra1 rb1 ha.1 hb.1 hu1 e
end

noncomputable def ltV (a b : V) : M V := fun σ => match toD σ.st 6 a, toD σ.st 6 b with
  | some d, some d' => match ltD d d' with
    | some r => .ok (.bool r) σ
    | none => .stuck
  | _, _ => .stuck
theorem cmp_lt : CmpOk K .Lt ltV := by
  intro F fk σ ρ s a b wa wb rel ra rb
  unfold ltV
  cases e1 : toD σ.st 6 a with
  | none => exact Run.stuck
  | some d =>
    cases e2 : toD σ.st 6 b with
    | none => exact Run.stuck
    | some d' =>
      obtain ⟨as, r1, c1, p1⟩ := toD_reads rel.toGRel 6 a wa d e1 ra
      obtain ⟨bs, r2, c2, p2⟩ := toD_reads rel.toGRel 6 b wb d' e2 rb
      have hu := fk.units
      dsimp only
      cases e3 : ltD d d' with
      | none => exact Run.stuck
      | some r => exact Run.ok (ltAt_reads d d' F.A s wa wb as bs r r1 r2 c1 c2 (by (first | lia | omega)) e3 K.prog K.w _ _ ⟨ρ, rel, Ext.refl .., Rep.bool _⟩)

end Mine


/-! part F11 -/
set_option autoImplicit false
set_option maxRecDepth 100000
set_option linter.unusedVariables false
open PySem PySem.W PyProof.Rows
namespace Mine

variable {K : Glo} {F : Frm}

/-! ### ints -/
noncomputable def addV : V → V → M V
  | .int a, .int b => fun σ => .ok (.int (a + b)) σ
  | .obj l, .obj k => fun σ => match σ.st[l]?, σ.st[k]? with
    | some (.lst xs), some (.lst ys) => newL (xs ++ ys) σ
    | _, _ => .stuck
  | _, _ => fun _ => .stuck
noncomputable def subV : V → V → M V
  | .int a, .int b => fun σ => .ok (.int (a - b)) σ
  | _, _ => fun _ => .stuck
noncomputable def mulV : V → V → M V
  | .int a, .int b => fun σ => if -1000000000 < a ∧ a < 1000000000 then .ok (.int (a * b)) σ else .stuck
  | _, _ => fun _ => .stuck
noncomputable def fdivV : V → V → M V
  | .int a, .int b => fun σ => if 0 < b ∧ b < 1000000000 then .ok (.int (a / b)) σ else .stuck
  | _, _ => fun _ => .stuck
noncomputable def fmodV : V → V → M V
  | .int a, .int b => fun σ => if 0 < b ∧ b < 1000000000 then .ok (.int (a % b)) σ else .stuck
  | _, _ => fun _ => .stuck
noncomputable def shrV : V → V → M V
  | .int a, .int 1 => fun σ => if 0 ≤ a then .ok (.int (a / 2)) σ else .stuck
  | _, _ => fun _ => .stuck

theorem bin_add : BinOk K .Add addV := by
  intro F fk σ ρ s a b wa wb rel ra rb
  cases a with
  | int i =>
    cases b with
    | int j =>
      obtain ⟨t, rfl⟩ := Rep.int_iff.mp ra
      obtain ⟨u, rfl⟩ := Rep.int_iff.mp rb
      exact Run.ok (add_int ⟨ρ, rel.tok _, Ext.refl .., Rep.int ..⟩)
    | _ => exact Run.stuck
  | obj l =>
    cases b with
    | obj k =>
      unfold addV
      dsimp only
      cases hl : σ.st[l]? with
      | none => exact Run.stuck
      | some c =>
        cases c with
        | lst xs =>
          cases hk : σ.st[k]? with
          | none => exact Run.stuck
          | some c' =>
            cases c' with
            | lst ys =>
              dsimp only
              obtain ⟨x, ws, n, rfl, hρ, hL, hr, hn⟩ := rel.list ra hl
              obtain ⟨y, us, n', rfl, hρ', hL', hr', hn'⟩ := rel.list rb hk
              unfold newL
              by_cases hz : (xs ++ ys).length ≤ 1000000
              · rw [if_pos hz]
                obtain ⟨rel', x'⟩ := rel.newList (o := { cls := .type "list", data := .seq (ws ++ us).toArray }) rfl (hr.append hr') hz s.toks
                refine Run.ok (P.add_list hL hL' ?_ (sizeLine_ge (by simp only [List.size_toArray, hr.length, hr'.length]; simpa using hz)))
                rw [List.append_toArray]
                refine ⟨_, rel', x', Rep.obj_iff.mpr ⟨_, ?_, rfl⟩⟩
                rw [← rel.len, List.getElem?_concat_length]
              · rw [if_neg hz]; exact Run.stuck
    | _ => exact Run.stuck
  | _ => exact Run.stuck

theorem bin_sub : BinOk K .Sub subV := by
  intro F fk σ ρ s a b wa wb rel ra rb
  cases a with
  | int i =>
    cases b with
    | int j =>
      obtain ⟨t, rfl⟩ := Rep.int_iff.mp ra
      obtain ⟨u, rfl⟩ := Rep.int_iff.mp rb
      exact Run.ok (sub_int ⟨ρ, rel.tok _, Ext.refl .., Rep.int ..⟩)
    | _ => exact Run.stuck
  | _ => exact Run.stuck
theorem bin_mul : BinOk K .Mult mulV := by
  intro F fk σ ρ s a b wa wb rel ra rb
  cases a with
  | int i =>
    cases b with
    | int j =>
      obtain ⟨t, rfl⟩ := Rep.int_iff.mp ra
      obtain ⟨u, rfl⟩ := Rep.int_iff.mp rb
      unfold mulV
      dsimp only
      by_cases h : -1000000000 < i ∧ i < 1000000000
      · rw [if_pos h]
        exact Run.ok (mul_int ⟨ρ, rel.tok _, Ext.refl .., Rep.int ..⟩ (IntMulOk.of_left (intBits_le_64 (by (first | lia | omega)) (by (first | lia | omega)))))
      · rw [if_neg h]; exact Run.stuck
    | _ => exact Run.stuck
  | _ => exact Run.stuck
theorem fdiv_pos {a b : Int} (h : 0 < b) : a.fdiv b = a / b := Int.fdiv_eq_ediv_of_nonneg _ (Int.le_of_lt h)
theorem fmod_pos {a b : Int} (h : 0 < b) : a.fmod b = a % b := Int.fmod_eq_emod_of_nonneg _ (Int.le_of_lt h)
theorem bin_fdiv : BinOk K .FloorDiv fdivV := by
  intro F fk σ ρ s a b wa wb rel ra rb
  cases a with
  | int i =>
    cases b with
    | int j =>
      obtain ⟨t, rfl⟩ := Rep.int_iff.mp ra
      obtain ⟨u, rfl⟩ := Rep.int_iff.mp rb
      unfold fdivV
      dsimp only
      by_cases h : 0 < j ∧ j < 1000000000
      · rw [if_pos h]
        refine Run.ok (floordiv_int (Int.ne_of_gt h.1) ⟨ρ, rel.tok _, Ext.refl .., ?_⟩ (Or.inl (PyProof.noPylong_small (by (first | lia | omega)))))
        rw [fdiv_pos h.1]; exact Rep.int ..
      · rw [if_neg h]; exact Run.stuck
    | _ => exact Run.stuck
  | _ => exact Run.stuck
theorem bin_fmod : BinOk K .Mod fmodV := by
  intro F fk σ ρ s a b wa wb rel ra rb
  cases a with
  | int i =>
    cases b with
    | int j =>
      obtain ⟨t, rfl⟩ := Rep.int_iff.mp ra
      obtain ⟨u, rfl⟩ := Rep.int_iff.mp rb
      unfold fmodV
      dsimp only
      by_cases h : 0 < j ∧ j < 1000000000
      · rw [if_pos h]
        refine Run.ok (mod_int' (Int.ne_of_gt h.1) ⟨ρ, rel.tok _, Ext.refl .., ?_⟩)
        rw [fmod_pos h.1]; exact Rep.int ..
      · rw [if_neg h]; exact Run.stuck
    | _ => exact Run.stuck
  | _ => exact Run.stuck
theorem bin_shr : BinOk K .RShift shrV := by
  intro F fk σ ρ s a b wa wb rel ra rb
  cases a with
  | int i =>
    cases b with
    | int j =>
      by_cases hj : j = 1
      · subst hj
        obtain ⟨t, rfl⟩ := Rep.int_iff.mp ra
        obtain ⟨u, rfl⟩ := Rep.int_iff.mp rb
        show Run K F _ (Rep K) (if 0 ≤ i then .ok (V.int (i / 2)) σ else .stuck) ρ s
        by_cases h : 0 ≤ i
        · rw [if_pos h]
          exact Run.ok (wpAny_rshift1_int h ⟨ρ, rel.tok _, Ext.refl .., Rep.int ..⟩)
        · rw [if_neg h]; exact Run.stuck
      · have : shrV (.int i) (.int j) = fun _ => .stuck := by
          unfold shrV; split
          · rename_i h1 h2; cases h2; exact absurd rfl hj
          · rfl
        rw [this]; exact Run.stuck
    | _ => exact Run.stuck
  | _ => exact Run.stuck

noncomputable def negV : V → M V
  | .int a => fun σ => .ok (.int (-a)) σ
  | _ => fun _ => .stuck
noncomputable def leV : V → V → M V
  | .int a, .int b => fun σ => .ok (.bool (decide (a ≤ b))) σ
  | _, _ => fun _ => .stuck
noncomputable def gtV : V → V → M V
  | .int a, .int b => fun σ => .ok (.bool (decide (b < a))) σ
  | _, _ => fun _ => .stuck
noncomputable def geV : V → V → M V
  | .int a, .int b => fun σ => .ok (.bool (decide (b ≤ a))) σ
  | _, _ => fun _ => .stuck
theorem cmp_gt : CmpOk K .Gt gtV := by
  intro F fk σ ρ s a b wa wb rel ra rb
  cases a with
  | int i =>
    cases b with
    | int j =>
      obtain ⟨t, rfl⟩ := Rep.int_iff.mp ra
      obtain ⟨u, rfl⟩ := Rep.int_iff.mp rb
      exact Run.ok (gt_int ⟨ρ, rel, Ext.refl .., Rep.bool _⟩)
    | _ => exact Run.stuck
  | _ => exact Run.stuck
/-! ### truth -/
noncomputable def truV : V → M Bool
  | .bool b => fun σ => .ok b σ
  | .obj l => fun σ => match σ.st[l]? with
    | some (.lst vs) => .ok (!vs.isEmpty) σ
    | _ => .stuck
  | _ => fun _ => .stuck
theorem tru_ok : TruOk K truV := by
  intro F fk σ ρ s a wa rel ra
  cases a with
  | bool b => rw [Rep.bool_iff.mp ra]; exact Run.ok (wpAny_truthy_bool ⟨ρ, rel, Ext.refl .., rfl⟩)
  | obj l =>
    unfold truV
    dsimp only
    cases hl : σ.st[l]? with
    | none => exact Run.stuck
    | some c =>
      cases c with
      | lst xs =>
        obtain ⟨x, ws, n, rfl, hρ, hL, hr, hn⟩ := rel.list ra hl
        refine Run.ok (wpAny_truthy_list hL.isList (by rw [List.size_toArray, hr.length]; (first | lia | omega)) ⟨ρ, rel.tok _, Ext.refl .., ?_⟩)
        show (!ws.toArray.isEmpty) = !xs.isEmpty
        have := hr.length
        cases ws <;> cases xs <;> simp_all
  | _ => exact Run.stuck

/-! ### built-ins -/
noncomputable def lenB : List V → M V
  | [.obj l] => fun σ => match σ.st[l]? with
    | some (.lst vs) => .ok (.int vs.length) σ
    | _ => .stuck
  | _ => fun _ => .stuck
theorem built_len : BuiltOk K (.builtin "len") lenB := by
  intro F fk hnh σ ρ s vs ws rel r
  unfold lenB
  split
  · obtain ⟨w, ws', rfl, r1, r2⟩ := RepL.cons_iff.mp r
    rw [RepL.nil_iff.mp r2]
    rename_i l
    cases hl : σ.st[l]? with
    | none => exact Run.stuck
    | some c =>
      cases c with
      | lst xs =>
        obtain ⟨x, ws, n, rfl, hρ, hL, hr, hn⟩ := rel.list r1 hl
        refine Run.ok (PySem.Calls.call_len_list hL.isList (by rw [List.size_toArray, hr.length]; (first | lia | omega)) ⟨ρ, rel.tok _, Ext.refl .., ?_⟩)
        rw [List.size_toArray, hr.length]; exact Rep.int ..
  · exact Run.stuck

noncomputable def absB : List V → M V
  | [.int a] => fun σ => .ok (.int (if a < 0 then -a else a)) σ
  | _ => fun _ => .stuck
theorem built_abs : BuiltOk K (.builtin "abs") absB := by
  intro F fk hnh σ ρ s vs ws rel r
  unfold absB
  split
  · obtain ⟨w, ws', rfl, r1, r2⟩ := RepL.cons_iff.mp r
    rw [RepL.nil_iff.mp r2]
    obtain ⟨t, rfl⟩ := Rep.int_iff.mp r1
    exact Run.ok (call_abs_int fun u tk => ⟨ρ, rel.tok _, Ext.refl .., Rep.int ..⟩)
  · exact Run.stuck

end Mine


/-! part F12 -/
set_option autoImplicit false
set_option maxRecDepth 100000
set_option linter.unusedVariables false
open PySem PySem.W PyProof.Rows
namespace Mine

variable {K : Glo} {F : Frm}

/-! ### slices of lists -/
noncomputable def SimO (K : Glo) (F : Frm) (e : Option Expr) (m : M V) : Prop := ∀ σ ρ s, Rel K F σ ρ s → Run K F (valueOrNone (evalOpt e F.env)) (Rep K) (m σ) ρ s
theorem simO_none : SimO K F none (pure .none) := fun _ _ _ rel => Run.pure rel Rep.none
theorem simO_some {e : Expr} {m : M V} (h : SimE K F e m) : SimO K F (some e) m := h

noncomputable def SlRep (K : Glo) (h : Heap) (ρ : List Addr) (p : V × V × V) (w : Value) : Prop := ∃ ad va vb vc, w = .ref ad ∧ h.IsSliceOf ad va vb vc ∧ Rep K h ρ p.1 va ∧ Rep K h ρ p.2.1 vb ∧ Rep K h ρ p.2.2 vc

theorem run_Slice {lo hi st : Option Expr} {ml mh ms : M V} (p : Pos) (h1 : SimO K F lo ml) (h2 : SimO K F hi mh) (h3 : SimO K F st ms) {σ : S} {ρ : List Addr} {s : Shared} (rel : Rel K F σ ρ s) :
    Run K F (eval (.Slice lo hi st p) F.env) (SlRep K) ((do let a ← ml; let b ← mh; let c ← ms; pure (a, b, c) : M (V × V × V)) σ) ρ s := by
  show Run K F (do
    let l ← valueOrNone (evalOpt lo F.env)
    let u ← holding [l] (valueOrNone (evalOpt hi F.env))
    let s ← holding [l, u] (valueOrNone (evalOpt st F.env))
    newFields "slice" [l, u, s]) _ _ ρ s
  refine Run.bind (h1 σ ρ s rel) fun a σ₁ ρ₁ s₁ wa _ rel₁ x₁ ra => ?_
  refine Run.bind (Run.holding (h2 σ₁ ρ₁ s₁ rel₁)) fun b σ₂ ρ₂ s₂ wb _ rel₂ x₂ rb => ?_
  refine Run.bind (Run.holding (h3 σ₂ ρ₂ s₂ rel₂)) fun c σ₃ ρ₃ s₃ wc _ rel₃ x₃ rc => ?_
  have x' : Ext F.mine ρ₃ ρ₃ s₃.heap (s₃.heap.push { cls := .type "slice", data := .fields #[wa, wb, wc] }) := Ext.push _
  refine Run.ok (wpAny_newObj_type ⟨ρ₃, rel₃.push _ s₃.toks, x', ?_⟩)
  exact ⟨_, wa, wb, wc, rfl, Heap.IsSliceOf.new .., ((ra.mono x₂).mono x₃).mono x', (rb.mono x₃).mono x', rc.mono x'⟩

noncomputable def partO : V → Option (Option Int)
  | .none => some none
  | .int i => some (some i)
  | _ => none
theorem partO_is {h : Heap} {ρ : List Addr} {v : V} {w : Value} {k : Option Int} (r : Rep K h ρ v w) (e : partO v = some k) : IsPart w k := by
  cases v with
  | none => rw [Rep.none_iff.mp r]; cases e; exact .none
  | int i => obtain ⟨t, rfl⟩ := Rep.int_iff.mp r; cases e; exact .int i t
  | _ => cases e

noncomputable def pickV {α : Type} (vs : List α) (lo hi st : Option Int) : List α :=
  (sliceRange (sliceBounds lo hi st vs.length).1 (sliceBounds lo hi st vs.length).2.1 (sliceBounds lo hi st vs.length).2.2).filterMap (vs[·]?)

theorem pick_rep {h : Heap} {ρ : List Addr} {vs : List V} {ws : List Value} (r : RepL K h ρ vs ws) : ∀ (is : List Nat), RepL K h ρ (is.filterMap (vs[·]?)) (is.filterMap (ws[·]?))
  | [] => RepL.nil
  | i :: is => by
    rw [List.filterMap_cons, List.filterMap_cons]
    cases e : vs[i]? with
    | none =>
      have : ws[i]? = none := by
        rw [List.getElem?_eq_none_iff] at e ⊢
        rw [r.length]; exact e
      rw [this]
      exact pick_rep r is
    | some v =>
      obtain ⟨w, hw, q⟩ := r.get? e
      rw [hw]
      exact RepL.cons q (pick_rep r is)

theorem pickV_length {vs : List V} {ws : List Value} {h : Heap} {ρ : List Addr} (r : RepL K h ρ vs ws) (lo hi st : Option Int) : (pickV vs lo hi st).length ≤ vs.length := by
  have h1 := slicePick_size_le ws.toArray lo hi st
  have h2 : (pickV vs lo hi st).length = (slicePick ws.toArray lo hi st).size := by
    unfold slicePick
    rw [List.size_toArray]
    have := (pick_rep (K := K) r (sliceRange (sliceBounds lo hi st vs.length).1 (sliceBounds lo hi st vs.length).2.1 (sliceBounds lo hi st vs.length).2.2)).length
    rw [List.size_toArray, r.length]
    unfold pickV
    simp only [List.getElem?_toArray]
    exact this.symm
  rw [h2]
  refine Nat.le_trans h1 ?_
  rw [List.size_toArray, r.length]; exact Nat.le_refl _

noncomputable def sliceV : V → V × V × V → M V
  | .obj l, (a, b, c) => fun σ => match σ.st[l]?, partO a, partO b, partO c with
    | some (.lst vs), some lo, some hi, some st => if st = some 0 then .stuck else .ok (.obj σ.st.length) { σ with st := σ.st ++ [.lst (pickV vs lo hi st)] }
    | _, _, _, _ => .stuck
  | _, _ => fun _ => .stuck

theorem simE_slice (fk : FOk F) {value : Expr} {lo hi st : Option Expr} {mv ml mh ms : M V} (p pos : Pos) (hv : SimE K F value mv) (h1 : SimO K F lo ml) (h2 : SimO K F hi mh) (h3 : SimO K F st ms) {ops : Value → Value → List Value}
    (hs : ∀ o i, subscripted (.Slice lo hi st p) false o i = PySem.operate (ops o i) (getItem o i) := by intro _ _; rfl) :
    SimE K F (.Subscript value (.Slice lo hi st p) pos) (do let o ← mv; let i ← (do let a ← ml; let b ← mh; let c ← ms; pure (a, b, c)); sliceV o i) := by
  intro σ ρ s rel
  rw [eval_Subscript]
  refine Run.bind (hv σ ρ s rel) fun a σ₁ ρ₁ s₁ wa _ rel₁ x₁ ra => ?_
  refine Run.bind (Run.holding (run_Slice p h1 h2 h3 rel₁)) fun b σ₂ ρ₂ s₂ wb _ rel₂ x₂ rb => ?_
  refine Run.standAt ?_
  show Run K F (subscriptTail value (.Slice lo hi st p) wa wb) (Rep K) (sliceV a b σ₂) ρ₂ s₂
  obtain ⟨b1, b2, b3⟩ := b
  obtain ⟨ad, va, vb, vc, rfl, hsl, r1, r2, r3⟩ := rb
  cases a with
  | obj l =>
    unfold sliceV
    dsimp only
    cases hl : σ₂.st[l]? with
    | none => exact Run.stuck
    | some c =>
      cases c with
      | lst vs =>
        cases e1 : partO b1 with
        | none => exact Run.stuck
        | some o1 =>
          cases e2 : partO b2 with
          | none => exact Run.stuck
          | some o2 =>
            cases e3 : partO b3 with
            | none => exact Run.stuck
            | some o3 =>
              dsimp only
              by_cases h0 : o3 = some 0
              · rw [if_pos h0]; exact Run.stuck
              · rw [if_neg h0]
                obtain ⟨x, ws, n, rfl, hρ, hL, hr, hn⟩ := rel₂.list (ra.mono x₂) hl
                have hlen := pickV_length hr o1 o2 o3
                have e : (slicePick ws.toArray o1 o2 o3) = ((sliceRange (sliceBounds o1 o2 o3 vs.length).1 (sliceBounds o1 o2 o3 vs.length).2.1 (sliceBounds o1 o2 o3 vs.length).2.2).filterMap (ws[·]?)).toArray := by
                  unfold slicePick
                  rw [List.size_toArray, hr.length]
                  simp only [List.getElem?_toArray]
                obtain ⟨rel', x'⟩ := rel₂.newList (o := { cls := .type "list", data := .seq (slicePick ws.toArray o1 o2 o3) }) (vs := pickV vs o1 o2 o3) (by rw [e]) (pick_rep hr _) (Nat.le_trans hlen hn) s₂.toks
                refine Run.ok (tail_any hL.isList.typeIs slot_list_getitem.lookup (wpAny_getItem_list_slice hL.isList hsl (partO_is r1 e1) (partO_is r2 e2) (partO_is r3 e3) h0 ?_ (sizeLine_ge (by rw [List.size_toArray, hr.length]; exact hn))) (hs _ _))
                refine ⟨_, rel', x', Rep.obj_iff.mpr ⟨_, ?_, rfl⟩⟩
                rw [← rel₂.len, List.getElem?_concat_length]
  | _ => exact Run.stuck

/-! ### methods of lists -/
noncomputable def appendG : V → List V → M V
  | .obj l, [v] => fun σ => match σ.st[l]? with
    | some (.lst vs) => if l ≠ 0 ∧ vs.length < 1000000 then .ok .none { σ with st := σ.st.set l (.lst (vs ++ [v])) } else .stuck
    | _ => .stuck
  | _, _ => fun _ => .stuck
theorem meth_append : MethOk K "list.append" appendG := by
  intro F fk hnh σ ρ s o wo vs ws rel ro r
  unfold appendG
  split
  · rename_i l v
    obtain ⟨w, ws', rfl, r1, r2⟩ := RepL.cons_iff.mp r
    rw [RepL.nil_iff.mp r2]
    cases hl : σ.st[l]? with
    | none => exact Run.stuck
    | some c =>
      cases c with
      | lst xs =>
        dsimp only
        obtain ⟨x, us, n, rfl, hρ, hL, hr, hn⟩ := rel.list ro hl
        by_cases hz : l ≠ 0 ∧ xs.length < 1000000
        · rw [if_pos hz]
          refine Run.ok (call_meets PySem.F.slot_list_append ⟨_, hL, rfl⟩ PySem.F.entry_list_append (PySem.F.args_list_append_2 _ _) (list_append x us.toArray n w (sizeLine_ge (by rw [List.size_toArray, hr.length]; exact hn))) ⟨hL, ?_⟩)
          obtain ⟨rel', x'⟩ := rel.upd (s' := { s with heap := s.heap.update x (Obj.mapSeq fun y => y.push w) }) (vs := xs ++ [v]) (ws := us ++ [w]) hρ hz.1 (Heap.SameBut.update ..) (by
            have := hL.update (fun y => y.push w)
            rw [List.push_toArray] at this
            exact this) (hr.append (RepL.cons r1 RepL.nil)) (by have := hz.2; simp; (first | lia | omega)) rfl rfl
          exact ⟨ρ, rel', x', Rep.none⟩
        · rw [if_neg hz]; exact Run.stuck
  · exact Run.stuck

theorem erase_toArray (us : List Value) (j : Nat) : us.toArray.eraseIdxIfInBounds j = (us.eraseIdx j).toArray := by
  by_cases h : j < us.length
  · unfold Array.eraseIdxIfInBounds
    rw [dif_pos (by simpa using h)]
    simp
  · unfold Array.eraseIdxIfInBounds
    rw [dif_neg (by simpa using h), List.eraseIdx_of_length_le (by (first | lia | omega))]
end Mine


/-! part F13 -/
set_option autoImplicit false
set_option maxRecDepth 100000
set_option linter.unusedVariables false
open PySem PySem.W PyProof.Rows
namespace Mine

variable {K : Glo} {F : Frm}

noncomputable def rngLen (a b c : Int) : Nat := (Builtin.Range.rangeSize a b c).toNat
noncomputable def nxtOf : V → S → Nat → Option (Option V)
  | .obj l => fun σ i => match σ.st[l]? with
    | some (.lst vs) => some vs[i]?
    | _ => none
  | .tup vs => fun _ i => some vs[i]?
  | .rng a b c => fun _ i => some (if i < rngLen a b c then some (.int (a + i * c)) else none)
  | _ => fun _ _ => none
noncomputable def okIter : V → M Unit
  | .obj l => chkL (.obj l)
  | .tup _ => fun σ => .ok () σ
  | .rng a b c => fun σ => if Builtin.Range.small a b c = true then .ok () σ else .stuck
  | _ => fun _ => .stuck

theorem rangeSize_nonneg (a b c : Int) : 0 ≤ Builtin.Range.rangeSize a b c := by
  unfold Builtin.Range.rangeSize
  split
  · split
    · have := Int.ediv_nonneg (a := b - a - 1) (b := c) (by (first | lia | omega)) (by (first | lia | omega)); (first | lia | omega)
    · (first | lia | omega)
  · split
    · have := Int.ediv_nonneg (a := a - b - 1) (b := -c) (by (first | lia | omega)) (by (first | lia | omega)); (first | lia | omega)
    · (first | lia | omega)
theorem rngLen_eq (a b c : Int) : ((rngLen a b c : Nat) : Int) = Builtin.Range.rangeSize a b c := Int.toNat_of_nonneg (rangeSize_nonneg a b c)

theorem iter_list {ρ₀ : List Addr} {h₀ : Heap} {I a : Addr} {l : Nat} (fk : FOk F) (hnh : F.nh = true) (hρ : ρ₀[l]? = some a) :
    Iter K F I (fun i o => o.cls = .type "list_iterator" ∧ o.data = .fields #[.ref a, .int i 0]) (nxtOf (.obj l)) ρ₀ h₀ := by
  refine ⟨fun i o h => ⟨_, _, h.2, h.1, by decide, by decide⟩, fun i o s A Q E e h q => wpAny_pyIter_listiter ⟨o, e, h.1, h.2⟩ q, ?_⟩
  intro σ ρ s i o rel x ho hs
  have hρ' := getElem?_prefix x.pre hρ
  unfold nxtOf
  dsimp only
  cases hl : σ.st[l]? with
  | none => trivial
  | some c =>
    cases c with
    | lst vs =>
      dsimp only
      obtain ⟨_, ws, n, hL, hr⟩ := rel.cell l a _ hρ' hl
      cases hv : vs[i]? with
      | none =>
        have hw : ws.toArray[i]? = none := by
          have : ws[i]? = none := by rw [List.getElem?_eq_none_iff] at hv ⊢; rw [hr.length]; exact hv
          simpa using this
        exact wpAny_pyNext_list_end (fk.hd hnh) ⟨o, ho, hs.1, hs.2⟩ hL.isList hw fun h' hx => ⟨rfl, hx, rfl, rfl⟩
      | some v =>
        obtain ⟨w, hw, q⟩ := hr.get? hv
        refine wpAny_pyNext_list_item ⟨o, ho, hs.1, hs.2⟩ hL.isList (by simpa using hw) fun h' hit hsb => ⟨w, rfl, hsb.extBut, rfl, rfl, ?_, ?_⟩
        · obtain ⟨o', e, c, d⟩ := hit; exact ⟨o', e, c, d⟩
        · refine Rep.mono' (List.prefix_refl _) (fun b o' e f => hsb.extBut b o' ?_ e) q
          exact hid_ne_froz ho hs.2 (by rw [hs.1]; decide) e f

theorem iter_range {ρ₀ : List Addr} {h₀ : Heap} {I : Addr} {a b c : Int} (fk : FOk F) (hnh : F.nh = true) :
    Iter K F I (fun i o => i ≤ rngLen a b c ∧ o = { cls := .type "range_iterator", dict := none, data := .fields #[rawInt (a + i * c), rawInt ((rngLen a b c : Int) - i), rawInt c], slots := #[] }) (nxtOf (.rng a b c)) ρ₀ h₀ := by
  refine ⟨fun i o h => by obtain ⟨_, rfl⟩ := h; exact ⟨_, _, rfl, rfl, by decide, by decide⟩, fun i o s A Q E e h q => by obtain ⟨_, rfl⟩ := h; exact wpAny_pyIter_rangeiter e q, ?_⟩
  intro σ ρ s i o rel x ho hs
  obtain ⟨hi, rfl⟩ := hs
  unfold nxtOf
  dsimp only
  by_cases hlt : i < rngLen a b c
  · rw [if_pos hlt]
    dsimp only
    refine wpAny_pyNext_range_item ho (by (first | lia | omega)) fun h' hit hsb => ⟨_, rfl, hsb.extBut, rfl, rfl, ⟨_, hit, by (first | lia | omega), ?_⟩, Rep.int ..⟩
    have e1 : a + ((i + 1 : Nat) : Int) * c = a + (i : Int) * c + c := by rw [Int.natCast_add, Int.add_mul]; simp [Int.add_assoc]
    have e2 : ((rngLen a b c : Nat) : Int) - ((i + 1 : Nat) : Int) = (rngLen a b c : Int) - (i : Int) - 1 := by (first | lia | omega)
    rw [e1, e2]
  · rw [if_neg hlt]
    dsimp only
    exact wpAny_pyNext_range_end (fk.hd hnh) ho (by (first | lia | omega)) fun h' hx => ⟨rfl, hx, rfl, rfl⟩

theorem iter_tuple {ρ₀ : List Addr} {h₀ : Heap} {I a : Addr} {vs : List V} {ws : List Value} (fk : FOk F) (hnh : F.nh = true) (ht : IsTup h₀ a ws.toArray) (hr : RepL K h₀ ρ₀ vs ws) :
    Iter K F I (fun i o => o.cls = .type "tuple_iterator" ∧ o.data = .fields #[.ref a, .int i 0]) (nxtOf (.tup vs)) ρ₀ h₀ := by
  refine ⟨fun i o h => ⟨_, _, h.2, h.1, by decide, by decide⟩, fun i o s A Q E e h q => wpAny_pyIter_tupleiter ⟨o, e, h.1, h.2⟩ q, ?_⟩
  intro σ ρ s i o rel x ho hs
  have ht' : s.heap.IsTuple a ws.toArray := by
    obtain ⟨o', e, c, n, d⟩ := ht
    exact ⟨o', x.froz a o' e (.inl ⟨c, _, n, d⟩), c, n, d⟩
  have hr' := hr.mono x
  unfold nxtOf
  dsimp only
  cases hv : vs[i]? with
  | none =>
    have hw : ws.toArray[i]? = none := by
      have : ws[i]? = none := by rw [List.getElem?_eq_none_iff] at hv ⊢; rw [hr.length]; exact hv
      simpa using this
    exact wpAny_pyNext_tuple_end (fk.hd hnh) ⟨o, ho, hs.1, hs.2⟩ ht' hw fun h' hx => ⟨rfl, hx, rfl, rfl⟩
  | some v =>
    obtain ⟨w, hw, q⟩ := hr'.get? hv
    refine wpAny_pyNext_tuple_item ⟨o, ho, hs.1, hs.2⟩ ht' (by simpa using hw) fun h' hit hsb => ⟨w, rfl, hsb.extBut, rfl, rfl, ?_, ?_⟩
    · obtain ⟨o', e, c, d⟩ := hit; exact ⟨o', e, c, d⟩
    · refine Rep.mono' (List.prefix_refl _) (fun b o' e f => hsb.extBut b o' ?_ e) q
      exact hid_ne_froz ho hs.2 (by rw [hs.1]; decide) e f

theorem fresh_facts {σ : S} {ρ : List Addr} {s : Shared} (rel : Rel K F σ ρ s) : s.heap.get? s.heap.objs.size = none ∧ K.base.get? s.heap.objs.size = none ∧ s.heap.objs.size ∉ F.mine ∧ s.heap.objs.size ∉ ρ := by
  have h0 : s.heap.get? s.heap.objs.size = none := Heap.get?_none_of_le (Nat.le_refl _)
  refine ⟨h0, ?_, ?_, ?_⟩
  · cases e : K.base.get? s.heap.objs.size with
    | none => rfl
    | some o => have := rel.base _ _ e; rw [h0] at this; cases this
  · intro h
    obtain ⟨_, o, e⟩ := rel.mineAbove _ h
    rw [h0] at e; cases e
  · intro h
    obtain ⟨_, o, e, _⟩ := rel.toGRel.alive h
    rw [h0] at e; cases e

theorem simS_for (fk : FOk F) {target iter : Expr} {body : List Stmt} {mi : M V} {t : V → M Unit} {b : M Fl} (pos : Pos) (n : Nat) (hi : SimE K F iter mi) (ht : SimT K F target t) (hb : SimSs K F body b)
    (hs : ∀ x, foldedSetIterable iter F.env x = pure x := by intro _; rfl) (hnh : F.nh = true := by rfl) :
    SimS K F (.For target iter body [] pos) (do let v ← mi; okIter v; forG (nxtOf v) t b n 0) := by
  intro σ ρ s rel
  rw [exec_For]
  refine Run.standAt (Run.bind (hi σ ρ s rel) fun v σ₁ ρ₁ s₁ w _ rel₁ x₁ rv => ?_)
  rw [hs w, pureBind]
  refine Run.standAt ?_
  refine Run.of_wp fun hne => ?_
  obtain ⟨f0, f1, f2, f3⟩ := fresh_facts rel₁
  have hok : okIter v σ₁ = .ok () σ₁ ∧ (okIter v >>= fun _ => forG (nxtOf v) t b n 0) σ₁ = forG (nxtOf v) t b n 0 σ₁ := by
    have : okIter v σ₁ = .ok () σ₁ := by
      cases v with
      | obj l =>
        show chkL (.obj l) σ₁ = _
        cases hc : σ₁.st[l]? with
        | none => exact absurd (by rw [M.bind_def]; simp only [okIter, chkL, hc]) hne
        | some c => cases c with | lst us => exact chkL_ok hc
      | tup vs => rfl
      | rng a b' c =>
        unfold okIter
        by_cases hsm : Builtin.Range.small a b' c = true
        · simp only [hsm, if_true]
        · exact absurd (by rw [M.bind_def]; simp only [okIter, hsm]; rfl) hne
      | _ => exact absurd (by rw [M.bind_def]; rfl) hne
    exact ⟨this, M.bind_ok this⟩
  rw [hok.2] at hne ⊢
  cases v with
  | obj l =>
    obtain ⟨a, hρ, rfl⟩ := Rep.obj_iff.mp rv
    obtain ⟨items, hL⟩ := rel₁.toGRel.alive (List.mem_of_getElem? hρ)
    refine wpAny_bind (wpAny_holding (wpAny_pyIter_list hL ?_))
    exact run_forLoop ht hb (iter_list fk hnh hρ) (rel₁.push _ s₁.toks) (Ext.push _) f0 f1 f2 f3 (Heap.get?_push_size _ rfl) ⟨rfl, rfl⟩ n hne
  | tup vs =>
    obtain ⟨_, a, ws, rfl, htp, hr⟩ := Rep.tup_iff.mp rv
    refine wpAny_bind (wpAny_holding (wpAny_pyIter_tuple htp ?_))
    exact run_forLoop ht hb (iter_tuple fk hnh htp hr) (rel₁.push _ s₁.toks) (Ext.push _) f0 f1 f2 f3 (Heap.get?_push_size _ rfl) ⟨rfl, rfl⟩ n hne
  | rng a b' c =>
    obtain ⟨r, t', u, v', rfl, hR⟩ := Rep.rng_iff.mp rv
    have hsm : Builtin.Range.small a b' c = true := by
      by_cases h : Builtin.Range.small a b' c = true
      · exact h
      · have := hok.1; simp only [okIter, h] at this; cases this
    refine wpAny_bind (wpAny_holding (wpAny_pyIter_range hR hsm ?_))
    refine run_forLoop ht hb (iter_range (a := a) (b := b') (c := c) fk hnh) (rel₁.push _ s₁.toks) (Ext.push _) f0 f1 f2 f3 (Heap.get?_push_size _ rfl) ⟨Nat.zero_le _, ?_⟩ n hne
    rw [rngLen_eq]; simp
  | _ => cases hok.1

end Mine


/-! part F14 -/
set_option autoImplicit false
set_option maxRecDepth 100000
set_option linter.unusedVariables false
open PySem PySem.W PyProof.Rows
namespace Mine

variable {K : Glo} {F : Frm}

/-- what iter(v) makes -/
theorem wp_pyIter {σ : S} {ρ : List Addr} {s : Shared} {v : V} {w : Value} (rel : Rel K F σ ρ s) (rv : Rep K s.heap ρ v w) (hok : okIter v σ = .ok () σ) :
    ∃ (obj : Obj) (Src : Nat → Obj → Prop), Src 0 obj ∧ obj.isFreed = false ∧ (∀ F' : Frm, FOk F' → F'.nh = true → Iter K F' s.heap.objs.size Src (nxtOf v) ρ s.heap) ∧
      ∀ (A : Around) (Q : Value → Shared → Prop) (E : Value → Shared → Prop), Q (.ref s.heap.objs.size) { s with heap := s.heap.push obj } → wpAny (model K.prog K.w) A (pyIter w) Q E s := by
  cases v with
  | obj l =>
    obtain ⟨a, hρ, rfl⟩ := Rep.obj_iff.mp rv
    obtain ⟨items, hL⟩ := rel.toGRel.alive (List.mem_of_getElem? hρ)
    exact ⟨_, _, ⟨rfl, rfl⟩, rfl, fun F' fk hnh => iter_list fk hnh hρ, fun A Q E q => wpAny_pyIter_list hL q⟩
  | tup vs =>
    obtain ⟨_, a, ws, rfl, htp, hr⟩ := Rep.tup_iff.mp rv
    exact ⟨_, _, ⟨rfl, rfl⟩, rfl, fun F' fk hnh => iter_tuple fk hnh htp hr, fun A Q E q => wpAny_pyIter_tuple htp q⟩
  | rng a b c =>
    obtain ⟨r, t', u, v', rfl, hR⟩ := Rep.rng_iff.mp rv
    have hsm : Builtin.Range.small a b c = true := by
      by_cases h : Builtin.Range.small a b c = true
      · exact h
      · simp only [okIter, h] at hok; cases hok
    refine ⟨_, _, ⟨Nat.zero_le _, ?_⟩, rfl, fun F' fk hnh => iter_range (a := a) (b := b) (c := c) fk hnh, fun A Q E q => wpAny_pyIter_range hR hsm q⟩
    rw [rngLen_eq]; simp
  | _ => cases hok

/-- one turn of a comprehension's clause -/
noncomputable def testSem (env : Env) : Option Expr → Sem Bool
  | none => pure true
  | some c => isTrue c env (eval c env)
noncomputable def TurnOk (e : Expr) (d : Nat) (env : Env) (acc : Value) (target : Expr) (test : Option Expr) (inner : Sem Unit) : Prop :=
  ∀ (M : Model) (A : Around) (Q : PySem.Fin → Shared → Prop) (E : Value → Shared → Prop) (s : Shared) (it : Value),
    wpAny M A (pyNext it) (fun r s₁ => match r with
      | none => Q (.done .next) s₁
      | some v => wpAny M A (letOwnedTupleGo target it v) (fun _ s₂ => wpAny M A (assign target env v) (fun _ s₃ => wpAny M A (testSem env test) (fun ok s₄ =>
          if ok = true then wpAny M A inner (fun _ s₅ => Q (.again (.compLoop e d it acc env)) s₅) E s₄ else Q (.again (.compLoop e d it acc env)) s₄) E s₃) E s₂) E s₁) E s →
    wpAny M A (compTurn e d it acc env) Q E s

noncomputable def emitL (elt : Expr) (env : Env) (acc : Value) : Sem Unit := do let _ ← call (.builtin "list.append") [acc, ← eval elt env]

noncomputable def nestL (e : Expr) (d : Nat) (iter : Expr) (env : Env) (acc : Value) : Sem Unit := do
  let x ← eval iter env
  standAt iter.pos
  let x ← foldedSetIterable iter env x
  let it ← holding [x] (pyIter x)
  let _ ← runOwn (.compStart e (d + 1) it acc env) env

theorem wp_ifs {M : Model} {A : Around} {E : Value → Shared → Prop} {s : Shared} {env : Env} {P : Bool → Shared → Prop} (ifs : List Expr) (test : Option Expr) (ht : ifs = test.toList) (h : wpAny M A (testSem env test) P E s) :
    wpAny M A (forIn ifs true fun c __s => if __s = true then do let ok ← isTrue c env (eval c env); pure (ForInStep.yield ok) else pure (ForInStep.yield __s)) P E s := by
  subst ht
  cases test with
  | none => exact h
  | some c =>
    show wpAny M A (forIn [c] true _) P E s
    rw [List.forIn_cons]
    refine wpAny_bind ?_
    rw [if_pos rfl]
    refine wpAny_bind (wpAny_mono h (fun b s' hb => wpAny_pure ?_) fun _ _ e => e)
    dsimp only
    rw [List.forIn_nil]
    exact wpAny_pure hb

theorem turn_end {gens : List Comprehension} {d : Nat} {elt target iter : Expr} {ifs : List Expr} {test : Option Expr} {scope : Scope} {pos : Pos} {env : Env} {acc : Value} (hg : gens[d]? = some ⟨target, iter, ifs, 0⟩) (hn : gens[d + 1]? = none) (ht : ifs = test.toList) :
    TurnOk (.ListComp elt gens scope pos) d env acc target test (emitL elt env acc) := by
  intro M A Q E s it h
  unfold compTurn
  simp only [hg]
  refine wpAny_bind (wpAny_standAt (wpAny_bind ?_))
  refine wpAny_mono h (fun r s₁ h₁ => ?_) fun _ _ e => e
  cases r with
  | none => exact wpAny_pure h₁
  | some v =>
    refine wpAny_bind (wpAny_mono h₁ (fun _ s₂ h₂ => wpAny_bind (wpAny_mono h₂ (fun _ s₃ h₃ => ?_) fun _ _ e => e)) fun _ _ e => e)
    refine wpAny_bind (wp_ifs ifs test ht (wpAny_mono h₃ (fun ok s₄ h₄ => ?_) fun _ _ e => e))
    cases ok with
    | true =>
      simp only [if_true] at h₄ ⊢
      rw [hn]
      exact wpAny_bind (wpAny_mono h₄ (fun _ s₅ h₅ => wpAny_pure h₅) fun _ _ e => e)
    | false =>
      simp only [Bool.false_eq_true, if_false] at h₄ ⊢
      exact wpAny_pure h₄

theorem turn_nest {gens : List Comprehension} {d : Nat} {elt target iter t2 iter2 : Expr} {ifs ifs2 : List Expr} {test : Option Expr} {scope : Scope} {pos : Pos} {env : Env} {acc : Value} (hg : gens[d]? = some ⟨target, iter, ifs, 0⟩) (hn : gens[d + 1]? = some ⟨t2, iter2, ifs2, 0⟩) (ht : ifs = test.toList) :
    TurnOk (.ListComp elt gens scope pos) d env acc target test (nestL (.ListComp elt gens scope pos) d iter2 env acc) := by
  intro M A Q E s it h
  unfold compTurn
  simp only [hg]
  refine wpAny_bind (wpAny_standAt (wpAny_bind ?_))
  refine wpAny_mono h (fun r s₁ h₁ => ?_) fun _ _ e => e
  cases r with
  | none => exact wpAny_pure h₁
  | some v =>
    refine wpAny_bind (wpAny_mono h₁ (fun _ s₂ h₂ => wpAny_bind (wpAny_mono h₂ (fun _ s₃ h₃ => ?_) fun _ _ e => e)) fun _ _ e => e)
    refine wpAny_bind (wp_ifs ifs test ht (wpAny_mono h₃ (fun ok s₄ h₄ => ?_) fun _ _ e => e))
    cases ok with
    | true =>
      simp only [if_true] at h₄ ⊢
      rw [hn]
      have hh : wpAny M A (nestL (.ListComp elt gens scope pos) d iter2 env acc >>= fun _ => again (.compLoop (.ListComp elt gens scope pos) d it acc env)) Q E s₄ :=
        wpAny_bind (wpAny_mono h₄ (fun _ s₅ h₅ => wpAny_pure h₅) fun _ _ e => e)
      unfold nestL at hh
      simp only [bind_assoc, pure_bind] at hh
      exact hh
    | false =>
      simp only [Bool.false_eq_true, if_false] at h₄ ⊢
      exact wpAny_pure h₄

noncomputable def SimA (K : Glo) (F : Frm) (l : Nat) (a : Addr) (t : Sem Unit) (m : M Unit) : Prop := ∀ σ ρ s, Rel K F σ ρ s → ρ[l]? = some a → Run K F t URep (m σ) ρ s

noncomputable def compB (c : M Bool) (inner : M Unit) : M Fl := do
  if (← c) = true then do
    inner
    pure .next
  else pure .next

noncomputable def SimTest (K : Glo) (F : Frm) (test : Option Expr) (c : M Bool) : Prop := ∀ σ ρ s, Rel K F σ ρ s → Run K F (testSem F.env test) BRep (c σ) ρ s
theorem simTest_none : SimTest K F none (pure true) := fun _ _ _ rel => Run.pure rel rfl
theorem simTest_some {e : Expr} {c : M Bool} (h : SimB K F e c) : SimTest K F (some e) c := h

theorem codeAny_compLoopT {prog : Program} {w : World} {A : Around} {s : Shared} {R : Result → Shared → Prop} {elt : Expr} {gens : List Comprehension} {scope : Scope} {pos : Pos} {d : Nat} {it acc : Value} {env : Env} (I : Nat → Shared → Prop)
    (turn : ∀ n s, I n s → wpAny (model prog w) A (compTurn (.ListComp elt gens scope pos) d it acc env) (fun fin s' => match fin with
      | .done f => R (.ok f) s'
      | .again c' => c' = .compLoop (.ListComp elt gens scope pos) d it acc env ∧ ∃ m, m < n ∧ I m s') (notedBy (model prog w) A env fun e s' => R (.error e) s') s)
    (n : Nat) (h : I n s) : codeAny (model prog w) A (.compLoop (.ListComp elt gens scope pos) d it acc env) R s := by
  refine codeAny_loop rfl I (fun n s hI => ?_) n h
  show wpAny _ A ((compTurn (.ListComp elt gens scope pos) d it acc env).onRaise (fun x => do noteFrame x env; theTreesLotGoes x)) _ _ s
  exact wpAny_noted (turn n s hI)

/-! ### hidden objects -/
noncomputable def Hid (h : Heap) (b : Addr) : Prop := ∃ o vs, h.get? b = some o ∧ o.data = .fields vs ∧ o.cls ≠ .type "range"
section
variable {σ : S} {ρ ρ₀ ρ' : List Addr} {s s' : Shared} {mine fp : List Addr} {h h₀ h' : Heap}

theorem GRel.hid {st : Store} (rel : GRel K st ρ s) (hb : ∀ a ∈ fp, K.base.get? a = none) (ho : ∀ a ∈ fp, Hid s.heap a) (hx : ∀ b o, b ∉ fp → s.heap.get? b = some o → s'.heap.get? b = some o)
    (hg : s'.gens = s.gens) (hos : s'.os = s.os) : GRel K st ρ s' where
  gens := hg.trans rel.gens
  os := hos.trans rel.os
  base := fun b o' e => hx b o' (fun hm => by rw [hb b hm] at e; cases e) (rel.base b o' e)
  len := rel.len
  cell := fun l b c h1 h2 => by
    refine (rel.cell l b c h1 h2).mono (List.prefix_refl _) (fun d o' e f => hx d o' (fun hm => ?_) e) fun it n x => hx b _ (fun hm => ?_) x
    · obtain ⟨o, vs, g, d1, d2⟩ := ho d hm; exact hid_ne_froz g d1 d2 e f rfl
    · obtain ⟨o, vs, g, d1, d2⟩ := ho b hm; exact hid_ne_list g d1 x.isList rfl
  nodup := rel.nodup
  above := rel.above
theorem Rel.hid (rel : Rel K F σ ρ s) (hb : ∀ a ∈ fp, K.base.get? a = none) (hm : ∀ a ∈ fp, a ∉ F.mine) (ho : ∀ a ∈ fp, Hid s.heap a) (hx : ∀ b o, b ∉ fp → s.heap.get? b = some o → s'.heap.get? b = some o)
    (hg : s'.gens = s.gens) (hos : s'.os = s.os) : Rel K F σ ρ s' where
  toGRel := rel.toGRel.hid hb ho hx hg hos
  vars := fun y u e => by
    obtain ⟨w, h1, h2⟩ := rel.vars y u e
    refine ⟨w, h1.mono (fun m n => ?_) (fun c u _ n => ?_), Rep.mono' (List.prefix_refl _) (fun d o' e f => hx d o' (fun q => ?_) e) h2⟩
    · have hne : F.env.locals ∉ fp := fun q => by obtain ⟨o, vs, g, d1, d2⟩ := ho _ q; exact hid_ne_ns g d1 n rfl
      obtain ⟨o', es, ep, e', r⟩ := n
      exact ⟨o', es, ep, hx _ _ hne e', r⟩
    · have hne : c ∉ fp := fun q => by obtain ⟨o, vs, g, d1, d2⟩ := ho _ q; exact hid_ne_cell g d1 n rfl
      obtain ⟨o', e', r⟩ := n
      exact ⟨o', hx _ _ hne e', r⟩
    · obtain ⟨o, vs, g, d1, d2⟩ := ho d q; exact hid_ne_froz g d1 d2 e f rfl
  loc := by
    obtain ⟨m, n⟩ := rel.loc
    have hne : F.env.locals ∉ fp := fun q => by obtain ⟨o, vs, g, d1, d2⟩ := ho _ q; exact hid_ne_ns g d1 n rfl
    obtain ⟨o', es, ep, e', r⟩ := n
    exact ⟨m, o', es, ep, hx _ _ hne e', r⟩
  cels := fun y c e => by
    obtain ⟨v, n⟩ := rel.cels y c e
    have hne : c ∉ fp := fun q => by obtain ⟨o, vs, g, d1, d2⟩ := ho _ q; exact hid_ne_cell g d1 n rfl
    obtain ⟨o', e', r⟩ := n
    exact ⟨v, o', hx _ _ hne e', r⟩
  mineAbove := fun b hb' => by
    obtain ⟨h1, o', h2⟩ := rel.mineAbove b hb'
    exact ⟨h1, o', hx b o' (fun q => hm b q hb') h2⟩
  mineApart := rel.mineApart
  mineLoc := rel.mineLoc
  frs := rel.frs.next fun b o es n g d => ⟨o, es, n, hx b o (fun q => by
    obtain ⟨o', vs, g', d', _⟩ := ho b q
    rw [g] at g'; cases g'; rw [d] at d'; cases d') g, d⟩
/-- all stays but hidden objects -/
theorem Ext.hidden (ho : ∀ a ∈ fp, Hid h a) (hal : ∀ a ∈ fp, ∃ o, h'.get? a = some o) (hx : ∀ b o, b ∉ fp → h.get? b = some o → h'.get? b = some o) : Ext (fp ++ mine) ρ ρ h h' where
  pre := List.prefix_refl _
  alive := fun b o e => by
    by_cases q : b ∈ fp
    · exact hal b q
    · exact ⟨o, hx b o q e⟩
  new := fun _ ha => .inl ha
  keep := fun b o e _ n2 => ⟨o, hx b o (fun q => n2 (List.mem_append_left _ q)) e, .refl _⟩
  froz := fun b o e f => hx b o (fun q => by obtain ⟨o', vs, g, d1, d2⟩ := ho b q; exact hid_ne_froz g d1 d2 e f rfl) e
theorem Ext.hide (x : Ext mine ρ₀ ρ h₀ h) (y : Ext (fp ++ mine) ρ ρ' h h') (h0 : ∀ a ∈ fp, h₀.get? a = none) : Ext mine ρ₀ ρ' h₀ h' where
  pre := x.pre.trans y.pre
  alive := fun b o e => by obtain ⟨o1, e1⟩ := x.alive b o e; exact y.alive b o1 e1
  new := fun a ha => by
    rcases y.new a ha with h1 | h1
    · exact x.new a h1
    · refine .inr ?_
      cases e : h₀.get? a with
      | none => rfl
      | some o => obtain ⟨o1, e1⟩ := x.alive a o e; rw [h1] at e1; cases e1
  keep := fun b o e n1 n2 => by
    obtain ⟨o1, e1, l1⟩ := x.keep b o e n1 n2
    have hn : b ∉ ρ := fun hb => by
      rcases x.new b hb with h1 | h1
      · exact n1 h1
      · rw [e] at h1; cases h1
    obtain ⟨o2, e2, l2⟩ := y.keep b _ e1 hn (fun q => by
      rcases List.mem_append.mp q with q | q
      · rw [h0 b q] at e; cases e
      · exact n2 q)
    exact ⟨o2, e2, l1.trans l2⟩
  froz := fun b o e f => y.froz b o (x.froz b o e f) f
end

theorem Ext.butHid {ρ ρ₀ mine fp : List Addr} {h h₀ h' : Heap} (x : Ext mine ρ₀ ρ h₀ h) (h0 : ∀ a ∈ fp, h₀.get? a = none) (hx : ∀ b o, b ∉ fp → h.get? b = some o → h'.get? b = some o) : Ext mine ρ₀ ρ h₀ h' where
  pre := x.pre
  alive := fun b o' e => by
    obtain ⟨o1, e1⟩ := x.alive b o' e
    exact ⟨o1, hx b o1 (fun q => by rw [h0 b q] at e; cases e) e1⟩
  new := x.new
  keep := fun b o' e n1 n2 => by
    obtain ⟨o1, e1, l1⟩ := x.keep b o' e n1 n2
    exact ⟨o1, hx b o1 (fun q => by rw [h0 b q] at e; cases e) e1, l1⟩
  froz := fun b o' e f => hx b o' (fun q => by rw [h0 b q] at e; cases e) (x.froz b o' e f)

/-! ### general iterators -/
/-- nx i is the i-th step; fp are the iterator's own objects -/
structure GIter (K : Glo) (F : Frm) (target : Expr) (I : Addr) (fp : List Addr) (St : Nat → Heap → Prop) (nx : Nat → M (Option V)) (ρ₁ : List Addr) (h₁ : Heap) : Prop where
  hid : ∀ i h, St i h → ∀ b ∈ fp, Hid h b
  frame : ∀ i h h', St i h → (∀ b ∈ fp, ∀ o, h.get? b = some o → h'.get? b = some o) → St i h'
  self : ∀ i (s : Shared) (A : Around) (Q : Value → Shared → Prop) (E : Value → Shared → Prop), St i s.heap → Q (.ref I) s → wpAny (model K.prog K.w) A (pyIter (.ref I)) Q E s
  step : ∀ σ ρ s i, Rel K F σ ρ s → Ext F.mine ρ₁ ρ h₁ s.heap → (∀ b ∈ fp, b ∉ ρ) → (∀ b ∈ fp, b ∉ F.mine) → (∀ b ∈ fp, K.base.get? b = none) → St i s.heap →
    match nx i σ with
    | .stuck => True
    | .exc _ _ => True
    | .ok none σ' => wpAny (model K.prog K.w) F.A (pyNext (.ref I)) (fun r s' => r = none ∧ ∃ ρ', Rel K F σ' ρ' s' ∧ ρ <+: ρ' ∧ ∀ ρ₀ h₀, Ext F.mine ρ₀ ρ h₀ s.heap → (∀ b ∈ fp, h₀.get? b = none) → Ext F.mine ρ₀ ρ' h₀ s'.heap) (fun _ _ => False) s
    | .ok (some v) σ' => wpAny (model K.prog K.w) F.A (pyNext (.ref I)) (fun r s' => ∃ w, r = some w ∧ ∀ (Q : Unit → Shared → Prop) (E : Value → Shared → Prop),
        (∀ s'' ρ', Rel K F σ' ρ' s'' → Ext (fp ++ F.mine) ρ ρ' s.heap s''.heap → St (i + 1) s''.heap → Rep K s''.heap ρ' v w → Q () s'') → wpAny (model K.prog K.w) F.A (letOwnedTupleGo target (.ref I) w) Q E s') (fun _ _ => False) s

noncomputable def forN (nx : Nat → M (Option V)) (t : V → M Unit) (b : M Fl) : Nat → Nat → M Fl
  | 0, _ => stuck
  | n + 1, i => fun σ => match nx i σ with
    | .ok none σ' => .ok .next σ'
    | .ok (some v) σ' => (do
      t v
      match ← b with
      | .next => forN nx t b n (i + 1)
      | .cont => forN nx t b n (i + 1)
      | .brk => pure .next
      | .ret v => pure (.ret v)) σ'
    | _ => .stuck
theorem forN_succ (nx : Nat → M (Option V)) (t : V → M Unit) (b : M Fl) (n i : Nat) (σ : S) : forN nx t b (n + 1) i σ = (match nx i σ with
    | .stuck => .stuck
    | .exc _ _ => .stuck
    | .ok none σ' => .ok .next σ'
    | .ok (some v) σ' => match t v σ' with
      | .stuck => .stuck
      | .exc e σ₂ => .exc e σ₂
      | .ok _ σ₂ => match b σ₂ with
        | .ok .next σ₃ => forN nx t b n (i + 1) σ₃
        | .ok .cont σ₃ => forN nx t b n (i + 1) σ₃
        | .ok .brk σ₃ => .ok .next σ₃
        | .ok (.ret v) σ₃ => .ok (.ret v) σ₃
        | .exc e σ₃ => .exc e σ₃
        | .stuck => .stuck) := by
  rw [forN]
  dsimp only
  cases nx i σ with
  | stuck => rfl
  | exc e y => rfl
  | ok x σ' =>
    cases x with
    | none => rfl
    | some v =>
      dsimp only
      rw [M.bind_def]
      cases t v σ' with
      | stuck => rfl
      | exc e y => rfl
      | ok u y =>
        dsimp only
        rw [M.bind_def]
        cases b y with
        | stuck => rfl
        | exc e z => rfl
        | ok f z => cases f <;> rfl
theorem forNC_succ (nx : Nat → M (Option V)) (t : V → M Unit) (c : M Bool) (mi : M Unit) (n i : Nat) (σ : S) : forN nx t (compB c mi) (n + 1) i σ = (match nx i σ with
    | .stuck => .stuck
    | .exc _ _ => .stuck
    | .ok none σ' => .ok .next σ'
    | .ok (some v) σ' => match t v σ' with
      | .stuck => .stuck
      | .exc e σ₂ => .exc e σ₂
      | .ok _ σ₂ => match c σ₂ with
        | .stuck => .stuck
        | .exc e σ₃ => .exc e σ₃
        | .ok false σ₃ => forN nx t (compB c mi) n (i + 1) σ₃
        | .ok true σ₃ => match mi σ₃ with
          | .stuck => .stuck
          | .exc e σ₄ => .exc e σ₄
          | .ok _ σ₄ => forN nx t (compB c mi) n (i + 1) σ₄) := by
  rw [forN_succ]
  cases nx i σ with
  | stuck => rfl
  | exc e y => rfl
  | ok x σ' =>
    cases x with
    | none => rfl
    | some v =>
      dsimp only
      cases t v σ' with
      | stuck => rfl
      | exc e y => rfl
      | ok u y =>
        dsimp only
        unfold compB
        rw [M.bind_def]
        cases c y with
        | stuck => rfl
        | exc e z => rfl
        | ok b z =>
          cases b with
          | false => rfl
          | true =>
            dsimp only
            rw [if_pos rfl, M.bind_def]
            cases mi z <;> rfl

theorem run_compLoopG {elt target : Expr} {gens : List Comprehension} {scope : Scope} {pos : Pos} {d l : Nat} {a : Addr} {test : Option Expr} {inner : Sem Unit} {t : V → M Unit} {c : M Bool} {mi : M Unit}
    (hto : TurnOk (.ListComp elt gens scope pos) d F.env (.ref a) target test inner)
    (ht : SimT K F target t) (hc : SimTest K F test c) (hin : SimA K F l a inner mi) {I : Addr} {fp : List Addr} {St : Nat → Heap → Prop} {nx : Nat → M (Option V)}
    {σ : S} {ρ ρ₀ : List Addr} {s : Shared} {h₀ : Heap} (hI : GIter K F target I fp St nx ρ₀ h₀) (rel : Rel K F σ ρ s) (hla : ρ[l]? = some a) (x₀ : Ext F.mine ρ₀ ρ h₀ s.heap) (h0 : ∀ b ∈ fp, h₀.get? b = none) (hbase : ∀ b ∈ fp, K.base.get? b = none)
    (hmi : ∀ b ∈ fp, b ∉ F.mine) (hρ : ∀ b ∈ fp, b ∉ ρ) (hs : St 0 s.heap) (n : Nat) (hne : forN nx t (compB c mi) n 0 σ ≠ .stuck) :
    codeAny (model K.prog K.w) F.A (.compLoop (.ListComp elt gens scope pos) d (.ref I) (.ref a) F.env) (fun r s' => match r with
      | .ok _ => ∃ f σ' ρ', forN nx t (compB c mi) n 0 σ = .ok f σ' ∧ Rel K F σ' ρ' s' ∧ Ext F.mine ρ₀ ρ' h₀ s'.heap ∧ ρ'[l]? = some a
      | .error v => EO K F (forN nx t (compB c mi) n 0 σ) ρ₀ h₀ v s') s := by
  refine codeAny_compLoopT (fun k s' => ∃ σ₁ ρ' i, Rel K F σ₁ ρ' s' ∧ forN nx t (compB c mi) k i σ₁ = forN nx t (compB c mi) n 0 σ ∧ Ext F.mine ρ₀ ρ' h₀ s'.heap ∧ (∀ b ∈ fp, b ∉ ρ') ∧ ρ'[l]? = some a ∧ St i s'.heap) ?_ n
    ⟨σ, ρ, 0, rel, rfl, x₀, hρ, hla, hs⟩
  generalize forN nx t (compB c mi) n 0 σ = out at hne ⊢
  rintro k s₁ ⟨σ₁, ρ', i, rel₁, e₁, x₁, hρ₁, hla₁, hs₁⟩
  have note : ∀ {v : Value} {s' : Shared}, EO K F out ρ₀ h₀ v s' → notedBy (model K.prog K.w) F.A F.env (fun e s' => EO K F out ρ₀ h₀ e s') v s' := fun hx => hx.noted
  cases k with
  | zero => exact absurd e₁.symm hne
  | succ k =>
    rw [forNC_succ] at e₁
    have hstep := hI.step σ₁ ρ' s₁ i rel₁ x₁ hρ₁ hmi hbase hs₁
    refine hto _ _ _ _ _ _ ?_
    cases en : nx i σ₁ with
    | stuck => rw [en] at e₁; exact absurd e₁.symm hne
    | exc x y => rw [en] at e₁; exact absurd e₁.symm hne
    | ok ov σn =>
      rw [en] at hstep e₁
      cases ov with
      | none =>
        refine wpAny_mono hstep (fun r s₂ h => ?_) fun _ _ h => h.elim
        obtain ⟨rfl, ρ₂, r2, y1, y2⟩ := h
        exact ⟨.next, σn, ρ₂, e₁.symm, r2, y2 _ _ x₁ h0, getElem?_prefix y1 hla₁⟩
      | some v =>
        refine wpAny_mono hstep (fun r s₂' h => ?_) fun _ _ h => h.elim
        obtain ⟨w, rfl, h⟩ := h
        refine h _ _ fun s₂ ρ₂ rel₂ y₂ hs₂ rv => ?_
        have x₂ := x₁.hide y₂ h0
        have hρ₂ : ∀ b ∈ fp, b ∉ ρ₂ := fun b hb hin => by
          rcases y₂.new b hin with q | q
          · exact hρ₁ b hb q
          · obtain ⟨o, _, g, _⟩ := hI.hid i _ hs₁ b hb
            rw [g] at q; cases q
        have hla₂ := getElem?_prefix y₂.pre hla₁
        have hta := ht σn ρ₂ s₂ v w rel₂ rv
        have hold : ∀ {ρ₂ ρ₃ : List Addr} {g g' : Heap} {i : Nat}, Ext F.mine ρ₂ ρ₃ g g' → (∀ b ∈ fp, b ∉ ρ₂) → St i g → St i g' ∧ (∀ b ∈ fp, b ∉ ρ₃) := by
          intro ρ₂ ρ₃ g g' i x hn e
          refine ⟨hI.frame i g g' e fun b hb o ho => ?_, fun b hb hin => ?_⟩
          · obtain ⟨o1, vs, g1, d1, _⟩ := hI.hid i g e b hb
            rw [g1] at ho; cases ho
            obtain ⟨o', e', l⟩ := x.keep b o g1 (hn b hb) (hmi b hb)
            rw [e', l.same (fun es n q => by rw [d1] at q; cases q)]
          · rcases x.new b hin with q | q
            · exact hn b hb q
            · obtain ⟨o1, vs, g1, d1, _⟩ := hI.hid i g e b hb
              rw [g1] at q; cases q
        dsimp only at e₁
        cases et : t v σn with
        | stuck => rw [et] at e₁; exact absurd e₁.symm hne
        | exc e σ₃ =>
          rw [et] at hta e₁
          refine wpAny_mono (hta.wp (by simp)) (fun a s' hq => by obtain ⟨_, _, _, e, _⟩ := hq; cases e) fun v s' he => ?_
          obtain ⟨e', σ', ρ'', e2, r1, r2, r3⟩ := he
          cases e2
          exact note ⟨e, σ₃, ρ'', e₁.symm, r1, x₂.trans r2, r3.up x₂⟩
        | ok u σ₃ =>
          rw [et] at hta e₁
          refine wpAny_mono (hta.wp (by simp)) (fun _ s₃ hq => ?_) fun v s' he => by obtain ⟨_, _, _, e, _⟩ := he; cases e
          obtain ⟨_, σ', ρ₃, e2, rel₃, x₃, _⟩ := hq
          cases e2
          dsimp only at e₁
          have x03 := x₂.trans x₃
          obtain ⟨ho₃, hρ₃⟩ := hold x₃ hρ₂ hs₂
          have hla₃ := getElem?_prefix x₃.pre hla₂
          have hcc := hc σ₃ ρ₃ s₃ rel₃
          cases ec : c σ₃ with
          | stuck => rw [ec] at e₁; exact absurd e₁.symm hne
          | exc e σ₄ =>
            rw [ec] at hcc e₁
            refine wpAny_mono (hcc.wp (by simp)) (fun a s' hq => by obtain ⟨_, _, _, e, _⟩ := hq; cases e) fun v s' he => ?_
            obtain ⟨e', σ', ρ'', e2, r1, r2, r3⟩ := he
            cases e2
            exact note ⟨e, σ₄, ρ'', e₁.symm, r1, x03.trans r2, r3.up x03⟩
          | ok b σ₄ =>
            rw [ec] at hcc e₁
            refine wpAny_mono (hcc.wp (by simp)) (fun wb s₄ hq => ?_) fun v s' he => by obtain ⟨_, _, _, e, _⟩ := he; cases e
            obtain ⟨b', σ', ρ₄, e3, rel₄, x₄, rb⟩ := hq
            cases e3
            have : wb = b := rb
            subst this
            have x04 := x03.trans x₄
            obtain ⟨ho₄, hρ₄⟩ := hold x₄ hρ₃ ho₃
            have hla₄ := getElem?_prefix x₄.pre hla₃
            cases wb with
            | false =>
              dsimp only at e₁
              simp only [Bool.false_eq_true, if_false]
              exact ⟨trivial, k, Nat.lt_succ_self _, σ₄, ρ₄, i + 1, rel₄, e₁, x04, hρ₄, hla₄, ho₄⟩
            | true =>
              dsimp only at e₁
              simp only [if_true]
              have hii := hin σ₄ ρ₄ s₄ rel₄ hla₄
              cases ei : mi σ₄ with
              | stuck => rw [ei] at e₁; exact absurd e₁.symm hne
              | exc e σ₅ =>
                rw [ei] at hii e₁
                refine wpAny_mono (hii.wp (by simp)) (fun a s' hq => by obtain ⟨_, _, _, e, _⟩ := hq; cases e) fun v s' he => ?_
                obtain ⟨e', σ', ρ'', e2, r1, r2, r3⟩ := he
                cases e2
                exact note ⟨e, σ₅, ρ'', e₁.symm, r1, x04.trans r2, r3.up x04⟩
              | ok u σ₅ =>
                rw [ei] at hii e₁
                refine wpAny_mono (hii.wp (by simp)) (fun _ s₅ hq => ?_) fun v s' he => by obtain ⟨_, _, _, e, _⟩ := he; cases e
                obtain ⟨_, σ', ρ₅, e4, rel₅, x₅, _⟩ := hq
                cases e4
                have x05 := x04.trans x₅
                obtain ⟨ho₅, hρ₅⟩ := hold x₅ hρ₄ ho₄
                exact ⟨trivial, k, Nat.lt_succ_self _, σ₅, ρ₅, i + 1, rel₅, e₁, x05, hρ₅, getElem?_prefix x₅.pre hla₄, ho₅⟩

/-- a comprehension's clause goes through its iterator -/
noncomputable def nxM (nxt : S → Nat → Option (Option V)) (i : Nat) : M (Option V) := fun σ => match nxt σ i with
  | none => .stuck
  | some ov => .ok ov σ
theorem forN_nxM (nxt : S → Nat → Option (Option V)) (t : V → M Unit) (b : M Fl) : ∀ (n i : Nat) (σ : S), forN (nxM nxt) t b n i σ = forG nxt t b n i σ
  | 0, _, _ => rfl
  | n + 1, i, σ => by
    rw [forN_succ, forG_succ]
    unfold nxM
    cases nxt σ i with
    | none => rfl
    | some ov =>
      cases ov with
      | none => rfl
      | some v =>
        dsimp only
        cases t v σ with
        | stuck => rfl
        | exc e y => rfl
        | ok u y =>
          dsimp only
          cases b y with
          | stuck => rfl
          | exc e z => rfl
          | ok f z => cases f <;> first | rfl | exact forN_nxM nxt t b n (i + 1) z
theorem Iter.g {target : Expr} {I : Addr} {Src : Nat → Obj → Prop} {nxt : S → Nat → Option (Option V)} {ρ₀ : List Addr} {h₀ : Heap} (hI : Iter K F I Src nxt ρ₀ h₀) :
    GIter K F target I [I] (fun i h => ∃ o, h.get? I = some o ∧ Src i o) (nxM nxt) ρ₀ h₀ where
  hid := by
    rintro i h ⟨o, g, hs⟩ b hb
    obtain ⟨vs, T, d, c, _, r⟩ := hI.1 i o hs
    rw [List.mem_singleton.mp hb]
    exact ⟨o, vs, g, d, by rw [c]; exact fun e => r (by cases e; rfl)⟩
  frame := by
    rintro i h h' ⟨o, g, hs⟩ hk
    exact ⟨o, hk I (by simp) o g, hs⟩
  self := by
    rintro i s A Q E ⟨o, g, hs⟩ q
    exact hI.2.1 i o s A Q E g hs q
  step := by
    rintro σ ρ s i rel x hρ hm hb ⟨o, g, hs⟩
    have hstep := hI.2.2 σ ρ s i o rel x g hs
    obtain ⟨vs, T, hd, hc, hT, hr⟩ := hI.1 i o hs
    have hh : ∀ a ∈ [I], Hid s.heap a := by
      intro a ha
      rw [List.mem_singleton.mp ha]
      exact ⟨o, vs, g, hd, by rw [hc]; exact fun e => hr (by cases e; rfl)⟩
    unfold nxM
    cases en : nxt σ i with
    | none => trivial
    | some ov =>
      rw [en] at hstep
      cases ov with
      | none =>
        refine wpAny_mono hstep (fun r s₂ h => ?_) fun _ _ h => h.elim
        obtain ⟨rfl, hx, hg, hos⟩ := h
        have hx' : ∀ b o, b ∉ [I] → s.heap.get? b = some o → s₂.heap.get? b = some o := fun b o hb e => hx b o (by simpa using hb) e
        exact ⟨rfl, ρ, rel.hid hb hm hh hx' hg hos, List.prefix_refl _, fun ρ₀ h₀ x h0 => x.butHid h0 hx'⟩
      | some v =>
        refine wpAny_mono hstep (fun r s₂ h => ?_) fun _ _ h => h.elim
        obtain ⟨w, rfl, hx, hg, hos, ⟨o₂, ho₂, hs₂⟩, rv⟩ := h
        refine ⟨w, rfl, fun Q E q => ?_⟩
        obtain ⟨vs₂, T₂, hd₂, hc₂, hT₂, hr₂⟩ := hI.1 (i + 1) o₂ hs₂
        have hx' : ∀ b o, b ∉ [I] → s.heap.get? b = some o → s₂.heap.get? b = some o := fun b o hb e => hx b o (by simpa using hb) e
        refine owned_skip ho₂ hc₂ hT₂ (q s₂ ρ (rel.hid hb hm hh hx' hg hos) (Ext.hidden hh (fun a ha => by rw [List.mem_singleton.mp ha]; exact ⟨_, ho₂⟩) hx') ⟨o₂, ho₂, hs₂⟩ rv)
theorem run_compLoop {elt target : Expr} {gens : List Comprehension} {scope : Scope} {pos : Pos} {d l : Nat} {a : Addr} {test : Option Expr} {inner : Sem Unit} {t : V → M Unit} {c : M Bool} {mi : M Unit}
    (hto : TurnOk (.ListComp elt gens scope pos) d F.env (.ref a) target test inner)
    (ht : SimT K F target t) (hc : SimTest K F test c) (hin : SimA K F l a inner mi) {I : Addr} {Src : Nat → Obj → Prop} {nxt : S → Nat → Option (Option V)}
    {σ : S} {ρ ρ₀ : List Addr} {s : Shared} {h₀ : Heap} {o : Obj} (hI : Iter K F I Src nxt ρ₀ h₀) (rel : Rel K F σ ρ s) (hla : ρ[l]? = some a) (x₀ : Ext F.mine ρ₀ ρ h₀ s.heap) (h0 : h₀.get? I = none) (hbase : K.base.get? I = none)
    (hmi : I ∉ F.mine) (hρ : I ∉ ρ) (ho : s.heap.get? I = some o) (hs : Src 0 o) (n : Nat) (hne : forG nxt t (compB c mi) n 0 σ ≠ .stuck) :
    codeAny (model K.prog K.w) F.A (.compLoop (.ListComp elt gens scope pos) d (.ref I) (.ref a) F.env) (fun r s' => match r with
      | .ok _ => ∃ f σ' ρ', forG nxt t (compB c mi) n 0 σ = .ok f σ' ∧ Rel K F σ' ρ' s' ∧ Ext F.mine ρ₀ ρ' h₀ s'.heap ∧ ρ'[l]? = some a
      | .error v => EO K F (forG nxt t (compB c mi) n 0 σ) ρ₀ h₀ v s') s := by
  have key : ∀ {P : Addr → Prop}, P I → ∀ b ∈ [I], P b := fun h b hb => by rw [List.mem_singleton.mp hb]; exact h
  rw [← forN_nxM] at hne ⊢
  exact run_compLoopG hto ht hc hin hI.g rel hla x₀ (key h0) (key hbase) (key hmi) (key hρ) ⟨o, ho, hs⟩ n hne

theorem codeAny_compStartD {prog : Program} {w : World} {A : Around} {s : Shared} {R : Result → Shared → Prop} {elt target iter : Expr} {ifs : List Expr} {gens : List Comprehension} {scope : Scope} {pos : Pos} {d : Nat} {it acc : Value} {env : Env}
    (hg : gens[d]? = some ⟨target, iter, ifs, 0⟩)
    (h0 : codeAny (model prog w) A (.compLoop (.ListComp elt gens scope pos) d it acc env) R s)
    (h : ∀ (Q : Value → Shared → Prop) (E : Value → Shared → Prop), Q it s → wpAny (model prog w) A (pyIter it) Q E s) :
    codeAny (model prog w) A (.compStart (.ListComp elt gens scope pos) d it acc env) R s := by
  refine codeAny_of_tree ?_
  show wpAny _ A ((compStart (.ListComp elt gens scope pos) d it acc env).onRaise (fun x => do noteFrame x env; standAt theWindowsPlace)) _ _ s
  refine wpAny_notedAt ?_
  unfold compStart
  have hcl : clausesOf (.ListComp elt gens scope pos) = gens := rfl
  rw [hcl, hg]
  show wpAny _ _ (ask >>= _) _ _ s
  refine wpAny_bind (wpAny_askSetting (wpAny_ite ?_))
  split
  · first
      | exact wpAny_bind (wpAny_pure (wpAny_pure (And.intro rfl h0)))
      | exact wpAny_pure (And.intro rfl h0)
  · refine wpAny_bind (wpAny_rule ?_)
    show wpAny _ _ (standAt iter.pos >>= _) _ _ s
    exact wpAny_bind (wpAny_standAt (wpAny_bind (h _ _ (wpAny_pure (And.intro rfl h0)))))

/-! ### the comprehension's own frame -/
noncomputable def compFrm (F : Frm) (scope : Scope) (cl : List (Str × Addr)) (C : Addr) : Frm := ⟨compEnvC scope cl C F.env, F.A, [C], F.nh⟩
theorem FOk.comp (fk : FOk F) {scope : Scope} {cl : List (Str × Addr)} {C : Addr} (hk : scope.kind = .function) : FOk (compFrm F scope cl C) := ⟨hk, fk.glob, fk.blt, fk.hd, fk.units⟩

/-- C is no frame on the stack -/
noncomputable def NoFrame (F : Frm) (C : Addr) : Prop := ∀ l, F.A.frames = some l → ∀ env ∈ l, env.frame ≠ some C
theorem Rel.noFrame {σ : S} {ρ : List Addr} {s : Shared} {C : Addr} (rel : Rel K F σ ρ s) (h : s.heap.get? C = none) : NoFrame F C := by
  intro l hl env he hf
  obtain ⟨e, l', a1, a2, a3⟩ := rel.frs
  rw [a1] at hl; cases hl
  obtain ⟨_, L, o, es, n, f, _, g, _⟩ := a3 env he
  rw [f] at hf; cases hf
  rw [h] at g; cases g
theorem Rel.butC {σ : S} {ρ : List Addr} {s s' : Shared} {C : Addr} {m : Str → Option Value} (rel : Rel K F σ ρ s) (hb : K.base.get? C = none) (hm : C ∉ F.mine) (hρ : C ∉ ρ) (hn : s.heap.Ns C m) (hs : Heap.SameBut C s.heap s'.heap)
    (hg : s'.gens = s.gens) (ho : s'.os = s.os) (hC : NoFrame F C) : Rel K F σ ρ s' where
  toGRel := rel.toGRel.mineBut hb hρ hs (fun b o e f => ns_ne_tup hn e f) hg ho
  vars := fun y u e => by
    obtain ⟨w, h1, h2⟩ := rel.vars y u e
    refine ⟨w, h1.mono (fun m' n => n.sameBut hs (fun q => hm (q ▸ rel.mineLoc))) (fun c u _ n => n.sameBut hs (fun q => cell_ne_ns n hn q.symm)), ?_⟩
    exact Rep.mono' (List.prefix_refl _) (fun b o e f => (hs.2 b (ns_ne_tup hn e f)).trans e) h2
  loc := by obtain ⟨m', n⟩ := rel.loc; exact ⟨m', n.sameBut hs (fun q => hm (q ▸ rel.mineLoc))⟩
  cels := fun y c e => by obtain ⟨v, n⟩ := rel.cels y c e; exact ⟨v, n.sameBut hs (fun q => cell_ne_ns n hn q.symm)⟩
  mineAbove := fun b hb' => by
    obtain ⟨h1, o, h2⟩ := rel.mineAbove b hb'
    exact ⟨h1, o, (hs.2 b (fun q => hm (q ▸ hb'))).trans h2⟩
  mineApart := rel.mineApart
  mineLoc := rel.mineLoc
  frs := by
    obtain ⟨e, l, a1, a2, a3⟩ := rel.frs
    refine ⟨e, l, a1, a2, a3.next fun b o es n hfr g d => ⟨o, es, n, (hs.2 b ?_).trans g, d⟩⟩
    intro q
    obtain ⟨env, he, hf⟩ := hfr
    exact hC _ a1 env he (q ▸ hf)
theorem Ext.butC {mine ρ₀ ρ : List Addr} {h₀ h h' : Heap} {C : Addr} (x : Ext mine ρ₀ ρ h₀ h) (h0 : h₀.get? C = none) (hs : Heap.SameBut C h h') : Ext mine ρ₀ ρ h₀ h' where
  pre := x.pre
  alive := fun b o e => by
    obtain ⟨o1, e1⟩ := x.alive b o e
    exact ⟨o1, (hs.2 b (by rintro rfl; rw [h0] at e; cases e)).trans e1⟩
  new := x.new
  keep := fun b o e n1 n2 => by
    obtain ⟨o1, e1, l1⟩ := x.keep b o e n1 n2
    exact ⟨o1, (hs.2 b (by rintro rfl; rw [h0] at e; cases e)).trans e1, l1⟩
  froz := fun b o e f => (hs.2 b (by rintro rfl; rw [h0] at e; cases e)).trans (x.froz b o e f)

/-- what the clauses of a comprehension do, in the comprehension's frame -/
noncomputable def SimClauses (K : Glo) (F : Frm) (elt : Expr) (gens : List Comprehension) (scope : Scope) (pos : Pos) (d : Nat) (m : Nat → (S → Nat → Option (Option V)) → M Unit) : Prop :=
  ∀ (l : Nat) (a : Addr) (I : Addr) (Src : Nat → Obj → Prop) (nxt : S → Nat → Option (Option V)) σ ρ ρ₀ s h₀ o, Iter K F I Src nxt ρ₀ h₀ → Rel K F σ ρ s → ρ[l]? = some a → Ext F.mine ρ₀ ρ h₀ s.heap → h₀.get? I = none → K.base.get? I = none →
    I ∉ F.mine → I ∉ ρ → s.heap.get? I = some o → Src 0 o → m l nxt σ ≠ .stuck →
    codeAny (model K.prog K.w) F.A (.compStart (.ListComp elt gens scope pos) d (.ref I) (.ref a) F.env) (fun r s' => match r with
      | .ok _ => ∃ σ' ρ', m l nxt σ = .ok () σ' ∧ Rel K F σ' ρ' s' ∧ Ext F.mine ρ₀ ρ' h₀ s'.heap ∧ ρ'[l]? = some a
      | .error v => EO K F (m l nxt σ) ρ₀ h₀ v s') s

noncomputable def loopC (n : Nat) (t : V → M Unit) (c : M Bool) (mi : M Unit) (nxt : S → Nat → Option (Option V)) : M Unit := do
  let _ ← forG nxt t (compB c mi) n 0
  pure ()

theorem loopC_ne {n : Nat} {t : V → M Unit} {c : M Bool} {mi : M Unit} {nxt : S → Nat → Option (Option V)} {σ : S} (h : loopC n t c mi nxt σ ≠ .stuck) : forG nxt t (compB c mi) n 0 σ ≠ .stuck := by
  intro e; apply h; unfold loopC; rw [M.bind_def, e]

theorem clauses_of {elt target iter : Expr} {ifs : List Expr} {gens : List Comprehension} {scope : Scope} {pos : Pos} {d : Nat} {test : Option Expr} {inner : Value → Sem Unit} {t : V → M Unit} {c : M Bool} {mi : Nat → M Unit} (n : Nat)
    (hg : gens[d]? = some ⟨target, iter, ifs, 0⟩)
    (hto : ∀ acc, TurnOk (.ListComp elt gens scope pos) d F.env acc target test (inner acc)) (ht : SimT K F target t) (hc : SimTest K F test c) (hin : ∀ l a, SimA K F l a (inner (.ref a)) (mi l)) :
    SimClauses K F elt gens scope pos d (fun l nxt => loopC n t c (mi l) nxt) := by
  intro l a I Src nxt σ ρ ρ₀ s h₀ o hI rel hla x₀ h0 hb hm hρ ho hs hne
  refine codeAny_compStartD hg ?_ (fun Q E q => hI.2.1 0 o s _ Q E ho hs q)
  refine codeAny_mono (run_compLoop (hto _) ht hc (hin l a) hI rel hla x₀ h0 hb hm hρ ho hs n (loopC_ne hne)) fun r s' h => ?_
  cases r with
  | ok f =>
    obtain ⟨f', σ', ρ', e, r1, r2, r4⟩ := h
    exact ⟨σ', ρ', by show loopC n t c (mi l) nxt σ = _; unfold loopC; rw [M.bind_def, e]; rfl, r1, r2, r4⟩
  | error v =>
    obtain ⟨e, σ', ρ', e1, r1, r2, r3⟩ := h
    exact ⟨e, σ', ρ', by show loopC n t c (mi l) nxt σ = _; unfold loopC; rw [M.bind_def, e1], r1, r2, r3⟩

noncomputable def appendAt (l : Nat) (v : V) : M Unit := do
  let _ ← appendG (.obj l) [v]
  pure ()
theorem simA_emit (fk : FOk F) {elt : Expr} {me : M V} (he : SimE K F elt me) (l : Nat) (a : Addr) (hnh : F.nh = true := by rfl) : SimA K F l a (emitL elt F.env (.ref a)) (do let v ← me; appendAt l v) := by
  intro σ ρ s rel hla
  unfold emitL
  refine Run.bind (he σ ρ s rel) fun v σ₁ ρ₁ s₁ w _ rel₁ x₁ rv => ?_
  unfold appendAt
  refine Run.bind (meth_append F fk hnh σ₁ ρ₁ s₁ (.obj l) (.ref a) [v] [w] rel₁ (Rep.obj_iff.mpr ⟨a, getElem?_prefix x₁.pre hla, rfl⟩) (RepL.cons rv RepL.nil)) fun u σ₂ ρ₂ s₂ _ _ rel₂ x₂ _ => ?_
  exact Run.pure rel₂ trivial

end Mine


/-! part F15 -/
set_option autoImplicit false
set_option maxRecDepth 100000
set_option linter.unusedVariables false
open PySem PySem.W PyProof.Rows
namespace Mine

variable {K : Glo} {F : Frm}

noncomputable def restr (free : List String) (lo : String → Option V) : String → Option V := fun x => if x ∈ free then lo x else none
noncomputable def compTail (free : List String) (mc : Nat → (S → Nat → Option (Option V)) → M Unit) (v : V) : M V := fun σ => match okIter v σ with
  | .ok _ _ => match mc σ.st.length (nxtOf v) ⟨σ.st ++ [.lst []], restr free σ.lo⟩ with
    | .ok _ σ' => .ok (.obj σ.st.length) ⟨σ'.st, σ.lo⟩
    | .exc _ _ => .stuck
    | .stuck => .stuck
  | _ => .stuck

theorem okIter_ok {v : V} {σ : S} {u : Unit} {σ' : S} (h : okIter v σ = .ok u σ') : okIter v σ = .ok () σ := by
  cases v with
  | obj l =>
    have h' : chkL (.obj l) σ = .ok u σ' := h
    show chkL (.obj l) σ = _
    cases hc : σ.st[l]? with
    | none => simp only [chkL, hc] at h'; cases h'
    | some c => cases c with | lst us => exact chkL_ok hc
  | tup vs => rfl
  | rng a b' c =>
    unfold okIter at h ⊢
    by_cases hsm : Builtin.Range.small a b' c = true
    · simp only [hsm, if_true]
    · simp only [hsm] at h; cases h
  | _ => cases h

structure CompOk (F : Frm) (scope : Scope) (cl : List (Str × Addr)) (free : List String) : Prop where
  clos : closureFor scope F.env = pure cl
  kind : scope.kind = .function
  names : ∀ x ∈ scope.names, x.2 = .local → scope.names.lookup x.1 = some .local
  nocell : ∀ x ∈ scope.names, x.2 ≠ .cell
  free : ∀ x ∈ free, ((relabel scope F.env).names.lookup (Str.ofString x) = some .cell ∨ (relabel scope F.env).names.lookup (Str.ofString x) = some .free) ∧ F.env.kindOf (Str.ofString x) ≠ some .local ∧
    ∀ c, F.env.cells.lookup (Str.ofString x) = some c → cl.lookup (Str.ofString x) = some c
  cells : ∀ x c, cl.lookup x = some c → F.env.cells.lookup x = some c

theorem FrsOk.comp {h : Heap} {scope : Scope} {cl : List (Str × Addr)} {C : Addr} (x : FrsOk K F h) : FrsOk K (compFrm F scope cl C) h := x

theorem wp_comp (fk : FOk F) {elt target iter : Expr} {ifs : List Expr} {gs : List Comprehension} {scope : Scope} {pos fpos : Pos} {cl : List (Str × Addr)} {free : List String} {mi : M V} {mc : Nat → (S → Nat → Option (Option V)) → M Unit}
    {use : Option (Value → Sem Unit)} {Q : Value → Shared → Prop} {E : Value → Shared → Prop} (hs : ∀ x, foldedSetIterable iter F.env x = pure x) (ck : CompOk F scope cl free) (hi : SimE K F iter mi)
    (hc : ∀ C, SimClauses K (compFrm F scope cl C) elt (⟨target, iter, ifs, 0⟩ :: gs) scope pos 0 mc) {σ : S} {ρ : List Addr} {s : Shared} (rel : Rel K F σ ρ s) (hne : (mi >>= compTail free mc) σ ≠ .stuck) (hnh : F.nh = true)
    (hQ : ∀ v σ' ρ' s' w C m, (mi >>= compTail free mc) σ = .ok v σ' → Rel K F σ' ρ' s' → Ext F.mine ρ ρ' s.heap s'.heap → Rep K s'.heap ρ' v w → s'.heap.Ns C m → C ∉ F.mine → C ∉ ρ' → K.base.get? C = none → s.heap.get? C = none →
      compPost (model K.prog K.w) F.A E use Q w C (.ok .next) s')
    (hE : ∀ v s', EO K F ((mi >>= compTail free mc) σ) ρ s.heap v s' → E v s') :
    wpAny (model K.prog K.w) F.A (comprehension (.ListComp elt (⟨target, iter, ifs, 0⟩ :: gs) scope pos) scope F.env fpos (newList []) false (eval iter F.env) use) Q E s := by
  refine wpAny_comprehension_free (use := use) rfl hs ck.clos ck.kind ck.names ?_
  refine wpAny_mono (Run.bindWp (P := fun x s₁ => wpAny (model K.prog K.w) F.A (pyIter x) (fun it s₂ => wpAny (model K.prog K.w) F.A (newList []) (fun acc s₃ =>
      wpAny (model K.prog K.w) F.A (newFunctionEnv scope F.env.globals cl [] F.env.qual none .none (some F.env)) (fun cenv s₄ =>
        codeAny (model K.prog K.w) F.A (.compStart (.ListComp elt (⟨target, iter, ifs, 0⟩ :: gs) scope pos) 0 it acc { cenv with scope := relabel scope F.env }) (compPost (model K.prog K.w) F.A E use Q acc cenv.locals) s₄) E s₃) E s₂) E s₁)
    (hi σ ρ s rel) hne ?_) (fun _ _ q => q) (fun v s' q => hE v s' q)
  intro v σ₁ ρ₁ s₁ w e1 e2 rel₁ x₁ rv
  rw [e2] at hne hQ hE
  cases hok : okIter v σ₁ with
  | stuck => exact absurd (by unfold compTail; rw [hok]) hne
  | exc e y => exact absurd (by unfold compTail; rw [hok]) hne
  | ok u y =>
    have hok' := okIter_ok hok
    have eT : compTail free mc v σ₁ = (match mc σ₁.st.length (nxtOf v) ⟨σ₁.st ++ [.lst []], restr free σ₁.lo⟩ with
      | .ok _ σ' => .ok (.obj σ₁.st.length) ⟨σ'.st, σ₁.lo⟩
      | .exc _ _ => .stuck
      | .stuck => .stuck) := by unfold compTail; rw [hok]
    obtain ⟨obj, Src, hsrc, hfr, hIt, hpy⟩ := wp_pyIter rel₁ rv hok'
    obtain ⟨f0, f1, f2, f3⟩ := fresh_facts rel₁
    refine hpy _ _ _ ?_
    have rel₂ := rel₁.push obj s₁.toks
    have x₂ : Ext F.mine ρ₁ ρ₁ s₁.heap (s₁.heap.push obj) := Ext.push obj
    refine wpAny_newList ?_ (by simp [sizeLine_eq])
    obtain ⟨rel₃, x₃⟩ := rel₂.newList (vs := []) (ws := []) (o := { cls := .type "list", data := .seq ([] : List Value).toArray }) rfl RepL.nil (by simp) s₁.toks
    refine wpAny_newFunctionEnv ck.nocell (by intro y hy; simp at hy) (fun h₄ hns hsb => ?_) ck.kind
    dsimp only at hns hsb rel₃ x₃ ⊢
    generalize hH : (s₁.heap.push obj).push { cls := .type "list", data := .seq ([] : List Value).toArray } = H at hns hsb rel₃ x₃ ⊢
    have hI : (s₁.heap.push obj).objs.size = s₁.heap.objs.size + 1 := Heap.size_push ..
    have hC : H.objs.size = s₁.heap.objs.size + 2 := by rw [← hH, Heap.size_push, hI]
    generalize hCd : H.objs.size = C at hns hsb hC ⊢
    have hkeep : ∀ b o, H.get? b = some o → h₄.get? b = some o := fun b o e => (hsb.2 b (by rw [← hCd]; exact Nat.ne_of_lt (Heap.lt_size e))).trans (Heap.get?_push_of_some _ e)
    have fC : s₁.heap.get? C = none := Heap.get?_none_of_le (by rw [hC]; (first | lia | omega))
    have bC : K.base.get? C = none := by
      cases e : K.base.get? C with
      | none => rfl
      | some o => have := rel₁.base _ _ e; rw [fC] at this; cases this
    have rel₄ : Rel K (compFrm F scope cl C) ⟨σ₁.st ++ [.lst []], restr free σ₁.lo⟩ (ρ₁ ++ [(s₁.heap.push obj).objs.size]) { s₁ with heap := h₄, toks := s₁.toks + 0 } := by
      refine { toGRel := rel₃.toGRel.kept hkeep rfl rfl, vars := ?_, loc := ⟨_, hns⟩, cels := ?_, mineAbove := ?_, mineApart := ?_, mineLoc := List.mem_singleton.mpr rfl, frs := (rel₃.frs.kept hkeep).comp }
      · intro x v' e
        have hx : x ∈ free := by
          by_cases h : x ∈ free
          · exact h
          · simp only [restr, if_neg h] at e; cases e
        simp only [restr, if_pos hx] at e
        obtain ⟨w', h1, h2⟩ := rel₃.vars x v' e
        refine ⟨w', ?_, Rep.mono' (List.prefix_refl _) (kept_tup hkeep) h2⟩
        obtain ⟨q1, q2, q3⟩ := ck.free x hx
        rcases h1 with ⟨k1, _⟩ | ⟨k1, c, ec, n⟩
        · exact absurd k1 q2
        · exact .inr ⟨q1, c, q3 c ec, n.keeps hkeep⟩
      · intro x c e
        obtain ⟨v', n⟩ := rel₃.cels x c (ck.cells x c e)
        exact ⟨v', n.keeps hkeep⟩
      · intro a ha
        have : a = C := List.mem_singleton.mp ha
        subst this
        obtain ⟨o, _, _, e, _⟩ := hns
        exact ⟨bC, o, e⟩
      · intro a ha hb
        have : a = C := List.mem_singleton.mp ha
        subst this
        obtain ⟨_, o, e, _⟩ := rel₃.toGRel.alive hb
        rw [Heap.get?_none_of_le (by rw [hCd]; exact Nat.le_refl _)] at e; cases e
    have x₄ : Ext [C] ρ₁ (ρ₁ ++ [(s₁.heap.push obj).objs.size]) s₁.heap h₄ := by
      refine ⟨List.prefix_append _ _, fun b o e => ⟨o, hkeep b o (by rw [← hH]; exact Heap.get?_push_of_some _ (Heap.get?_push_of_some _ e))⟩, fun a ha => ?_, fun b o e _ _ => ⟨o, hkeep b o (by rw [← hH]; exact Heap.get?_push_of_some _ (Heap.get?_push_of_some _ e)), .refl _⟩,
        fun b o e _ => hkeep b o (by rw [← hH]; exact Heap.get?_push_of_some _ (Heap.get?_push_of_some _ e))⟩
      rcases List.mem_append.mp ha with ha | ha
      · exact .inl ha
      · have := List.mem_singleton.mp ha
        subst this
        exact .inr (Heap.get?_none_of_le (by rw [hI]; (first | lia | omega)))
    have hIC : s₁.heap.objs.size ≠ C := by rw [hC]; (first | lia | omega)
    have hne' : mc σ₁.st.length (nxtOf v) ⟨σ₁.st ++ [.lst []], restr free σ₁.lo⟩ ≠ .stuck := fun e => hne (by rw [eT, e])
    have main := hc C σ₁.st.length (s₁.heap.push obj).objs.size s₁.heap.objs.size Src (nxtOf v) ⟨σ₁.st ++ [.lst []], restr free σ₁.lo⟩ (ρ₁ ++ [(s₁.heap.push obj).objs.size]) ρ₁ { s₁ with heap := h₄, toks := s₁.toks + 0 } s₁.heap obj
      (hIt _ (fk.comp ck.kind) hnh) rel₄ (by rw [← rel₁.len, List.getElem?_concat_length]) x₄ f0 f1 (fun h => hIC (List.mem_singleton.mp h))
      (fun h => by
        rcases List.mem_append.mp h with h | h
        · exact f3 h
        · have := List.mem_singleton.mp h; rw [hI] at this; exact absurd this (Nat.ne_of_lt (Nat.lt_succ_self _)))
      (hkeep _ _ (by rw [← hH]; exact Heap.get?_push_of_some _ (Heap.get?_push_size _ hfr))) hsrc hne'
    refine codeAny_mono main fun r s' h => ?_
    cases r with
    | error v' =>
      obtain ⟨x, σ', ρ', em, r1, r2, r3⟩ := h
      have hmo : mc σ₁.st.length (nxtOf v) ⟨σ₁.st ++ [.lst []], restr free σ₁.lo⟩ = .exc x σ' := em
      rw [hmo] at eT
      exact absurd eT hne
    | ok f =>
      obtain ⟨σ', ρ', em, r1, r2, r4⟩ := h
      rw [em] at eT
      have xn : Ext [] ρ₁ ρ' s₁.heap s'.heap := ⟨r2.pre, r2.alive, r2.new, fun b o e n1 _ => r2.keep b o e n1 (fun hm => by have := List.mem_singleton.mp hm; subst this; rw [fC] at e; cases e), r2.froz⟩
      have relF := rel₁.called r1.toGRel xn fk
      obtain ⟨m, hm⟩ := r1.loc
      have hsC : s.heap.get? C = none := by
        cases e : s.heap.get? C with
        | none => rfl
        | some o => obtain ⟨o', e'⟩ := x₁.alive _ _ e; rw [fC] at e'; cases e'
      have hmC : C ∉ F.mine := fun h => by
        obtain ⟨_, o, e⟩ := rel₁.mineAbove _ h
        rw [fC] at e; cases e
      have := hQ (.obj σ₁.st.length) ⟨σ'.st, σ₁.lo⟩ ρ' s' (.ref (s₁.heap.push obj).objs.size) C m eT relF (x₁.trans (ext_of_nil xn)) (Rep.obj_iff.mpr ⟨_, r4, rfl⟩) hm hmC (r1.mineApart C (List.mem_singleton.mpr rfl)) bC hsC
      cases use <;> exact this

theorem simE_listcomp (fk : FOk F) {elt target iter : Expr} {ifs : List Expr} {gs : List Comprehension} {scope : Scope} {pos : Pos} {cl : List (Str × Addr)} {free : List String} {mi : M V} {mc : Nat → (S → Nat → Option (Option V)) → M Unit}
    (ck : CompOk F scope cl free) (hi : SimE K F iter mi)
    (hc : ∀ C, SimClauses K (compFrm F scope cl C) elt (⟨target, iter, ifs, 0⟩ :: gs) scope pos 0 mc) (hs : ∀ x, foldedSetIterable iter F.env x = pure x := by intro _; rfl) (hnh : F.nh = true := by rfl) :
    SimE K F (.ListComp elt (⟨target, iter, ifs, 0⟩ :: gs) scope pos) (mi >>= compTail free mc) := by
  intro σ ρ s rel
  refine Run.of_wp fun hne => ?_
  show wpAny _ _ (comprehension (.ListComp elt (⟨target, iter, ifs, 0⟩ :: gs) scope pos) scope F.env _ (newList []) false (eval iter F.env) none) _ _ s
  refine wp_comp fk (use := none) hs ck hi hc rel hne hnh ?_ fun _ _ q => q
  intro v σ' ρ' s' w C m e r1 x1 rv hm q1 q2 q3 q4
  exact ⟨m, hm, fun h' hsb => ⟨v, σ', ρ', e, r1.butC q3 q1 q2 hm hsb rfl rfl (rel.noFrame q4), x1.butC q4 hsb, Rep.mono' (List.prefix_refl _) (fun b o e f => (hsb.2 b (ns_ne_tup hm e f)).trans e) rv⟩⟩

end Mine


/-! part F16 -/
set_option autoImplicit false
set_option maxRecDepth 100000
set_option linter.unusedVariables false
open PySem PySem.W PyProof.Rows
namespace Mine

variable {K : Glo} {F : Frm}

/-! ### range -/
noncomputable def rangeB : List V → M V
  | [.int n] => pure (.rng 0 n 1)
  | [.int a, .int b] => pure (.rng a b 1)
  | [.int a, .int b, .int c] => if c ≠ 0 ∧ c.natAbs < 1000000 then pure (.rng a b c) else stuck
  | _ => stuck

theorem built_range : BuiltOk K (.type "range") rangeB := by
  intro F fk hnh σ ρ s vs ws rel r
  have fin : ∀ (a b c : Int) (t u v : Tok) (tk : Nat), ∃ ρ', Rel K F σ ρ' { s with heap := s.heap.push { cls := .type "range", data := .fields #[.int a t, .int b u, .int c v] }, toks := tk } ∧
      Ext F.mine ρ ρ' s.heap (s.heap.push { cls := .type "range", data := .fields #[.int a t, .int b u, .int c v] }) ∧
      Rep K (s.heap.push { cls := .type "range", data := .fields #[.int a t, .int b u, .int c v] }) ρ' (.rng a b c) (.ref s.heap.objs.size) := by
    intro a b c t u v tk
    exact ⟨ρ, rel.push _ tk, Ext.push _, Rep.rng_iff.mpr ⟨_, t, u, v, rfl, IsRange.new _ a b c t u v⟩⟩
  unfold rangeB
  split
  · rename_i n
    obtain ⟨x, r', rfl, r1, r2⟩ := RepL.cons_iff.mp r
    obtain rfl := RepL.nil_iff.mp r2
    obtain ⟨t, rfl⟩ := Rep.int_iff.mp r1
    exact Run.ok (call_range_1 (fin ..))
  · rename_i a b
    obtain ⟨x, r', rfl, r1, r2⟩ := RepL.cons_iff.mp r
    obtain ⟨y, r'', rfl, r3, r4⟩ := RepL.cons_iff.mp r2
    obtain rfl := RepL.nil_iff.mp r4
    obtain ⟨t, rfl⟩ := Rep.int_iff.mp r1
    obtain ⟨u, rfl⟩ := Rep.int_iff.mp r3
    exact Run.ok (call_range_2 (fin ..))
  · rename_i a b c
    by_cases hc : c ≠ 0 ∧ c.natAbs < 1000000
    · rw [if_pos hc]
      obtain ⟨x, r', rfl, r1, r2⟩ := RepL.cons_iff.mp r
      obtain ⟨y, r'', rfl, r3, r4⟩ := RepL.cons_iff.mp r2
      obtain ⟨z, r''', rfl, r5, r6⟩ := RepL.cons_iff.mp r4
      obtain rfl := RepL.nil_iff.mp r6
      obtain ⟨t, rfl⟩ := Rep.int_iff.mp r1
      obtain ⟨u, rfl⟩ := Rep.int_iff.mp r3
      obtain ⟨v, rfl⟩ := Rep.int_iff.mp r5
      exact Run.ok (call_range_3 hc.1 (fin ..) (.inl (PyProof.noPylong_small (by (first | lia | omega)))))
    · rw [if_neg hc]; exact Run.stuck
  · exact Run.stuck

section
variable {prog : Program} {w : World} {A : Around} {E : Value → Shared → Prop} {s : Shared}
end
theorem fits_of {i : Int} (h : -1000000 ≤ i ∧ i ≤ 1000000) : Builtin.Range.rangeFitsLong i = true := by
  unfold Builtin.Range.rangeFitsLong
  simp only [Bool.and_eq_true, decide_eq_true_eq]
  (first | lia | omega)
end Mine


/-! part F17 -/
set_option autoImplicit false
set_option maxRecDepth 100000
set_option linter.unusedVariables false
open PySem PySem.W PyProof.Rows
namespace Mine

variable {K : Glo} {F : Frm}

/-- a new list that lies somewhere above -/
theorem Rel.newAt {σ : S} {ρ : List Addr} {s s' : Shared} {vs : List V} {ws : List Value} {a : Addr} {n : Nat} (rel : Rel K F σ ρ s) (hk : ∀ b o, s.heap.get? b = some o → s'.heap.get? b = some o) (h0 : s.heap.get? a = none)
    (hL : IsL s'.heap a ws.toArray n) (hr : RepL K s.heap ρ vs ws) (hln : vs.length ≤ 1000000) (hg : s'.gens = s.gens) (ho : s'.os = s.os) :
    Rel K F { σ with st := σ.st ++ [.lst vs] } (ρ ++ [a]) s' ∧ Ext F.mine ρ (ρ ++ [a]) s.heap s'.heap := by
  have r := rel.kept hk hg ho
  have hpre : ρ <+: ρ ++ [a] := List.prefix_append _ _
  have hanρ : a ∉ ρ := fun h => by
    obtain ⟨_, o, e, _⟩ := rel.toGRel.alive h
    rw [h0] at e; cases e
  have x : Ext F.mine ρ (ρ ++ [a]) s.heap s'.heap := by
    refine ⟨hpre, fun b o' e => ⟨o', hk _ _ e⟩, fun b hb => ?_, fun b o' e _ _ => ⟨o', hk _ _ e, .refl _⟩, kept_tup hk⟩
    rcases List.mem_append.mp hb with hb | hb
    · exact .inl hb
    · simp only [List.mem_singleton] at hb; subst hb; exact .inr h0
  refine ⟨{ gens := r.gens, os := r.os, base := r.base, len := ?_, cell := ?_, nodup := ?_, above := ?_, vars := ?_, loc := r.loc, cels := r.cels, mineAbove := r.mineAbove, mineApart := ?_, mineLoc := r.mineLoc, frs := r.frs }, x⟩
  · simp [rel.len]
  · intro l b c h1 h2
    dsimp only at h2
    by_cases hl : l < σ.st.length
    · rw [List.getElem?_append_left (by rw [rel.len]; exact hl)] at h1
      rw [List.getElem?_append_left hl] at h2
      exact (rel.cell l b c h1 h2).mono hpre (kept_tup hk) fun _ _ x => hk _ _ x
    · have hl' : l = σ.st.length := by
        rcases List.getElem?_eq_some_iff.mp h2 with ⟨h3, _⟩
        simp at h3; (first | lia | omega)
      subst hl'
      rw [← rel.len, List.getElem?_concat_length] at h1; cases h1
      rw [List.getElem?_concat_length] at h2; cases h2
      exact ⟨hln, ws, n, hL, RepL.mono' hpre (kept_tup hk) hr⟩
  · refine List.nodup_append.mpr ⟨rel.nodup, by simp, ?_⟩
    intro b hb c hc
    simp only [List.mem_singleton] at hc; subst hc
    rintro rfl
    exact hanρ hb
  · intro l b hlb hl0
    by_cases hlt : l < ρ.length
    · rw [List.getElem?_append_left hlt] at hlb
      exact rel.above l b hlb hl0
    · have hb : b = a := by
        rw [List.getElem?_append_right (by (first | lia | omega))] at hlb
        have := List.mem_of_getElem? hlb
        simpa using this
      subst hb
      cases e : K.base.get? b with
      | none => rfl
      | some o' => have := rel.base _ _ e; rw [h0] at this; cases this
  · intro y v e
    obtain ⟨w, h1, h2⟩ := r.vars y v e
    exact ⟨w, h1, Rep.mono' hpre (fun _ _ e _ => e) h2⟩
  · intro b hb hc
    rcases List.mem_append.mp hc with hc | hc
    · exact rel.mineApart b hb hc
    · simp only [List.mem_singleton] at hc; subst hc
      obtain ⟨_, o', e⟩ := rel.mineAbove _ hb
      rw [h0] at e; cases e

/-! ### sorted of ints -/
noncomputable def intsOf : List V → Option (List Int)
  | [] => some []
  | .int i :: vs => (intsOf vs).map (i :: ·)
  | _ :: _ => none
theorem intsOf_are {h : Heap} {ρ : List Addr} : ∀ {vs : List V} {ws : List Value} {ns : List Int}, RepL K h ρ vs ws → intsOf vs = some ns → IntsAre ws ns
  | [], ws, ns, r, e => by rw [RepL.nil_iff.mp r]; cases e; exact .nil
  | .int i :: vs, ws, ns, r, e => by
    obtain ⟨x, r', rfl, r1, r2⟩ := RepL.cons_iff.mp r
    obtain ⟨t, rfl⟩ := Rep.int_iff.mp r1
    unfold intsOf at e
    cases h' : intsOf vs with
    | none => rw [h'] at e; cases e
    | some ns' => rw [h'] at e; cases e; exact .cons i t (intsOf_are r2 h')
  | .none :: _, _, _, _, e => by cases e
  | .bool _ :: _, _, _, _, e => by cases e
  | .str _ :: _, _, _, _, e => by cases e
  | .tup _ :: _, _, _, _, e => by cases e
  | .obj _ :: _, _, _, _, e => by cases e
  | .fn _ :: _, _, _, _, e => by cases e
  | .rng _ _ _ :: _, _, _, _, e => by cases e
theorem ints_rep {h : Heap} {ρ : List Addr} : ∀ {ws : List Value} {ns : List Int}, IntsAre ws ns → RepL K h ρ (ns.map .int) ws
  | _, _, .nil => RepL.nil
  | _, _, .cons n t r => RepL.cons (Rep.int n t) (ints_rep r)

noncomputable def sortI (ns : List Int) : List Int := ns.mergeSort (fun a b => decide (a ≤ b))
theorem sortI_perm (ns : List Int) : (sortI ns).Perm ns := List.mergeSort_perm _ _
theorem sortI_sorted (ns : List Int) : (sortI ns).Pairwise (· ≤ ·) := by
  have := List.pairwise_mergeSort (le := fun a b : Int => decide (a ≤ b)) (by intro a b c h1 h2; simp at *; (first | lia | omega)) (by intro a b; simp; (first | lia | omega)) ns
  exact this.imp fun h => by simpa using h
theorem sortI_eq {a b : List Int} (p : a.Perm b) (h : a.Pairwise (· ≤ ·)) : a = sortI b := lks_uniq (p.trans (sortI_perm b).symm) h (sortI_sorted b)

noncomputable def sortedB : List V → M V
  | [.obj l] => fun σ => match σ.st[l]? with
    | some (.lst vs) => match intsOf vs with
      | some ns => if vs.length < 64 then .ok (.obj σ.st.length) { σ with st := σ.st ++ [.lst ((sortI ns).map .int)] } else .stuck
      | none => .stuck
    | _ => .stuck
  | _ => stuck

theorem built_sorted : BuiltOk K (.builtin "sorted") sortedB := by
  intro F fk hnh σ ρ s vs ws rel r
  unfold sortedB
  split
  · rename_i l
    obtain ⟨x, r', rfl, r1, r2⟩ := RepL.cons_iff.mp r
    obtain rfl := RepL.nil_iff.mp r2
    cases hl : σ.st[l]? with
    | none => exact Run.stuck
    | some c =>
      cases c with
      | lst us =>
        dsimp only
        cases hi : intsOf us with
        | none => exact Run.stuck
        | some ns =>
          dsimp only
          by_cases h64 : us.length < 64
          · rw [if_pos h64]
            obtain ⟨a, xs, n, rfl, hρ, hL, hr, hn⟩ := rel.list r1 hl
            refine Run.ok (sorted_ints hL.isList (intsOf_are hr hi) (by rw [hr.length]; exact h64) fun out ns' a1 a2 a3 => ?_)
            have e1 : ns' = sortI ns := sortI_eq a2 a3
            subst e1
            have hsz : ((s.heap.push (seqObj "list" #[] 0)).update s.heap.objs.size (Obj.mapSeq (· ++ xs.toArray))).objs.size = s.heap.objs.size + 1 := by
              rw [Heap.size_update, size_push']
            have hoL : (((s.heap.push (seqObj "list" #[] 0)).update s.heap.objs.size (Obj.mapSeq (· ++ xs.toArray))).push (seqObj "list" xs.toArray 0)).get? (s.heap.objs.size + 1) = some (seqObj "list" xs.toArray 0) := by
              rw [← hsz]; exact Heap.get?_push_size _ rfl
            have hkeep : ∀ b o, s.heap.get? b = some o → (sortedAll s.heap xs out).get? b = some o := by
              intro b o e
              have hlt : b < s.heap.objs.size := Heap.lt_size e
              have hne1 : b ≠ s.heap.objs.size := Nat.ne_of_lt hlt
              have hne2 : b ≠ s.heap.objs.size + 1 := Nat.ne_of_lt (Nat.lt_succ_of_lt hlt)
              unfold sortedAll sortedHeap
              rw [Heap.get?_update_ne _ _ _ _ hne2]
              refine Heap.get?_push_of_some _ (Heap.get?_push_of_some _ ?_)
              rw [Heap.get?_update_ne _ _ _ _ hne2]
              refine Heap.get?_push_of_some _ ?_
              rw [Heap.get?_update_ne _ _ _ _ hne1]
              exact Heap.get?_push_of_some _ e
            have hout : ∃ m, IsL (sortedAll s.heap xs out) (s.heap.objs.size + 1) out m := by
              unfold sortedAll sortedHeap
              have h1 := get?_update_seq hoL (fun _ => (#[] : Array Value))
              exact ⟨_, get?_update_seq (Heap.get?_push_of_some (seqObj "list" #[] 0) (Heap.get?_push_of_some (seqObj "tuple" xs.toArray 0) h1)) (fun _ => out)⟩
            obtain ⟨m, hm⟩ := hout
            have hlen : ((sortI ns).map V.int).length ≤ 1000000 := by
              have := (ints_rep (K := K) (h := s.heap) (ρ := ρ) a1).length
              have h2 := (sortI_perm ns).length_eq
              have h3 := (ints_rep (K := K) (h := s.heap) (ρ := ρ) (intsOf_are hr hi)).length
              rw [List.length_map] at h3 ⊢
              rw [h2, ← h3, hr.length]; (first | lia | omega)
            obtain ⟨rel', x'⟩ := rel.newAt (s' := { s with heap := sortedAll s.heap xs out }) (ws := out.toList) (vs := (sortI ns).map .int) hkeep (Heap.get?_none_of_le (Nat.le_succ _)) (n := m) (by simpa using hm) (ints_rep a1) hlen rfl rfl
            exact ⟨_, rel', x', Rep.obj_iff.mpr ⟨_, by rw [← rel.len, List.getElem?_concat_length], rfl⟩⟩
          · rw [if_neg h64]; exact Run.stuck
  · exact Run.stuck

end Mine


/-! part F18 -/
set_option autoImplicit false
set_option maxRecDepth 100000
set_option linter.unusedVariables false
open PySem PySem.W PyProof.Rows
namespace Mine

variable {K : Glo} {F : Frm}

/-! ### the defs of a text -/
noncomputable def recAt (p : Program) (i : Nat) : DefRec := match p.main.body[i]? with
  | some (.FunctionDef name a b _ _ _ sc _ _ pos) => ⟨name, a, b, sc, pos⟩
  | _ => ⟨Str.ofString "", { posonlyargs := [], args := [], vararg := none, kwonlyargs := [], kw_defaults := [], kwarg := none, defaults := [] }, [], { kind := .function, names := [], isGenerator := false, isCoroutine := false }, ⟨0, 0, 0, 0⟩⟩

noncomputable def frm (d : DefRec) (pm code doc : Value) (L fa : Addr) (A : Around) : Frm := defFrm (PySem.Calls.docDef d.name d.params d.body d.scope pm code doc) L fa A

theorem FOk.def {d : DefRec} {pm code doc : Value} {L fa : Addr} {A : Around} {n : Nat} (hr : Room A n) (hk : d.scope.kind = .function) : FOk (frm d pm code doc L fa A) :=
  ⟨hk, rfl, rfl, fun _ => hr.1, by have := hr.2.2; show A.units + 1000 < cLine; (first | lia | omega)⟩

noncomputable def HasF (K : Glo) (x : String) (lvl : Nat) (g : Fun) : Prop := ∃ fa fd body, K.mg (Str.ofString x) = some (.ref fa) ∧ DefAt K fa fd body ∧ SimF K lvl (.ref fa) g

theorem hasF_of {d : DefRec} {x : String} {params : List String} {lvl : Nat} {mb : M Fl} (hd : d ∈ recsOf K.p) (hx : d.name = Str.ofString x) (hsc : d.scope.kind = .function) (hco : d.scope.isCoroutine = false) (hgen : d.scope.isGenerator = false) (hnd : params.Nodup)
    (hbind : ∀ (pm code doc : Value) (ws : List Value), ws.length = params.length → bindArgs (PySem.Calls.docDef d.name d.params d.body d.scope pm code doc) ⟨ws, []⟩ = pure ((params.map Str.ofString).zip ws))
    (hkind : ∀ n, ∀ y ∈ params, d.scope.names.lookup (Str.ofString y) = some .local ∨ (d.scope.names.lookup (Str.ofString y) = some .cell ∧ ((cellsFrom n d.scope.names []).lookup (Str.ofString y)).isSome = true))
    (hb : ∀ pm code doc L fa A, Room A lvl → FOk (frm d pm code doc L fa A) → SimSs K (frm d pm code doc L fa A) d.body mb) : HasF K x (lvl + 1) (funM params mb) := by
  obtain ⟨a, o, pm, code, doc, h1, h2, h3, h4⟩ := K.top.fn d hd
  have da : DefAt K a (PySem.Calls.docDef d.name d.params d.body d.scope pm code doc) d.body := ⟨⟨o, h2, h3⟩, h4, rfl, rfl, rfl, rfl, hco, hgen, hsc⟩
  refine ⟨a, _, d.body, by rw [← hx]; exact h1, da, ?_⟩
  exact simF_def da hnd (hbind pm code doc) hkind fun L A hr => hb pm code doc L a A hr (FOk.def hr hsc)

theorem simE_callF (fk : FOk F) {x : String} {np pos : Pos} {args : List Expr} {ms : M (List V)} {g : Fun} {lvl : Nat} (hf : HasF K x lvl g) (hr : Room F.A lvl)
    (hs : SimEs K F args ms) (hx : F.env.kindOf (Str.ofString x) = some .globalImplicit := by kernel_rfl)
    (hpl : (starEach args F.env).any (·.1) = false := by rfl) (hdb : (Str.ofString x == ("__debug__" : Str)) = false := by decide) :
    SimE K F (.Call (.Name (Str.ofString x) np) args [] pos) (do let vs ← ms; callF g vs) := by
  obtain ⟨fa, fd, body, h1, h2, h3⟩ := hf
  exact simE_callDef fk hx h1 h2 h3 hr hs hpl hdb

theorem simT_cellD {d : DefRec} {pm code doc : Value} {L fa : Addr} {A : Around} (x : String) (pos : Pos) (fk : FOk (frm d pm code doc L fa A)) {c : Addr} (hk : d.scope.names.lookup (Str.ofString x) = some .cell)
    (hc : (cellsFrom (L + 1) d.scope.names []).lookup (Str.ofString x) = some c) : SimT K (frm d pm code doc L fa A) (.Name (Str.ofString x) pos) (fun v => setv x v) :=
  simT_cell x pos fk hk hc (List.mem_cons_of_mem _ (cellAddrs_of hc)) (cell_inj hc)

end Mine


/-! part F19 -/
set_option autoImplicit false
set_option maxRecDepth 100000
set_option linter.unusedVariables false
open PySem PySem.W PyProof.Rows
namespace Mine

variable {K : Glo} {F : Frm}

theorem wellAll_ints {P : Params} {h : Heap} : ∀ {vs : List Value} {ns : List Int}, WellAll P h vs (ofPys (ns.map PyData.int)) → IntsAre vs ns
  | _, [], x => by cases x; exact .nil
  | _, n :: ns, x => by
    cases x with
    | cons x1 x2 => cases x1; exact .cons n _ (wellAll_ints x2)
theorem well_script {P : Params} {h : Heap} {a : Addr} {ns : List Int} (x : Well P h (.ref a) (ofPy (PyData.list (ns.map PyData.int)))) : ∃ vs, IsL h a vs.toArray 0 ∧ IntsAre vs ns := by
  cases x with
  | list e r => exact ⟨_, e, wellAll_ints r⟩

theorem room_caller {n : Nat} (h : n ≤ 600) : Room callerA n := by
  refine ⟨rfl, ?_, ?_⟩
  · have h1 : callerA.depth = 301 := by decide +kernel
    have h2 : recursionLimit = 1000 := by decide +kernel
    (first | lia | omega)
  · have h1 : callerA.units = 4 := rfl
    have h2 : cLine = 9900 := by decide +kernel
    (first | lia | omega)

theorem top_law {prog : Program} {w : World} {p : Program} {loose : List Str} {mean mean' : ExcName → Option Value} {mg mb : Str → Option Value} {s₁ : Shared} {fa l : Addr} {c : ClaimW} {cl : Str → Option Addr} {args : List WData}
    (T : Top p loose mean mg mb s₁.heap) (hg : s₁.gens = #[]) {g : Fun} {lvl : Nat} {ws : List Value} {ns : List Int}
    (hf : HasF ⟨prog, w, p, loose, mean, mg, mb, s₁.heap, s₁.os, T⟩ "law" lvl g) (hl : lvl ≤ 600) (hmg : mg (Str.ofString "law") = some (.ref fa))
    (hL : IsL s₁.heap l ws.toArray 0) (hI : IntsAre ws ns) (hn : ns.length ≤ 63) {st' : Store} (hlaw : g [.obj 0] [.lst (ns.map .int)] = .ok (.bool true) st')
    (hraise : ∀ cls, c.raises args cls = false) (hpost : c.post args (.bool true) args = true) :
    codeAny (model prog w) callerA (.call (.ref fa) ⟨[.ref l], []⟩) (GoodW c cl mean' args s₁) s₁ := by
  obtain ⟨fa', fd, body, h1, h2, h3⟩ := hf
  have e : fa' = fa := by
    have h1' : mg (Str.ofString "law") = some (.ref fa') := h1
    rw [hmg] at h1'; cases h1'; rfl
  subst e
  have hlen : ws.length = ns.length := by
    have := (ints_rep (K := ⟨prog, w, p, loose, mean, mg, mb, s₁.heap, s₁.os, T⟩) (h := s₁.heap) (ρ := []) hI).length
    simpa using this
  have gr : GRel ⟨prog, w, p, loose, mean, mg, mb, s₁.heap, s₁.os, T⟩ [.lst (ns.map .int)] [l] s₁ := by
    refine ⟨hg, rfl, fun _ _ e => e, rfl, ?_, by simp, ?_⟩
    · intro k a c' h4 h5
      cases k with
      | zero =>
        simp only [List.getElem?_cons_zero, Option.some.injEq] at h4 h5
        subst h4 h5
        exact ⟨by simp; (first | lia | omega), ws, 0, hL, ints_rep hI⟩
      | succ k => simp at h4
    · intro k a h4 h5
      cases k with
      | zero => exact absurd rfl h5
      | succ k => simp at h4
  have main := h3 callerA (room_caller hl) _ [l] s₁ gr ⟨[], rfl, fun _ h => by cases h⟩ [.obj 0] [.ref l] (RepL.cons (Rep.obj_iff.mpr ⟨l, rfl, rfl⟩) RepL.nil) (by rw [hlaw]; simp)
  refine codeAny_mono main fun r s' h => ?_
  rcases h with ⟨v, st1, w1, ρ', e1, rfl, g1, x1, r1⟩ | ⟨e0, st1, w1, ρ', e1, _⟩
  · rw [hlaw] at e1
    cases e1
    rw [Rep.bool_iff.mp r1]
    exact ⟨.inl ⟨_, .bool true, [], rfl, hraise, .bool true, hpost, unshared_nil⟩, g1.base, g1.os, g1.gens⟩
  · rw [hlaw] at e1; cases e1

end Mine


/-! part F20 -/
set_option autoImplicit false
set_option maxRecDepth 100000
set_option linter.unusedVariables false
open PySem PySem.W PyProof.Rows
namespace Mine

variable {K : Glo} {F : Frm}

/-! ### a, b = x, y: the stores go in the other order -/
noncomputable def setAll : List String → List V → M Unit
  | x :: xs, v :: vs => do setv x v; setAll xs vs
  | _, _ => pure ()
noncomputable def swapT (names : List String) : V → M Unit
  | .tup vs => if vs.length = names.length then setAll names.reverse vs.reverse else stuck
  | _ => stuck

theorem run_setAll (fk : FOk F) : ∀ (names : List String) (vs : List V) (ws : List Value) (σ : S) (ρ : List Addr) (s : Shared), Rel K F σ ρ s → RepL K s.heap ρ vs ws → vs.length = names.length → (∀ x ∈ names, F.env.kindOf (Str.ofString x) = some .local) →
    Run K F (assignInOrder (names.map fun n => bindName F.env (Str.ofString n)) ws) URep (setAll names vs σ) ρ s
  | [], vs, ws, σ, ρ, s, rel, r, hl, _ => by
    cases vs with
    | nil => rw [RepL.nil_iff.mp r]; exact Run.pure rel trivial
    | cons v vs => simp at hl
  | x :: xs, vs, ws, σ, ρ, s, rel, r, hl, hk => by
    cases vs with
    | nil => simp at hl
    | cons v vs =>
      obtain ⟨w, ws', rfl, r1, r2⟩ := RepL.cons_iff.mp r
      show Run K F (do holding ws' (bindName F.env (Str.ofString x) w); assignInOrder (xs.map fun n => bindName F.env (Str.ofString n)) ws') URep ((do setv x v; setAll xs vs : M Unit) σ) ρ s
      have h1 : Run K F (bindName F.env (Str.ofString x) w) URep (setv x v σ) ρ s := by
        have hkx := hk x List.mem_cons_self
        refine Run.ok (wpAny_bindName ?_)
        obtain ⟨m, hm⟩ := rel.loc
        refine wpAny_storeName_local hkx hm (fun h' hn hs => ?_) (by rw [fk.kind]; rfl)
        obtain ⟨rel', x'⟩ := rel.setLocal (s' := { s with heap := h', toks := s.toks + 1 }) hkx hm hn hs r1 rfl rfl
        exact ⟨ρ, rel', x', trivial⟩
      refine Run.bind (Run.holding h1) fun _ σ₁ ρ₁ s₁ _ _ rel₁ x₁ _ => ?_
      exact run_setAll fk xs vs ws' σ₁ ρ₁ s₁ rel₁ (r2.mono x₁) (by simpa using hl) (fun y hy => hk y (List.mem_cons_of_mem _ hy))

theorem simS_assign_swap (fk : FOk F) {es : List Expr} {e : Expr} {m : M V} (pos : Pos) {k : Nat} {tpos : Pos} (names : List String) (h : SimE K F e m) (hk : ∀ x ∈ names, F.env.kindOf (Str.ofString x) = some .local)
    (hs : swapsWith e (some (.Tuple es k tpos)) pos.line F.env = pure false := by rfl) (hsw : swappedStores [.Tuple es k tpos] e F.env = pure (some (names.map Str.ofString)) := by rfl) (hnh : F.nh = true := by rfl) :
    SimS K F (.Assign [.Tuple es k tpos] e pos) (do let v ← m; swapT names v; pure .next) := by
  intro σ ρ s rel
  rw [exec_Assign1]
  refine Run.standAt ?_
  rw [show swapsWithSole [.Tuple es k tpos] e pos.line F.env = pure false from hs, pureBind, if_neg Bool.false_ne_true]
  refine Run.bind (h σ ρ s rel) fun v σ₁ ρ₁ s₁ w _ rel₁ x₁ r => ?_
  rw [hsw, pureBind]
  show Run K F (do rule "assign.swapped-stores"; let items ← unpackItems w (names.map Str.ofString).length none; assignInOrder ((names.map Str.ofString).reverse.map fun n => bindName F.env n) items.reverse; (pure Flow.next : Sem Flow)) _ _ ρ₁ s₁
  refine Run.of_wp fun hne => ?_
  cases v with
  | tup vs =>
    by_cases hl : vs.length = names.length
    · obtain ⟨_, a, ws, rfl, ht, rl⟩ := Rep.tup_iff.mp r
      have e1 : (swapT names (.tup vs) >>= fun _ => (Pure.pure Fl.next : M Fl)) σ₁ = (setAll names.reverse vs.reverse >>= fun _ => (Pure.pure Fl.next : M Fl)) σ₁ := by
        rw [M.bind_def, M.bind_def]; simp only [swapT, if_pos hl]
      rw [e1] at hne ⊢
      refine wpAny_bind (wpAny_rule (wpAny_bind ?_))
      have hn : (names.map Str.ofString).length = ws.toArray.size := by rw [List.length_map, List.size_toArray, rl.length, hl]
      rw [hn]
      refine unpackItems_tuple (fk.hd hnh) ht fun h' hx => ?_
      have hkp := kept_of_extBut hx
      have rel' : Rel K F σ₁ ρ₁ { s₁ with heap := h' } := rel₁.kept hkp rfl rfl
      have x' : Ext F.mine ρ₁ ρ₁ s₁.heap h' := Ext.kept hkp
      have e2 : (names.map Str.ofString).reverse.map (fun n => bindName F.env n) = names.reverse.map fun n => bindName F.env (Str.ofString n) := by
        rw [← List.map_reverse, List.map_map]; rfl
      rw [e2]
      have key := run_setAll fk names.reverse vs.reverse ws.reverse σ₁ ρ₁ { s₁ with heap := h' } rel' (rl.mono x').reverse (by simp [hl]) (fun y hy => hk y (by simpa using hy))
      refine wpAny_bind (wpAny_mono (Run.bindWp (P := fun _ s₂ => wpAny (model K.prog K.w) F.A (pure Flow.next) (QO K F (FlRep K) ((setAll names.reverse vs.reverse >>= fun _ => (Pure.pure Fl.next : M Fl)) σ₁) ρ₁ s₁.heap) (EO K F ((setAll names.reverse vs.reverse >>= fun _ => (Pure.pure Fl.next : M Fl)) σ₁) ρ₁ s₁.heap) s₂) key hne ?_) (fun _ _ q => q) (fun _ _ q => q.up x'))
      intro u σ₂ ρ₂ s₂ _ _ e4 rel₂ x₂ _
      rw [e4]
      exact wpAny_pure ⟨.next, σ₂, ρ₂, rfl, rel₂, x'.trans x₂, rfl⟩
    · exact absurd (by rw [M.bind_def]; simp only [swapT, if_neg hl]; rfl) hne
  | _ => exact absurd (by rw [M.bind_def]; rfl) hne

/-! ### x += y, where x is a name and y no list -/
end Mine


/-! part F21 -/
set_option autoImplicit false
set_option maxRecDepth 100000
set_option linter.unusedVariables false
open PySem PySem.W PyProof.Rows
namespace Mine

variable {K : Glo} {F : Frm}
/-! ### the names that a comprehension shares with its frame -/
theorem kne_cell {k : Option NameKind} (h : k = some .cell) : k ≠ some .local := by rw [h]; decide
theorem ck_nil {cells : List (Str × Addr)} : ∀ p ∈ ([] : List (Str × Addr)), cells.lookup p.1 = some p.2 := by intro p hp; cases hp
theorem ck_cons {cells cl : List (Str × Addr)} {x : Str} {a : Addr} (h : cells.lookup x = some a) (hs : ∀ p ∈ cl, cells.lookup p.1 = some p.2) : ∀ p ∈ (x, a) :: cl, cells.lookup p.1 = some p.2 := by
  intro p hp
  rcases List.mem_cons.mp hp with rfl | hp
  · exact h
  · exact hs p hp
theorem ck_cells {cl cells : List (Str × Addr)} (hall : ∀ p ∈ cl, cells.lookup p.1 = some p.2) : ∀ x c, cl.lookup x = some c → cells.lookup x = some c :=
  fun x c h => hall (x, c) (mem_of_lookup h)

end Mine


/-! part S1 -/
set_option autoImplicit false
set_option maxRecDepth 100000
set_option linter.unusedVariables false
open PySem PySem.W PyProof.Rows
namespace Mine

/-! ### the model's sort, asked of a plain order -/
noncomputable def krun {α : Type} (ask : Nat → Nat → Bool) : KasT α → α
  | .ret a => a
  | .ask i j k => krun ask (k (ask i j))
theorem krun_bind {α β : Type} (ask : Nat → Nat → Bool) (f : α → KasT β) : ∀ t : KasT α, krun ask (t.bind f) = krun ask (f (krun ask t))
  | .ret a => rfl
  | .ask i j k => by
    show krun ask ((k (ask i j)).bind f) = _
    rw [krun_bind ask f (k (ask i j))]; rfl
structure Ask (n : Nat) (ask : Nat → Nat → Bool) : Prop where
  asymm : ∀ i j, i < n → j < n → ask i j = true → ask j i = false
  trans : ∀ i j k, i < n → j < n → k < n → ask j i = false → ask k j = false → ask k i = false
noncomputable def bf (ask : Nat → Nat → Bool) (i j : Nat) : Prop := ask i j = true ∨ (ask i j = false ∧ ask j i = false ∧ i < j)

section
variable {n : Nat} {ask : Nat → Nat → Bool}
theorem Ask.lt_le (A : Ask n ask) {i j k : Nat} (hi : i < n) (hj : j < n) (hk : k < n) (h1 : ask i j = true) (h2 : ask k j = false) : ask i k = true := by
  cases e : ask i k with
  | true => rfl
  | false => have := A.trans j k i hj hk hi h2 e; rw [h1] at this; cases this
theorem Ask.le_lt (A : Ask n ask) {i j k : Nat} (hi : i < n) (hj : j < n) (hk : k < n) (h1 : ask j i = false) (h2 : ask j k = true) : ask i k = true := by
  cases e : ask i k with
  | true => rfl
  | false => have := A.trans k i j hk hi hj e h1; rw [h2] at this; cases this
theorem bf.not (A : Ask n ask) {i j : Nat} (hi : i < n) (hj : j < n) (h : bf ask i j) : ask j i = false := by
  rcases h with h | h
  · exact A.asymm i j hi hj h
  · exact h.2.1
theorem bf.trans (A : Ask n ask) {i j k : Nat} (hi : i < n) (hj : j < n) (hk : k < n) (h1 : bf ask i j) (h2 : bf ask j k) : bf ask i k := by
  rcases h1 with h1 | ⟨h1, h1', h1''⟩
  · exact .inl (A.lt_le hi hj hk h1 (bf.not A hj hk h2))
  · rcases h2 with h2 | ⟨h2, h2', h2''⟩
    · exact .inl (A.le_lt hi hj hk h1' h2)
    · exact .inr ⟨A.trans k j i hk hj hi h2 h1, A.trans i j k hi hj hk h1' h2', by (first | lia | omega)⟩

noncomputable def at0 (p : Array Nat) (k : Nat) : Nat := p.getD k 0
theorem at0_eq (p : Array Nat) (k : Nat) : at0 p k = p[k]?.getD 0 := by
  unfold at0; by_cases h : k < p.size <;> simp [Array.getD, h]
theorem at_rev {p : Array Nat} {i j : Nat} (hj : j ≤ p.size) (k : Nat) : at0 (kas_rev p i j) k = if i ≤ k ∧ k < j then at0 p (i + j - 1 - k) else at0 p k := by
  rw [at0_eq]; unfold kas_rev
  rw [getElem?_mirror_all hj]
  split <;> rw [at0_eq]
theorem at_bub {p : Array Nat} {src d : Nat} (hs : src < p.size) (hd : d ≤ src) (k : Nat) : at0 (bubble p src d) k = if k = src - d then at0 p src else if src - d < k ∧ k ≤ src then at0 p (k - 1) else at0 p k := by
  rw [at0_eq, getElem?_bubble hs d hd]
  repeat' split
  all_goals rw [at0_eq]

/-- the first m places hold the first m, the others stand where they stood -/
noncomputable def Fix (n : Nat) (p : Array Nat) (m : Nat) : Prop := p.size = n ∧ ∀ k, k < n → (m ≤ k → at0 p k = k) ∧ (k < m → at0 p k < m)
theorem Fix.up {p : Array Nat} {a m : Nat} (h : Fix n p a) (ha : a ≤ m) : Fix n p m :=
  ⟨h.1, fun k hk => ⟨fun hm => (h.2 k hk).1 (by (first | lia | omega)), fun hm => by
    by_cases hka : k < a
    · have := (h.2 k hk).2 hka; (first | lia | omega)
    · rw [(h.2 k hk).1 (by (first | lia | omega))]; exact hm⟩⟩
theorem Fix.lt {p : Array Nat} {a k : Nat} (h : Fix n p a) (ha : a ≤ n) (hk : k < n) : at0 p k < n := by
  by_cases hka : k < a
  · have := (h.2 k hk).2 hka; (first | lia | omega)
  · rw [(h.2 k hk).1 (by (first | lia | omega))]; exact hk
theorem Fix.rev {p : Array Nat} {a i j : Nat} (h : Fix n p a) (ha : a ≤ n) (hj : j ≤ a) : Fix n (kas_rev p i j) a := by
  refine ⟨(kas_rev_size i j).trans h.1, fun k hk => ?_⟩
  rw [at_rev (by rw [h.1]; (first | lia | omega))]
  refine ⟨fun hm => ?_, fun hm => ?_⟩
  · rw [if_neg (by (first | lia | omega))]; exact (h.2 k hk).1 hm
  · split
    · exact (h.2 _ (by (first | lia | omega))).2 (by (first | lia | omega))
    · exact (h.2 k hk).2 hm

noncomputable def SP (ask : Nat → Nat → Bool) (p : Array Nat) (m : Nat) : Prop := ∀ i j, i < j → j < m → bf ask (at0 p i) (at0 p j)
noncomputable def DP (ask : Nat → Nat → Bool) (p : Array Nat) (m : Nat) : Prop := ∀ i j, i < j → j < m → bf ask (at0 p j) (at0 p i)

theorem asc_ok (A : Ask n ask) {p : Array Nat} : ∀ (f a : Nat), 1 ≤ a → a + f ≤ n → Fix n p a → SP ask p a →
    a ≤ krun ask (kas_asc p f a) ∧ krun ask (kas_asc p f a) ≤ a + f ∧ SP ask p (krun ask (kas_asc p f a)) ∧
    (krun ask (kas_asc p f a) < a + f → ask (at0 p (krun ask (kas_asc p f a))) (at0 p (krun ask (kas_asc p f a) - 1)) = true)
  | 0, a, _, _, _, hs => ⟨Nat.le_refl _, Nat.le_refl _, hs, fun h => absurd h (Nat.lt_irrefl _)⟩
  | f + 1, a, h1, hf, hF, hs => by
    show _ ≤ krun ask (if ask (at0 p a) (at0 p (a - 1)) = true then KasT.ret a else kas_asc p f (a + 1)) ∧ krun ask (if ask (at0 p a) (at0 p (a - 1)) = true then KasT.ret a else kas_asc p f (a + 1)) ≤ _ ∧
      SP ask p (krun ask (if ask (at0 p a) (at0 p (a - 1)) = true then KasT.ret a else kas_asc p f (a + 1))) ∧
      (krun ask (if ask (at0 p a) (at0 p (a - 1)) = true then KasT.ret a else kas_asc p f (a + 1)) < _ → ask (at0 p (krun ask (if ask (at0 p a) (at0 p (a - 1)) = true then KasT.ret a else kas_asc p f (a + 1)))) (at0 p (krun ask (if ask (at0 p a) (at0 p (a - 1)) = true then KasT.ret a else kas_asc p f (a + 1)) - 1)) = true)
    by_cases hc : ask (at0 p a) (at0 p (a - 1)) = true
    · rw [if_pos hc]
      exact ⟨Nat.le_refl _, Nat.le_add_right _ _, hs, fun _ => hc⟩
    · rw [if_neg hc]
      have hc' : ask (at0 p a) (at0 p (a - 1)) = false := by simpa using hc
      have ea : at0 p a = a := (hF.2 a (by (first | lia | omega))).1 (Nat.le_refl _)
      have el : at0 p (a - 1) < a := (hF.2 (a - 1) (by (first | lia | omega))).2 (by (first | lia | omega))
      have hb : bf ask (at0 p (a - 1)) (at0 p a) := by
        cases e : ask (at0 p (a - 1)) (at0 p a) with
        | true => exact .inl e
        | false => exact .inr ⟨e, hc', by (first | lia | omega)⟩
      have hs' : SP ask p (a + 1) := by
        intro i j hij hj
        by_cases hja : j < a
        · exact hs i j hij hja
        · have : j = a := by (first | lia | omega)
          subst this
          by_cases hi : i = j - 1
          · subst hi; exact hb
          · exact bf.trans A (hF.lt (by (first | lia | omega)) (by (first | lia | omega))) (by (first | lia | omega)) (by (first | lia | omega)) (hs i (j - 1) (by (first | lia | omega)) (by (first | lia | omega))) hb
      obtain ⟨r1, r2, r3, r4⟩ := asc_ok A f (a + 1) (by (first | lia | omega)) (by (first | lia | omega)) (hF.up (by (first | lia | omega))) hs'
      exact ⟨by (first | lia | omega), by (first | lia | omega), r3, fun h => r4 (by (first | lia | omega))⟩

/-- the way down: pending equal ones stand behind -/
structure Dn (n : Nat) (ask : Nat → Nat → Bool) (p : Array Nat) (c q : Nat) : Prop where
  fix : Fix n p c
  le : c ≤ n
  qc : q + 1 ≤ c
  one : ∀ i j, i < j → j < c - (q + 1) → bf ask (at0 p j) (at0 p i)
  two : ∀ i j, i < c - (q + 1) → c - (q + 1) ≤ j → j < c → ask (at0 p j) (at0 p i) = true
  three : ∀ i j, c - (q + 1) ≤ i → i < j → j < c → at0 p i < at0 p j ∧ ask (at0 p i) (at0 p j) = false ∧ ask (at0 p j) (at0 p i) = false

theorem Dn.turn {p : Array Nat} {c q : Nat} (A : Ask n ask) (h : Dn n ask p c q) : Fix n (kas_rev p (c - (q + 1)) c) c ∧ DP ask (kas_rev p (c - (q + 1)) c) c := by
  have hc := h.le
  have hq := h.qc
  have hsz := h.fix.1
  refine ⟨h.fix.rev hc (Nat.le_refl _), fun i j hij hj => ?_⟩
  rw [at_rev (by (first | lia | omega)), at_rev (by (first | lia | omega))]
  by_cases hi : c - (q + 1) ≤ i
  · rw [if_pos ⟨by (first | lia | omega), hj⟩, if_pos ⟨hi, by (first | lia | omega)⟩]
    obtain ⟨t1, t2, t3⟩ := h.three (c - (q + 1) + c - 1 - j) (c - (q + 1) + c - 1 - i) (by (first | lia | omega)) (by (first | lia | omega)) (by (first | lia | omega))
    exact .inr ⟨t2, t3, t1⟩
  · by_cases hj2 : c - (q + 1) ≤ j
    · rw [if_pos ⟨hj2, hj⟩, if_neg (by (first | lia | omega))]
      exact .inl (h.two i _ (by (first | lia | omega)) (by (first | lia | omega)) (by (first | lia | omega)))
    · rw [if_neg (by (first | lia | omega)), if_neg (by (first | lia | omega))]
      exact h.one i j hij (by (first | lia | omega))
theorem Dn.flat {p : Array Nat} {c : Nat} (h : Dn n ask p c 0) : DP ask p c := by
  intro i j hij hj
  have hq := h.qc
  by_cases hj2 : j < c - 1
  · exact h.one i j hij (by (first | lia | omega))
  · exact .inl (h.two i j (by (first | lia | omega)) (by (first | lia | omega)) hj)

/-- a lesser one behind a falling row -/
theorem Dn.next {p : Array Nat} {c : Nat} (hF : Fix n p c) (hc : c < n) (hd : DP ask p c) (hx : ∀ i, i < c → ask (at0 p c) (at0 p i) = true) : Dn n ask p (c + 1) 0 where
  fix := hF.up (by (first | lia | omega))
  le := by (first | lia | omega)
  qc := by (first | lia | omega)
  one := fun i j hij hj => hd i j hij (by (first | lia | omega))
  two := fun i j hi h1 h2 => by
    have : j = c := by (first | lia | omega)
    subst this; exact hx i (by (first | lia | omega))
  three := fun i j h1 h2 h3 => by (first | lia | omega)

theorem desc_ok (A : Ask n ask) : ∀ (f : Nat) (p : Array Nat) (c q : Nat), Dn n ask p c q → c + f = n →
    Dn n ask (krun ask (kas_desc f p c q)).1 (krun ask (kas_desc f p c q)).2.1 (krun ask (kas_desc f p c q)).2.2 ∧ c ≤ (krun ask (kas_desc f p c q)).2.1
  | 0, p, c, q, h, _ => ⟨h, Nat.le_refl _⟩
  | f + 1, p, c, q, h, hf => by
    have hq := h.qc
    have ec : at0 p c = c := (h.fix.2 c (by (first | lia | omega))).1 (Nat.le_refl _)
    have hl1 : at0 p (c - 1) < n := h.fix.lt h.le (by (first | lia | omega))
    have hmin : ∀ i, i < c → ask (at0 p i) (at0 p (c - 1)) = false := by
      intro i hi
      by_cases h1 : i < c - (q + 1)
      · exact A.asymm _ _ hl1 (h.fix.lt h.le (by (first | lia | omega))) (h.two i (c - 1) h1 (by (first | lia | omega)) (by (first | lia | omega)))
      · by_cases h2 : i = c - 1
        · subst h2
          cases e : ask (at0 p (c - 1)) (at0 p (c - 1)) with
          | false => rfl
          | true => have := A.asymm _ _ hl1 hl1 e; rw [e] at this; cases this
        · exact (h.three i (c - 1) (by (first | lia | omega)) (by (first | lia | omega)) (by (first | lia | omega))).2.1
    have hkd : krun ask (kas_desc (f + 1) p c q) = krun ask (if ask (at0 p c) (at0 p (c - 1)) = true then (if q > 0 then kas_desc f (kas_rev p (c - (q + 1)) c) (c + 1) 0 else kas_desc f p (c + 1) 0)
        else .ask (at0 p (c - 1)) (at0 p c) fun d => if d = true then .ret (p, c, q) else kas_desc f p (c + 1) (q + 1)) := rfl
    rw [hkd]
    by_cases hc : ask (at0 p c) (at0 p (c - 1)) = true
    · rw [if_pos hc]
      have hall : ∀ i, i < c → ask (at0 p c) (at0 p i) = true := fun i hi => A.lt_le (by (first | lia | omega)) hl1 (h.fix.lt h.le (by (first | lia | omega))) hc (hmin i hi)
      by_cases hq0 : q > 0
      · rw [if_pos hq0]
        obtain ⟨t1, t2⟩ := h.turn A
        have e2 : at0 (kas_rev p (c - (q + 1)) c) c = at0 p c := by rw [at_rev (by rw [h.fix.1]; (first | lia | omega)), if_neg (by (first | lia | omega))]
        have hd := Dn.next t1 (by (first | lia | omega)) t2 (fun i hi => by
          rw [e2, at_rev (by rw [h.fix.1]; (first | lia | omega))]
          split
          · exact hall _ (by (first | lia | omega))
          · exact hall i hi)
        obtain ⟨r1, r2⟩ := desc_ok A f _ (c + 1) 0 hd (by (first | lia | omega))
        exact ⟨r1, by (first | lia | omega)⟩
      · rw [if_neg hq0]
        have : q = 0 := by (first | lia | omega)
        subst this
        obtain ⟨r1, r2⟩ := desc_ok A f _ (c + 1) 0 (Dn.next h.fix (by (first | lia | omega)) h.flat hall) (by (first | lia | omega))
        exact ⟨r1, by (first | lia | omega)⟩
    · rw [if_neg hc]
      have hc' : ask (at0 p c) (at0 p (c - 1)) = false := by simpa using hc
      show Dn n ask (krun ask (if ask (at0 p (c - 1)) (at0 p c) = true then KasT.ret (p, c, q) else kas_desc f p (c + 1) (q + 1))).1 _ _ ∧ _
      by_cases hb : ask (at0 p (c - 1)) (at0 p c) = true
      · have e : krun ask (if ask (at0 p (c - 1)) (at0 p c) = true then KasT.ret (p, c, q) else kas_desc f p (c + 1) (q + 1)) = (p, c, q) := by rw [if_pos hb]; rfl
        have e' : krun ask (KasT.ask (at0 p (c - 1)) (at0 p c) fun d => if d = true then KasT.ret (p, c, q) else kas_desc f p (c + 1) (q + 1)) = (p, c, q) := e
        rw [e, e']
        exact ⟨h, Nat.le_refl _⟩
      · have hb' : ask (at0 p (c - 1)) (at0 p c) = false := by simpa using hb
        have e : krun ask (if ask (at0 p (c - 1)) (at0 p c) = true then KasT.ret (p, c, q) else kas_desc f p (c + 1) (q + 1)) = krun ask (kas_desc f p (c + 1) (q + 1)) := by rw [if_neg hb]
        have e' : krun ask (KasT.ask (at0 p (c - 1)) (at0 p c) fun d => if d = true then KasT.ret (p, c, q) else kas_desc f p (c + 1) (q + 1)) = krun ask (kas_desc f p (c + 1) (q + 1)) := e
        rw [e, e']
        have hd : Dn n ask p (c + 1) (q + 1) := by
          refine ⟨h.fix.up (by (first | lia | omega)), by (first | lia | omega), by (first | lia | omega), fun i j hij hj => h.one i j hij (by (first | lia | omega)), fun i j hi h1 h2 => ?_, fun i j h1 h2 h3 => ?_⟩
          · by_cases hj : j < c
            · exact h.two i j (by (first | lia | omega)) (by (first | lia | omega)) hj
            · have : j = c := by (first | lia | omega)
              subst this
              exact A.le_lt (by (first | lia | omega)) hl1 (h.fix.lt h.le (by (first | lia | omega))) hb' (h.two i (j - 1) (by (first | lia | omega)) (by (first | lia | omega)) (by (first | lia | omega)))
          · by_cases hj : j < c
            · exact h.three i j (by (first | lia | omega)) h2 hj
            · have : j = c := by (first | lia | omega)
              subst this
              have hil : at0 p i < n := h.fix.lt h.le (by (first | lia | omega))
              refine ⟨by rw [ec]; exact (h.fix.2 i (by (first | lia | omega))).2 (by (first | lia | omega)), ?_, ?_⟩
              · -- ask p[i] p[c] = false: p[c] ≤ p[c-1] ≤ p[i]
                exact A.trans _ _ _ (by (first | lia | omega)) hl1 hil hb' (hmin i (by (first | lia | omega)))
              · -- ask p[c] p[i] = false: p[i] ≤ p[c-1] ≤ p[c]
                by_cases hi2 : i = j - 1
                · subst hi2; exact hc'
                · exact A.trans _ _ _ hil hl1 (by (first | lia | omega)) (h.three i (j - 1) (by (first | lia | omega)) (by (first | lia | omega)) (by (first | lia | omega))).2.2 hc'
        obtain ⟨r1, r2⟩ := desc_ok A f p (c + 1) (q + 1) hd (by (first | lia | omega))
        exact ⟨r1, by (first | lia | omega)⟩

theorem rev_perm (p : Array Nat) (i j : Nat) : (kas_rev p i j).Perm p := mirror_perm ..
theorem desc_perm : ∀ (f : Nat) (p : Array Nat) (c q : Nat), (krun ask (kas_desc f p c q)).1.Perm p
  | 0, p, c, q => Array.Perm.refl _
  | f + 1, p, c, q => by
    have hkd : krun ask (kas_desc (f + 1) p c q) = krun ask (if ask (at0 p c) (at0 p (c - 1)) = true then (if q > 0 then kas_desc f (kas_rev p (c - (q + 1)) c) (c + 1) 0 else kas_desc f p (c + 1) 0)
        else .ask (at0 p (c - 1)) (at0 p c) fun d => if d = true then .ret (p, c, q) else kas_desc f p (c + 1) (q + 1)) := rfl
    rw [hkd]
    split
    · split
      · exact (desc_perm f _ _ _).trans (rev_perm ..)
      · exact desc_perm f _ _ _
    · have e' : krun ask (KasT.ask (at0 p (c - 1)) (at0 p c) fun d => if d = true then KasT.ret (p, c, q) else kas_desc f p (c + 1) (q + 1)) = krun ask (if ask (at0 p (c - 1)) (at0 p c) = true then KasT.ret (p, c, q) else kas_desc f p (c + 1) (q + 1)) := rfl
      rw [e']
      split
      · exact Array.Perm.refl _
      · exact desc_perm f _ _ _

theorem DP.turn {p : Array Nat} {c : Nat} (h : DP ask p c) (hc : c ≤ p.size) : SP ask (kas_rev p 0 c) c := by
  intro i j hij hj
  rw [at_rev hc, at_rev hc, if_pos ⟨by (first | lia | omega), by (first | lia | omega)⟩, if_pos ⟨by (first | lia | omega), hj⟩]
  exact h _ _ (by (first | lia | omega)) (by (first | lia | omega))
theorem SP.turn {p : Array Nat} {c : Nat} (h : SP ask p c) (hc : c ≤ p.size) : DP ask (kas_rev p 0 c) c := by
  intro i j hij hj
  rw [at_rev hc, at_rev hc, if_pos ⟨by (first | lia | omega), hj⟩, if_pos ⟨by (first | lia | omega), by (first | lia | omega)⟩]
  exact h _ _ (by (first | lia | omega)) (by (first | lia | omega))

noncomputable def Good (n : Nat) (ask : Nat → Nat → Bool) (p₀ : Array Nat) (r : Nat × Array Nat) : Prop := 1 ≤ r.1 ∧ r.1 ≤ n ∧ Fix n r.2 r.1 ∧ SP ask r.2 r.1 ∧ r.2.Perm p₀

theorem tail3_ok (A : Ask n ask) {p : Array Nat} {c : Nat} (hF : Fix n p c) (hc : c ≤ n) (h1 : 1 ≤ c) (hd : DP ask p c) : Good n ask p (krun ask (kas_tail3 c n p)) := by
  unfold kas_tail3
  rw [krun_bind]
  have hF2 : Fix n (kas_rev p 0 c) c := hF.rev hc (Nat.le_refl _)
  obtain ⟨r1, r2, r3, r4⟩ := asc_ok A (p := kas_rev p 0 c) (n - c) c h1 (by (first | lia | omega)) hF2 (hd.turn (by rw [hF.1]; exact hc))
  show Good n ask p (krun ask (kas_asc (kas_rev p 0 c) (n - c) c), kas_rev p 0 c)
  exact ⟨by dsimp only; (first | lia | omega), by dsimp only; (first | lia | omega), hF2.up r1, r3, rev_perm ..⟩
theorem descPart_ok (A : Ask n ask) {p : Array Nat} {m : Nat} (hF : Fix n p m) (hm : m < n) (h1 : 1 ≤ m) (hd : DP ask p m) (hx : ∀ i, i < m → ask (at0 p m) (at0 p i) = true) : Good n ask p (krun ask (kas_descPart m n p)) := by
  unfold kas_descPart
  rw [krun_bind]
  obtain ⟨r1, r2⟩ := desc_ok A (n - (m + 1)) p (m + 1) 0 (Dn.next hF hm hd hx) (by (first | lia | omega))
  have r3 := desc_perm (ask := ask) (n - (m + 1)) p (m + 1) 0
  generalize krun ask (kas_desc (n - (m + 1)) p (m + 1) 0) = r at r1 r2 r3 ⊢
  obtain ⟨p', c, q⟩ := r
  dsimp only at r1 r2 r3 ⊢
  by_cases hq : q > 0
  · rw [if_pos hq]
    obtain ⟨t1, t2⟩ := r1.turn A
    obtain ⟨g1, g2, g3, g4, g5⟩ := tail3_ok A t1 r1.le (by (first | lia | omega)) t2
    exact ⟨g1, g2, g3, g4, g5.trans ((rev_perm ..).trans r3)⟩
  · rw [if_neg hq]
    have : q = 0 := by (first | lia | omega)
    subst this
    obtain ⟨g1, g2, g3, g4, g5⟩ := tail3_ok A r1.fix r1.le (by (first | lia | omega)) r1.flat
    exact ⟨g1, g2, g3, g4, g5.trans r3⟩
theorem count_ok (A : Ask n ask) {p : Array Nat} (hn : 1 ≤ n) (hF : Fix n p 1) : Good n ask p (krun ask (kas_count n p)) := by
  unfold kas_count
  rw [krun_bind]
  obtain ⟨r1, r2, r3, r4⟩ := asc_ok A (p := p) (n - 1) 1 (Nat.le_refl _) (by (first | lia | omega)) hF (fun i j h1 h2 => by (first | lia | omega))
  generalize krun ask (kas_asc p (n - 1) 1) = m at r1 r2 r3 r4 ⊢
  by_cases hm : m = n
  · subst hm
    rw [if_pos (by simp)]
    exact ⟨hn, Nat.le_refl _, hF.up r1, r3, Array.Perm.refl _⟩
  · rw [if_neg (by simpa using hm)]
    have hmn : m < n := by (first | lia | omega)
    have hx := r4 (by (first | lia | omega))
    have hFm := hF.up (m := m) r1
    have em : at0 p m = m := (hFm.2 m hmn).1 (Nat.le_refl _)
    have lt0 : ∀ k, k < n → at0 p k < n := fun k hk => hFm.lt (by (first | lia | omega)) hk
    by_cases h1 : m > 1
    · rw [if_pos h1]
      show Good n ask p (krun ask (if ask (at0 p 0) (at0 p (m - 1)) = true then KasT.ret (m, p) else kas_descPart m n (kas_rev p 0 m)))
      by_cases hb : ask (at0 p 0) (at0 p (m - 1)) = true
      · rw [if_pos hb]
        exact ⟨r1, Nat.le_of_lt hmn, hFm, r3, Array.Perm.refl _⟩
      · rw [if_neg hb]
        have hb' : ask (at0 p 0) (at0 p (m - 1)) = false := by simpa using hb
        have hsz : m ≤ p.size := by rw [hF.1]; (first | lia | omega)
        -- all are equal
        have heq : ∀ i, i < m → ask (at0 p i) (at0 p (m - 1)) = false := by
          intro i hi
          have h0 : ask (at0 p i) (at0 p 0) = false := by
            by_cases hi0 : i = 0
            · subst hi0
              cases e : ask (at0 p 0) (at0 p 0) with
              | false => rfl
              | true => have := A.asymm _ _ (lt0 0 (by (first | lia | omega))) (lt0 0 (by (first | lia | omega))) e; rw [e] at this; cases this
            · exact bf.not A (lt0 0 (by (first | lia | omega))) (lt0 i (by (first | lia | omega))) (r3 0 i (by (first | lia | omega)) hi)
          exact A.trans _ _ _ (lt0 _ (by (first | lia | omega))) (lt0 0 (by (first | lia | omega))) (lt0 i (by (first | lia | omega))) hb' h0
        obtain ⟨g1, g2, g3, g4, g5⟩ := descPart_ok A (p := kas_rev p 0 m) (hFm.rev (by (first | lia | omega)) (Nat.le_refl _)) hmn (by (first | lia | omega)) (SP.turn r3 hsz) (fun i hi => by
          rw [at_rev hsz, at_rev hsz, if_neg (by (first | lia | omega)), if_pos ⟨by (first | lia | omega), hi⟩]
          exact A.lt_le (by (first | lia | omega)) (lt0 _ (by (first | lia | omega))) (lt0 _ (by (first | lia | omega))) hx (heq _ (by (first | lia | omega))))
        exact ⟨g1, g2, g3, g4, g5.trans (rev_perm ..)⟩
    · rw [if_neg h1]
      have : m = 1 := by (first | lia | omega)
      subst this
      exact descPart_ok A hFm hmn (Nat.le_refl _) (fun i j h1 h2 => by (first | lia | omega)) (fun i hi => by
        have : i = 0 := by (first | lia | omega)
        subst this; exact hx)

theorem place_ok (A : Ask n ask) {p : Array Nat} {k : Nat} (hk : k < n) (hF : Fix n p k) (hs : SP ask p k) : ∀ (f l r : Nat), l ≤ r → r ≤ k → r - l ≤ f → (∀ i, i < l → ask (at0 p k) (at0 p i) = false) → (∀ i, r ≤ i → i < k → ask (at0 p k) (at0 p i) = true) →
    krun ask (kas_place p k f l r) ≤ k ∧ (∀ i, i < krun ask (kas_place p k f l r) → ask (at0 p k) (at0 p i) = false) ∧ (∀ i, krun ask (kas_place p k f l r) ≤ i → i < k → ask (at0 p k) (at0 p i) = true)
  | 0, l, r, h1, h2, h3, h4, h5 => by
    have : l = r := by (first | lia | omega)
    subst this
    exact ⟨h2, h4, h5⟩
  | f + 1, l, r, h1, h2, h3, h4, h5 => by
    have lt0 : ∀ i, i < n → at0 p i < n := fun i hi => hF.lt (by (first | lia | omega)) hi
    have e : krun ask (kas_place p k (f + 1) l r) = krun ask (if l ≥ r then KasT.ret l else if ask (at0 p k) (at0 p ((l + r) / 2)) = true then kas_place p k f l ((l + r) / 2) else kas_place p k f ((l + r) / 2 + 1) r) := by
      rw [kas_place]
      split
      · rfl
      · rfl
    rw [e]
    by_cases hlr : l ≥ r
    · rw [if_pos hlr]
      have : l = r := by (first | lia | omega)
      subst this
      exact ⟨h2, h4, h5⟩
    · rw [if_neg hlr]
      by_cases hb : ask (at0 p k) (at0 p ((l + r) / 2)) = true
      · rw [if_pos hb]
        refine place_ok A hk hF hs f l ((l + r) / 2) (by (first | lia | omega)) (by (first | lia | omega)) (by (first | lia | omega)) h4 fun i hi hik => ?_
        by_cases hm : i = (l + r) / 2
        · subst hm; exact hb
        · exact A.lt_le (lt0 k hk) (lt0 _ (by (first | lia | omega))) (lt0 i (by (first | lia | omega))) hb (bf.not A (lt0 _ (by (first | lia | omega))) (lt0 i (by (first | lia | omega))) (hs _ i (by (first | lia | omega)) hik))
      · rw [if_neg hb]
        have hb' : ask (at0 p k) (at0 p ((l + r) / 2)) = false := by simpa using hb
        refine place_ok A hk hF hs f ((l + r) / 2 + 1) r (by (first | lia | omega)) h2 (by (first | lia | omega)) (fun i hi => ?_) h5
        by_cases hm : i = (l + r) / 2
        · subst hm; exact hb'
        · exact A.trans _ _ _ (lt0 i (by (first | lia | omega))) (lt0 _ (by (first | lia | omega))) (lt0 k hk) (bf.not A (lt0 i (by (first | lia | omega))) (lt0 _ (by (first | lia | omega))) (hs i _ (by (first | lia | omega)) (by (first | lia | omega)))) hb'

theorem bin_ok (A : Ask n ask) : ∀ (f : Nat) (p : Array Nat) (k : Nat), k + f = n → Fix n p k → SP ask p k → Fix n (krun ask (kas_bin f p k)) n ∧ SP ask (krun ask (kas_bin f p k)) n ∧ (krun ask (kas_bin f p k)).Perm p
  | 0, p, k, hf, hF, hs => by
    have : k = n := by (first | lia | omega)
    subst this
    exact ⟨hF, hs, Array.Perm.refl _⟩
  | f + 1, p, k, hf, hF, hs => by
    have hk : k < n := by (first | lia | omega)
    rw [kas_bin, krun_bind]
    obtain ⟨r1, r2, r3⟩ := place_ok A hk hF hs k 0 k (by (first | lia | omega)) (Nat.le_refl _) (by (first | lia | omega)) (fun i hi => by (first | lia | omega)) (fun i h1 h2 => by (first | lia | omega))
    generalize krun ask (kas_place p k k 0 k) = x at r1 r2 r3 ⊢
    have hsz := hF.1
    have ek : at0 p k = k := (hF.2 k hk).1 (Nat.le_refl _)
    have hat : ∀ i, at0 (bubble p k (k - x)) i = if i = x then at0 p k else if x < i ∧ i ≤ k then at0 p (i - 1) else at0 p i := by
      intro i
      rw [at_bub (by (first | lia | omega)) (by (first | lia | omega)), show k - (k - x) = x by (first | lia | omega)]
    have hF2 : Fix n (bubble p k (k - x)) (k + 1) := by
      refine ⟨(bubble_size ..).trans hsz, fun i hi => ?_⟩
      rw [hat]
      refine ⟨fun h => ?_, fun h => ?_⟩
      · rw [if_neg (by (first | lia | omega)), if_neg (by (first | lia | omega))]; exact (hF.2 i hi).1 (by (first | lia | omega))
      · split
        · (first | lia | omega)
        · split
          · have := (hF.2 (i - 1) (by (first | lia | omega))).2 (by (first | lia | omega)); (first | lia | omega)
          · have := (hF.2 i hi).2 (by (first | lia | omega)); (first | lia | omega)
    have hs2 : SP ask (bubble p k (k - x)) (k + 1) := by
      intro i j hij hj
      rw [hat, hat]
      by_cases hi : i < x
      · rw [if_neg (by (first | lia | omega)), if_neg (by (first | lia | omega))]
        by_cases hjx : j = x
        · rw [if_pos hjx]
          have h1 := r2 i hi
          cases e : ask (at0 p i) (at0 p k) with
          | true => exact .inl e
          | false => exact .inr ⟨e, h1, by rw [ek]; exact (hF.2 i (by (first | lia | omega))).2 (by (first | lia | omega))⟩
        · rw [if_neg hjx]
          split
          · exact hs i (j - 1) (by (first | lia | omega)) (by (first | lia | omega))
          · exact hs i j hij (by (first | lia | omega))
      · by_cases hix : i = x
        · rw [if_pos hix, if_neg (by (first | lia | omega)), if_pos ⟨by (first | lia | omega), by (first | lia | omega)⟩]
          exact .inl (r3 (j - 1) (by (first | lia | omega)) (by (first | lia | omega)))
        · rw [if_neg hix, if_pos ⟨by (first | lia | omega), by (first | lia | omega)⟩, if_neg (by (first | lia | omega)), if_pos ⟨by (first | lia | omega), by (first | lia | omega)⟩]
          exact hs (i - 1) (j - 1) (by (first | lia | omega)) (by (first | lia | omega))
    obtain ⟨q1, q2, q3⟩ := bin_ok A f (bubble p k (k - x)) (k + 1) (by (first | lia | omega)) hF2 hs2
    exact ⟨q1, q2, q3.trans (bubble_perm ..)⟩

theorem range_fix (n : Nat) : Fix n (List.toArray (List.range n)) 0 := by
  refine ⟨by simp, fun k hk => ⟨fun _ => ?_, fun h => by (first | lia | omega)⟩⟩
  rw [at0_eq]; simp [hk]

/-- the model's sort puts the items in order, like ones as they stood -/
theorem sort_ok (A : Ask n ask) (hn : 1 ≤ n) : (krun ask (kas_sort n)).size = n ∧ (krun ask (kas_sort n)).toList.Perm (List.range n) ∧ (krun ask (kas_sort n)).toList.Pairwise (bf ask) := by
  unfold kas_sort
  rw [krun_bind]
  obtain ⟨g1, g2, g3, g4, g5⟩ := count_ok A (p := List.toArray (List.range n)) hn ((range_fix n).up (by (first | lia | omega)))
  generalize krun ask (kas_count n (List.toArray (List.range n))) = r at g1 g2 g3 g4 g5 ⊢
  obtain ⟨m, p⟩ := r
  dsimp only at g1 g2 g3 g4 g5 ⊢
  have fin : ∀ q : Array Nat, Fix n q n → SP ask q n → q.Perm (List.toArray (List.range n)) → q.size = n ∧ q.toList.Perm (List.range n) ∧ q.toList.Pairwise (bf ask) := by
    intro q hF hs hp
    refine ⟨hF.1, by simpa using hp.toList, ?_⟩
    rw [List.pairwise_iff_getElem]
    intro i j hi hj hij
    have hi' : i < q.size := by simpa using hi
    have hj' : j < q.size := by simpa using hj
    have := hs i j hij (by rw [← hF.1]; exact hj')
    rw [at0_eq, at0_eq] at this
    simpa [hi', hj'] using this
  by_cases hm : m < n
  · rw [if_pos hm]
    have : max m 1 = m := by (first | lia | omega)
    rw [this]
    obtain ⟨q1, q2, q3⟩ := bin_ok A (n - m) p m (by (first | lia | omega)) g3 g4
    exact fin _ q1 q2 (q3.trans g5)
  · rw [if_neg hm]
    have : m = n := by (first | lia | omega)
    subst this
    exact fin p g3 g4 g5
end

/-! ### only places of the row are asked for -/
noncomputable def KIn {α : Type} (n : Nat) (ask : Nat → Nat → Bool) : KasT α → Prop
  | .ret _ => True
  | .ask i j k => i < n ∧ j < n ∧ KIn n ask (k (ask i j))
theorem KIn.bind {α β : Type} {n : Nat} {ask : Nat → Nat → Bool} {f : α → KasT β} : ∀ {t : KasT α}, KIn n ask t → KIn n ask (f (krun ask t)) → KIn n ask (t.bind f)
  | .ret a, _, h => h
  | .ask i j k, h, h' => ⟨h.1, h.2.1, KIn.bind h.2.2 h'⟩
theorem kasWp_runIn {α : Type} {n : Nat} {cmp : Nat → Nat → (Bool → Shared → Prop) → Shared → Prop} {ask : Nat → Nat → Bool} {s : Shared} {Q : α → Shared → Prop} (hc : ∀ i j C, i < n → j < n → C (ask i j) s → cmp i j C s) : ∀ t : KasT α, KIn n ask t → Q (krun ask t) s → t.kasWp cmp Q s
  | .ret a, _, h => h
  | .ask i j k, hk, h => hc i j _ hk.1 hk.2.1 (kasWp_runIn hc (k (ask i j)) hk.2.2 h)
section
variable {n : Nat} {ask : Nat → Nat → Bool}
noncomputable def Small (n : Nat) (p : Array Nat) : Prop := ∀ k, at0 p k < n
theorem Small.perm {p q : Array Nat} (h : Small n p) (hp : q.Perm p) : Small n q := by
  intro k
  rw [at0_eq]
  by_cases hk : k < q.size
  · have hm : q[k] ∈ p := hp.mem_iff.mp (Array.getElem_mem hk)
    obtain ⟨j, hj, e⟩ := Array.mem_iff_getElem.mp hm
    have := h j
    rw [at0_eq] at this
    simp only [hj, getElem?_pos, Option.getD_some] at this
    simp only [hk, getElem?_pos, Option.getD_some]
    (first | lia | omega)
  · have := h p.size
    rw [at0_eq] at this
    simp at this
    simp [hk]; (first | lia | omega)
theorem asc_in {p : Array Nat} (hp : Small n p) : ∀ f a, KIn n ask (kas_asc p f a)
  | 0, _ => trivial
  | f + 1, a => by
    refine ⟨hp a, hp (a - 1), ?_⟩
    dsimp only
    split
    · trivial
    · exact asc_in hp f (a + 1)
theorem desc_in : ∀ (f : Nat) (p : Array Nat) (c q : Nat), Small n p → KIn n ask (kas_desc f p c q)
  | 0, _, _, _, _ => trivial
  | f + 1, p, c, q, hp => by
    refine ⟨hp c, hp (c - 1), ?_⟩
    dsimp only
    split
    · split
      · exact desc_in f _ _ _ (hp.perm (rev_perm ..))
      · exact desc_in f _ _ _ hp
    · refine ⟨hp (c - 1), hp c, ?_⟩
      dsimp only
      split
      · trivial
      · exact desc_in f _ _ _ hp
theorem tail3_in {p : Array Nat} (hp : Small n p) (c m : Nat) : KIn n ask (kas_tail3 c m p) := by
  unfold kas_tail3
  exact KIn.bind (asc_in (hp.perm (rev_perm ..)) _ _) trivial
theorem descPart_in {p : Array Nat} (hp : Small n p) (c m : Nat) : KIn n ask (kas_descPart c m p) := by
  unfold kas_descPart
  refine KIn.bind (desc_in _ _ _ _ hp) ?_
  have hq := hp.perm (desc_perm (ask := ask) (m - (c + 1)) p (c + 1) 0)
  split
  · exact tail3_in (hq.perm (rev_perm ..)) _ _
  · exact tail3_in hq _ _
theorem count_in {p : Array Nat} (hp : Small n p) (m : Nat) : KIn n ask (kas_count m p) := by
  unfold kas_count
  refine KIn.bind (asc_in hp _ _) ?_
  split
  · trivial
  · split
    · refine ⟨hp 0, hp _, ?_⟩
      dsimp only
      split
      · trivial
      · exact descPart_in (hp.perm (rev_perm ..)) _ _
    · exact descPart_in hp _ _
theorem place_in {p : Array Nat} (hp : Small n p) (k : Nat) : ∀ f l r, KIn n ask (kas_place p k f l r)
  | 0, _, _ => trivial
  | f + 1, l, r => by
    rw [kas_place]
    split
    · trivial
    · refine ⟨hp k, hp _, ?_⟩
      dsimp only
      split
      · exact place_in hp k f _ _
      · exact place_in hp k f _ _
theorem bin_in : ∀ (f : Nat) (p : Array Nat) (k : Nat), Small n p → KIn n ask (kas_bin f p k)
  | 0, _, _, _ => trivial
  | f + 1, p, k, hp => by
    rw [kas_bin]
    exact KIn.bind (place_in hp k _ _ _) (bin_in f _ _ (hp.perm (bubble_perm ..)))
theorem sort_in (A : Ask n ask) (hn : 1 ≤ n) : KIn n ask (kas_sort n) := by
  have hp : Small n (List.toArray (List.range n)) := by
    intro k
    rw [at0_eq]
    by_cases hk : k < n <;> simp [hk] <;> (first | lia | omega)
  unfold kas_sort
  refine KIn.bind (count_in hp n) ?_
  obtain ⟨g1, g2, g3, g4, g5⟩ := count_ok A (p := List.toArray (List.range n)) hn ((range_fix n).up (by (first | lia | omega)))
  split
  · exact bin_in _ _ _ (hp.perm g5)
  · trivial
end

end Mine


/-! part S2 -/
set_option autoImplicit false
set_option maxRecDepth 100000
set_option linter.unusedVariables false
open PySem PySem.W PyProof.Rows
namespace Mine

section
variable {prog : Program} {w : World} {A : Around} {E : Value → Shared → Prop} {s : Shared}

/-- the heap while the sort goes -/
noncomputable def midHeap (h : Heap) (a : Addr) (vs : List Value) : Heap := ((h.update a (Obj.mapSeq fun _ => #[])).push (seqObj "tuple" vs.toArray 0)).push (seqObj "list" #[] 0)
noncomputable def outOf (ask : Nat → Nat → Bool) (vs : List Value) : List Value := (krun ask (kas_sort vs.length)).toList.map fun i => vs.getD i Value.none

theorem sort_tree {a : Addr} {vs : List Value} {n : Nat} {κ : SortKind} {ask : Nat → Nat → Bool} {P : PySem.Fin → Shared → Prop} (ho : s.heap.get? a = some (seqObj "list" vs.toArray n)) (h2 : 2 ≤ vs.length) (h64 : vs.length < 64)
    (hκ : ∀ Q : SortKind → Shared → Prop, Q κ { s with heap := midHeap s.heap a vs } → wpAny (model prog w) A (keyKind' vs.toArray) Q E { s with heap := midHeap s.heap a vs })
    (hA : Ask vs.length ask) (hcmp : ∀ i j (C : Bool → Shared → Prop), i < vs.length → j < vs.length → C (ask i j) { s with heap := midHeap s.heap a vs } → kas_ask prog w A κ vs i j C { s with heap := midHeap s.heap a vs })
    (h : P (.done (.ret .none)) { s with heap := sortedHeap s.heap a vs (outOf ask vs).toArray }) :
    wpAny (model prog w) A (Builtin.«list.sort» ⟨[.ref a], []⟩) P E s := by
  rw [list_sort_plain]
  have ha : a < s.heap.objs.size := Heap.lt_size ho
  refine wpAny_bind (listItems_at ho rfl ?_)
  refine wpAny_bind (listUpdate_at ho rfl ?_ (by rw [List.size_toArray, sizeLine_eq]; (first | lia | omega)) (Nat.zero_le _))
  obtain ⟨e1, ho1⟩ : ∃ e1, (s.heap.update a (Obj.mapSeq fun _ => (#[] : Array Value))).get? a = some (seqObj "list" #[] e1) := ⟨_, get?_update_seq ho (fun _ => #[])⟩
  refine wpAny_bind (seqEpoch_at ho1 rfl ?_)
  refine wpAny_bind (wpAny_newTuple ?_ (by show vs.length ≤ _; rw [sizeLine_eq]; (first | lia | omega)))
  refine wpAny_bind (wpAny_newList ?_ (Nat.zero_le _))
  refine wpAny_holding ?_
  have ho6 : (midHeap s.heap a vs).get? a = some (seqObj "list" #[] e1) := by
    unfold midHeap
    rw [Heap.get?_push_ne _ _ _ (by rw [size_push', Heap.size_update]; exact Nat.ne_of_lt (Nat.lt_succ_of_lt ha)), Heap.get?_push_ne _ _ _ (by rw [Heap.size_update]; exact Nat.ne_of_lt ha)]
    exact ho1
  show wpAny (model prog w) A _ P E { s with heap := midHeap s.heap a vs }
  dsimp only
  have hn2 : ¬ vs.toArray.size < 2 := by rw [List.size_toArray]; (first | lia | omega)
  rw [if_neg hn2, if_neg hn2]
  refine wpAny_bind (hκ _ ?_)
  have est : SortSt.mk' κ (vs.toArray.zip vs.toArray) #[] 7 none = kas_st κ (pairsOf vs) (List.toArray (List.range vs.length)) := by
    have e := kas_range (pairsOf vs)
    rw [pairsOf_size] at e
    show SortSt.mk' κ (pairsOf vs) #[] 7 none = SortSt.mk' κ ((List.toArray (List.range vs.length)).map (kas_item (pairsOf vs))) #[] 7 none
    rw [e]
  have run := kas_runs (prog := prog) (w := w) (A := A) (κ := κ) (it := pairsOf vs) (E := E) (s := { s with heap := midHeap s.heap a vs }) (Q := fun _ st' s' => s' = { s with heap := midHeap s.heap a vs } ∧ ∃ p : Array Nat, p = krun ask (kas_sort vs.length) ∧ p.size = vs.length ∧ arrOf st' = p.map (kas_item (pairsOf vs)) ∧ failedOf st' = none)
    (G := fun p s' => s' = { s with heap := midHeap s.heap a vs } ∧ p = krun ask (kas_sort vs.length)) h2 h64 (fun p' st' s' a1 a2 a3 a4 => ⟨a4.1, p', a4.2, a1, a2, a3⟩)
    (kasWp_runIn (n := vs.length) (ask := ask) (fun i j C hi hj hC => by have := hcmp i j C hi hj hC; rw [kas_ask_eq] at this; exact this) _ (sort_in hA (by (first | lia | omega))) ⟨rfl, rfl⟩)
  rw [← est] at run
  refine wpAny_bind (wpAny_mono run ?_ fun _ _ e => e)
  rintro ⟨⟨⟩, st'⟩ s' ⟨rfl, p, rfl, hp, har, hf⟩
  dsimp only
  have hout : (arrOf st').map (·.2) = (outOf ask vs).toArray := by
    apply Array.toList_inj.mp
    rw [har, Array.map_map, Array.toList_map]
    exact List.map_congr_left fun i _ => by show (kas_item (pairsOf vs) i).2 = _; rw [kas_item_eq]
  rw [hout]
  have hsz : (outOf ask vs).toArray.size = vs.length := by rw [List.size_toArray]; unfold outOf; rw [List.length_map, Array.length_toList, hp]
  refine wpAny_bind (seqEpoch_at ho6 rfl ?_)
  refine wpAny_bind (listUpdate_at ho6 rfl ?_ (Nat.zero_le _) (by rw [hsz, sizeLine_eq]; (first | lia | omega)))
  rw [hf]
  simp only [bne_self_eq_false, Bool.false_eq_true, if_false]
  exact wpAny_pure h

/-- the heap behind collecting the items -/
noncomputable def colHeap (h : Heap) (vs : List Value) : Heap := ((h.push (seqObj "list" #[] 0)).update h.objs.size (Obj.mapSeq (· ++ vs.toArray))).push (seqObj "list" vs.toArray 0)
theorem sorted_tree {l : Addr} {vs : List Value} {κ : SortKind} {ask : Nat → Nat → Bool} {Q : Value → Shared → Prop} (hl : s.heap.IsList l vs.toArray) (h2 : 2 ≤ vs.length) (h64 : vs.length < 64)
    (hκ : ∀ A' E' (Q : SortKind → Shared → Prop), Q κ { s with heap := midHeap (colHeap s.heap vs) (s.heap.objs.size + 1) vs } → wpAny (model prog w) A' (keyKind' vs.toArray) Q E' { s with heap := midHeap (colHeap s.heap vs) (s.heap.objs.size + 1) vs })
    (hA : Ask vs.length ask) (hcmp : ∀ i j (C : Bool → Shared → Prop), i < vs.length → j < vs.length → C (ask i j) { s with heap := midHeap (colHeap s.heap vs) (s.heap.objs.size + 1) vs } → kas_ask prog w A.in1.in1 κ vs i j C { s with heap := midHeap (colHeap s.heap vs) (s.heap.objs.size + 1) vs })
    (h : Q (.ref (s.heap.objs.size + 1)) { s with heap := sortedAll s.heap vs (outOf ask vs).toArray }) :
    wpAny (model prog w) A (call (.builtin "sorted") [.ref l]) Q E s := by
  refine Calls.call_function_entry kind_sorted plain_sorted entry_sorted (args_sorted1 _) ?_
  unfold Builtin.«sorted»
  refine wpAny_bind (m := checkCount "sorted" 1 1 _) (wpAny_pure ?_)
  refine wpAny_bind (collect_list hl ?_ (by rw [sizeLine_eq]; (first | lia | omega)))
  refine wpAny_bind (wpAny_newList ?_ (by rw [sizeLine_eq]; (first | lia | omega)))
  have hsz : ((s.heap.push (seqObj "list" #[] 0)).update s.heap.objs.size (Obj.mapSeq (· ++ vs.toArray))).objs.size = s.heap.objs.size + 1 := by
    rw [Heap.size_update, size_push']
  have hoL : (colHeap s.heap vs).get? (s.heap.objs.size + 1) = some (seqObj "list" vs.toArray 0) := by
    unfold colHeap
    rw [← hsz]; exact Heap.get?_push_size _ rfl
  show wpAny _ _ _ _ _ { s with heap := colHeap s.heap vs }
  rw [hsz]
  refine wpAny_bind (wpAny_holding (wpAny_call_entry slot_list_sort ⟨_, hoL, rfl⟩ entry_list_sort (sort_tree (s := { s with heap := colHeap s.heap vs }) hoL h2 h64 (hκ _ _) hA hcmp ⟨_, rfl, ?_⟩) (args_list_sort _)))
  exact wpAny_pure ⟨_, rfl, h⟩
end

end Mine


/-! part S3 -/
set_option autoImplicit false
set_option maxRecDepth 100000
set_option linter.unusedVariables false
open PySem PySem.W PyProof.Rows
namespace Mine

variable {K : Glo} {F : Frm}

/-! ### sorted of tuples of ints -/
noncomputable def lexB : List Int → List Int → Bool
  | [], [] => false
  | [], _ :: _ => true
  | _ :: _, [] => false
  | a :: as, b :: bs => if a = b then lexB as bs else decide (a < b)

section
variable {prog : Program} {w : World} {A : Around} {E : Value → Shared → Prop} {s : Shared}
theorem lex_at {Q : Bool → Shared → Prop} : ∀ (xs ys : List Value) (as bs : List Int) (fin : Bool) (i : Nat), IntsAre xs as → IntsAre ys bs → (∀ c : Bool, c = (if as.take (min as.length bs.length) = bs.take (min as.length bs.length) then fin else lexB as bs) → Q c s) →
    KatLex prog w A true fin Q (xs.zip ys) i s
  | [], ys, as, bs, fin, i, hx, hy, h => by
    cases hx
    exact kat_nil (h fin (by simp))
  | x :: xs, [], as, bs, fin, i, hx, hy, h => by
    cases hy
    exact kat_nil (h fin (by simp))
  | x :: xs, y :: ys, as, bs, fin, i, hx, hy, h => by
    cases hx with
    | cons a t hx' =>
      rename_i as'
      cases hy with
      | cons b u hy' =>
        rename_i bs'
        show KatLex prog w A true fin Q ((Value.int a t, Value.int b u) :: xs.zip ys) i s
        refine kat_cons (wpAny_eqBool_int ?_)
        by_cases hab : a = b
        · subst hab
          rw [show (a == a) = true by simp]
          refine kat_yes (lex_at xs ys as' bs' fin (i + 1) hx' hy' fun c hc => h c ?_)
          rw [hc]
          simp only [List.length_cons, Nat.succ_min_succ, List.take_succ_cons, List.cons.injEq, true_and, lexB, if_true]
        · rw [show (a == b) = false by simpa using hab]
          refine kat_no ?_
          have hq : Q (decide (a < b)) s := h _ (by
            simp only [List.length_cons, Nat.succ_min_succ, List.take_succ_cons, List.cons.injEq, hab, false_and, if_false, lexB])
          by_cases hi : i = 0
          · subst hi
            exact oneLt_int hq
          · rw [show (true && i == 0) = false by simpa using hi]
            exact kat_one _ _ (PyProof.Rows.lt_int hq)
theorem lex_eq {as bs : List Int} : (if as.take (min as.length bs.length) = bs.take (min as.length bs.length) then decide (as.length < bs.length) else lexB as bs) = lexB as bs := by
  induction as generalizing bs with
  | nil => cases bs <;> simp [lexB]
  | cons a as ih =>
    cases bs with
    | nil => simp [lexB]
    | cons b bs =>
      simp only [List.length_cons, Nat.succ_min_succ, List.take_succ_cons, List.cons.injEq, lexB]
      by_cases hab : a = b
      · subst hab
        simp only [true_and, if_true, Nat.add_lt_add_iff_right]
        exact ih
      · simp [hab]
end

noncomputable def tupInts : V → Option (List Int)
  | .tup vs => match intsOf vs with
    | some (a :: as) => some (a :: as)
    | _ => none
  | _ => none
theorem tupInts_is {v : V} {t : List Int} (h : tupInts v = some t) : ∃ vs, v = .tup vs ∧ intsOf vs = some t ∧ t ≠ [] := by
  cases v with
  | tup vs =>
    unfold tupInts at h
    dsimp only at h
    cases e : intsOf vs with
    | none => rw [e] at h; cases h
    | some ns =>
      rw [e] at h
      cases ns with
      | nil => cases h
      | cons a as => cases h; exact ⟨vs, rfl, e, by simp⟩
  | _ => cases h
noncomputable def tupsOf : List V → Option (List (List Int)) := mapO tupInts
noncomputable def askT (ts : List (List Int)) (i j : Nat) : Bool := lexB (ts.getD i []) (ts.getD j [])
noncomputable def sortV (ask : Nat → Nat → Bool) (vs : List V) : List V := (krun ask (kas_sort vs.length)).toList.map fun i => vs.getD i V.none

theorem getD_rep {h : Heap} {ρ : List Addr} {vs : List V} {ws : List Value} (r : RepL K h ρ vs ws) {i : Nat} (hi : i < vs.length) : Rep K h ρ (vs.getD i V.none) (ws.getD i Value.none) := by
  obtain ⟨w, e, q⟩ := r.get? (List.getElem?_eq_getElem hi)
  have hw : i < ws.length := (List.getElem?_eq_some_iff.mp e).1
  rw [List.getD_eq_getElem?_getD, List.getD_eq_getElem?_getD, e, List.getElem?_eq_getElem hi]
  exact q
theorem maps_rep {h : Heap} {ρ : List Addr} {vs : List V} {ws : List Value} (r : RepL K h ρ vs ws) : ∀ is : List Nat, (∀ i ∈ is, i < vs.length) → RepL K h ρ (is.map fun i => vs.getD i V.none) (is.map fun i => ws.getD i Value.none)
  | [], _ => RepL.nil
  | i :: is, hi => RepL.cons (getD_rep r (hi i List.mem_cons_self)) (maps_rep r is fun j hj => hi j (List.mem_cons_of_mem _ hj))

/-- the tuples as they lie -/
theorem tups_at {h : Heap} {ρ : List Addr} : ∀ {vs : List V} {ws : List Value} {ts : List (List Int)}, RepL K h ρ vs ws → tupsOf vs = some ts → ts.length = vs.length ∧
    (∀ i, i < vs.length → ∃ a o xs n, ws.getD i Value.none = .ref a ∧ h.get? a = some o ∧ Froz o ∧ o.cls = .type "tuple" ∧ o.data = .seq xs n ∧ IntsAre xs.toList (ts.getD i []) ∧ ts.getD i [] ≠ [])
  | [], ws, ts, r, e => by cases e; exact ⟨rfl, fun i hi => by simp at hi⟩
  | v :: vs, ws, ts, r, e => by
    obtain ⟨w, ws', rfl, r1, r2⟩ := RepL.cons_iff.mp r
    obtain ⟨t, ts', e1, e2, rfl⟩ := mapO_cons e
    obtain ⟨l1, l2⟩ := tups_at r2 e2
    obtain ⟨us, rfl, e3, hne⟩ := tupInts_is e1
    obtain ⟨_, a, xs, rfl, ht, rx⟩ := Rep.tup_iff.mp r1
    obtain ⟨o, ho, hc, n, hd⟩ := ht
    refine ⟨by simp [l1], fun i hi => ?_⟩
    cases i with
    | zero => exact ⟨a, o, xs.toArray, n, rfl, ho, .inl ⟨hc, _, n, hd⟩, hc, hd, by simpa using intsOf_are rx e3, hne⟩
    | succ i => simpa using l2 i (by simpa using hi)

theorem lexB_asymm : ∀ as bs : List Int, lexB as bs = true → lexB bs as = false
  | [], [], h => by cases h
  | [], _ :: _, _ => rfl
  | _ :: _, [], h => by cases h
  | a :: as, b :: bs, h => by
    unfold lexB at h ⊢
    by_cases hab : a = b
    · subst hab
      simp only [if_true] at h ⊢
      exact lexB_asymm as bs h
    · rw [if_neg hab] at h
      rw [if_neg (Ne.symm hab)]
      simp at h ⊢; (first | lia | omega)
theorem lexB_trans : ∀ as bs cs : List Int, lexB bs as = false → lexB cs bs = false → lexB cs as = false
  | [], [], [], _, _ => rfl
  | [], _ :: _, [], _, h => by cases h
  | [], _, _ :: _, _, _ => rfl
  | _ :: _, [], _, h, _ => by cases h
  | _ :: _, _ :: _, [], _, h => by cases h
  | a :: as, b :: bs, c :: cs, h1, h2 => by
    unfold lexB at h1 h2 ⊢
    by_cases hab : b = a
    · subst hab
      simp only [if_true] at h1
      by_cases hcb : c = b
      · subst hcb
        simp only [if_true] at h2 ⊢
        exact lexB_trans as bs cs h1 h2
      · rw [if_neg hcb] at h2 ⊢
        exact h2
    · rw [if_neg hab] at h1
      by_cases hcb : c = b
      · subst hcb
        rw [if_neg hab]; exact h1
      · rw [if_neg hcb] at h2
        simp at h1 h2
        rw [if_neg (by (first | lia | omega))]
        simp; (first | lia | omega)
theorem askT_ok (ts : List (List Int)) (n : Nat) : Ask n (askT ts) := ⟨fun i j _ _ h => lexB_asymm _ _ h, fun i j k _ _ _ h1 h2 => lexB_trans _ _ _ h1 h2⟩
theorem sort_lt {n : Nat} {ask : Nat → Nat → Bool} (A : Ask n ask) (hn : 1 ≤ n) : ∀ i ∈ (krun ask (kas_sort n)).toList, i < n := by
  intro i hi
  have := (sort_ok A hn).2.1.mem_iff.mp hi
  simpa using this

theorem mid_keep {h : Heap} {ws : List Value} : ∀ b o, h.get? b = some o → (midHeap (colHeap h ws) (h.objs.size + 1) ws).get? b = some o := by
  intro b o e
  have hlt : b < h.objs.size := Heap.lt_size e
  unfold midHeap colHeap
  refine Heap.get?_push_of_some _ (Heap.get?_push_of_some _ ?_)
  rw [Heap.get?_update_ne _ _ _ _ (Nat.ne_of_lt (Nat.lt_succ_of_lt hlt))]
  refine Heap.get?_push_of_some _ ?_
  rw [Heap.get?_update_ne _ _ _ _ (Nat.ne_of_lt hlt)]
  exact Heap.get?_push_of_some _ e
theorem sortedAll_keep {h : Heap} {xs : List Value} {out : Array Value} : ∀ b o, h.get? b = some o → (sortedAll h xs out).get? b = some o := by
  intro b o e
  have hlt : b < h.objs.size := Heap.lt_size e
  have hne1 : b ≠ h.objs.size := Nat.ne_of_lt hlt
  have hne2 : b ≠ h.objs.size + 1 := Nat.ne_of_lt (Nat.lt_succ_of_lt hlt)
  unfold sortedAll sortedHeap
  rw [Heap.get?_update_ne _ _ _ _ hne2]
  refine Heap.get?_push_of_some _ (Heap.get?_push_of_some _ ?_)
  rw [Heap.get?_update_ne _ _ _ _ hne2]
  refine Heap.get?_push_of_some _ ?_
  rw [Heap.get?_update_ne _ _ _ _ hne1]
  exact Heap.get?_push_of_some _ e
theorem sortedAll_out {h : Heap} {xs : List Value} {out : Array Value} : ∃ m, IsL (sortedAll h xs out) (h.objs.size + 1) out m := by
  have hsz : ((h.push (seqObj "list" #[] 0)).update h.objs.size (Obj.mapSeq (· ++ xs.toArray))).objs.size = h.objs.size + 1 := by
    rw [Heap.size_update, size_push']
  have hoL : (((h.push (seqObj "list" #[] 0)).update h.objs.size (Obj.mapSeq (· ++ xs.toArray))).push (seqObj "list" xs.toArray 0)).get? (h.objs.size + 1) = some (seqObj "list" xs.toArray 0) := by
    rw [← hsz]; exact Heap.get?_push_size _ rfl
  unfold sortedAll sortedHeap
  have h1 := get?_update_seq hoL (fun _ => (#[] : Array Value))
  exact ⟨_, get?_update_seq (Heap.get?_push_of_some (seqObj "list" #[] 0) (Heap.get?_push_of_some (seqObj "tuple" xs.toArray 0) h1)) (fun _ => out)⟩

theorem katTups_of {h : Heap} : ∀ {ws : List Value} {ts : List (List Int)}, ts.length = ws.length → (∀ i, i < ws.length → ∃ a o xs n, ws.getD i Value.none = .ref a ∧ h.get? a = some o ∧ o.cls = .type "tuple" ∧ o.data = .seq xs n ∧ IntsAre xs.toList (ts.getD i []) ∧ ts.getD i [] ≠ []) →
    ∃ fs, KatTups h ws fs ∧ fs.length = ws.length ∧ ∀ v ∈ fs, ∃ i t, v = .int i t
  | [], ts, _, _ => ⟨[], KatTups.nil, rfl, fun v hv => by simp at hv⟩
  | w :: ws, [], e, _ => by simp at e
  | w :: ws, t :: ts, e, hh => by
    obtain ⟨fs, k1, k2, k3⟩ := katTups_of (ws := ws) (ts := ts) (by simpa using e) (fun i hi => by simpa using hh (i + 1) (by simpa using hi))
    obtain ⟨a, o, xs, n, e1, ho, hc, hd, hI, hne⟩ := hh 0 (by simp)
    simp only [List.getD_cons_zero] at e1 hI hne
    subst e1
    cases hx : xs.toList with
    | nil => rw [hx] at hI; cases hI; exact absurd rfl hne
    | cons x r =>
      have hx0 : xs[0]? = some x := by
        have : xs.toList[0]? = some x := by rw [hx]; rfl
        simpa using this
      rw [hx] at hI
      cases hI with
      | cons i t' _ =>
        exact ⟨_, KatTups.cons ho hc hd hx0 k1, by simp [k2], fun v hv => by
          rcases List.mem_cons.mp hv with rfl | hv
          · exact ⟨i, t', rfl⟩
          · exact k3 v hv⟩

/-- one or, where it says nothing, the other -/
noncomputable def orB (f g : List V → M V) : List V → M V := fun vs σ => match f vs σ with
  | .stuck => g vs σ
  | r => r
theorem built_or {b : Value} {f g : List V → M V} (hf : BuiltOk K b f) (hg : BuiltOk K b g) : BuiltOk K b (orB f g) := by
  intro F fk hnh σ ρ s vs ws rel r
  unfold orB
  have h1 := hf F fk hnh σ ρ s vs ws rel r
  have h2 := hg F fk hnh σ ρ s vs ws rel r
  cases e : f vs σ with
  | stuck => exact h2
  | ok a y => rw [e] at h1; exact h1
  | exc a y => rw [e] at h1; exact h1

end Mine


/-! part S4 -/
set_option autoImplicit false
set_option maxRecDepth 100000
set_option linter.unusedVariables false
open PySem PySem.W PyProof.Rows
namespace Mine

section
variable {prog : Program} {w : World} {A : Around} {E : Value → Shared → Prop} {s : Shared}
theorem list_sort_rev (a : Addr) : Builtin.«list.sort» ⟨[.ref a], [(Str.ofString "reverse", .bool true)]⟩ = (do
    let items ← Builtin.List.listItems (.ref a)
    Builtin.List.listUpdate (.ref a) fun _ => #[]
    let before ← seqEpoch a
    let held ← newTuple items.toList
    let keyStore ← newList []
    holding [held, keyStore] do
      rule "list.sort.reverse"
      let kind ← if items.size < 2 then pure general' else keyKind' items
      let ((), s) ← (if items.size < 2 then pure () else sortRuns').run (SortSt.mk' kind (items.zip items).reverse #[] 7 none)
      let sorted := (arrOf s).map (·.2)
      let touched := (← seqEpoch a) != before
      Builtin.List.listUpdate (.ref a) fun _ => sorted.reverse
      if let some e := failedOf s then rule "list.sort.comparison-raised"; throw e
      if touched then rule "list.sort.modified"; raiseError "ValueError" "list modified during sort"
      ret .none) := rfl

theorem pairs_rev (vs : List Value) : (vs.toArray.zip vs.toArray).reverse = pairsOf vs.reverse := by
  apply Array.toList_inj.mp
  rw [pairsOf_toList]
  simp only [Array.toList_reverse, Array.toList_zip]
  apply List.ext_getElem
  · simp
  · intro i h1 h2
    simp [List.getElem_reverse, List.getElem_zip]

theorem sort_tree_rev {a : Addr} {vs : List Value} {n : Nat} {κ : SortKind} {ask : Nat → Nat → Bool} {P : PySem.Fin → Shared → Prop} (ho : s.heap.get? a = some (seqObj "list" vs.toArray n)) (h2 : 2 ≤ vs.length) (h64 : vs.length < 64)
    (hκ : ∀ Q : SortKind → Shared → Prop, Q κ { s with heap := midHeap s.heap a vs } → wpAny (model prog w) A (keyKind' vs.toArray) Q E { s with heap := midHeap s.heap a vs })
    (hA : Ask vs.length ask) (hcmp : ∀ i j (C : Bool → Shared → Prop), i < vs.length → j < vs.length → C (ask i j) { s with heap := midHeap s.heap a vs } → kas_ask prog w A κ vs.reverse i j C { s with heap := midHeap s.heap a vs })
    (h : P (.done (.ret .none)) { s with heap := sortedHeap s.heap a vs (outOf ask vs.reverse).reverse.toArray }) :
    wpAny (model prog w) A (Builtin.«list.sort» ⟨[.ref a], [(Str.ofString "reverse", .bool true)]⟩) P E s := by
  rw [list_sort_rev]
  have ha : a < s.heap.objs.size := Heap.lt_size ho
  refine wpAny_bind (listItems_at ho rfl ?_)
  refine wpAny_bind (listUpdate_at ho rfl ?_ (by rw [List.size_toArray, sizeLine_eq]; (first | lia | omega)) (Nat.zero_le _))
  obtain ⟨e1, ho1⟩ : ∃ e1, (s.heap.update a (Obj.mapSeq fun _ => (#[] : Array Value))).get? a = some (seqObj "list" #[] e1) := ⟨_, get?_update_seq ho (fun _ => #[])⟩
  refine wpAny_bind (seqEpoch_at ho1 rfl ?_)
  refine wpAny_bind (wpAny_newTuple ?_ (by show vs.length ≤ _; rw [sizeLine_eq]; (first | lia | omega)))
  refine wpAny_bind (wpAny_newList ?_ (Nat.zero_le _))
  refine wpAny_holding ?_
  have ho6 : (midHeap s.heap a vs).get? a = some (seqObj "list" #[] e1) := by
    unfold midHeap
    rw [Heap.get?_push_ne _ _ _ (by rw [size_push', Heap.size_update]; exact Nat.ne_of_lt (Nat.lt_succ_of_lt ha)), Heap.get?_push_ne _ _ _ (by rw [Heap.size_update]; exact Nat.ne_of_lt ha)]
    exact ho1
  show wpAny (model prog w) A _ P E { s with heap := midHeap s.heap a vs }
  dsimp only
  refine wpAny_bind (wpAny_rule ?_)
  have hn2 : ¬ vs.toArray.size < 2 := by rw [List.size_toArray]; (first | lia | omega)
  rw [if_neg hn2, if_neg hn2]
  refine wpAny_bind (hκ _ ?_)
  have hrl : vs.reverse.length = vs.length := List.length_reverse
  have est : SortSt.mk' κ (vs.toArray.zip vs.toArray).reverse #[] 7 none = kas_st κ (pairsOf vs.reverse) (List.toArray (List.range vs.reverse.length)) := by
    have e := kas_range (pairsOf vs.reverse)
    rw [pairsOf_size] at e
    show SortSt.mk' κ _ #[] 7 none = SortSt.mk' κ ((List.toArray (List.range vs.reverse.length)).map (kas_item (pairsOf vs.reverse))) #[] 7 none
    rw [e, pairs_rev]
  have run := kas_runs (prog := prog) (w := w) (A := A) (κ := κ) (it := pairsOf vs.reverse) (E := E) (n := vs.reverse.length) (s := { s with heap := midHeap s.heap a vs }) (Q := fun _ st' s' => s' = { s with heap := midHeap s.heap a vs } ∧ ∃ p : Array Nat, p = krun ask (kas_sort vs.reverse.length) ∧ p.size = vs.reverse.length ∧ arrOf st' = p.map (kas_item (pairsOf vs.reverse)) ∧ failedOf st' = none)
    (G := fun p s' => s' = { s with heap := midHeap s.heap a vs } ∧ p = krun ask (kas_sort vs.reverse.length)) (by (first | lia | omega)) (by (first | lia | omega)) (fun p' st' s' a1 a2 a3 a4 => ⟨a4.1, p', a4.2, a1, a2, a3⟩)
    (kasWp_runIn (n := vs.length) (ask := ask) (fun i j C hi hj hC => by have := hcmp i j C hi hj hC; rw [kas_ask_eq] at this; exact this) _ (by rw [hrl]; exact sort_in hA (by (first | lia | omega))) ⟨rfl, rfl⟩)
  rw [← est] at run
  refine wpAny_bind (wpAny_mono run ?_ fun _ _ e => e)
  rintro ⟨⟨⟩, st'⟩ s' ⟨rfl, p, rfl, hp, har, hf⟩
  dsimp only
  have hout : ((arrOf st').map (·.2)).reverse = (outOf ask vs.reverse).reverse.toArray := by
    apply Array.toList_inj.mp
    rw [Array.toList_reverse, har, Array.map_map, Array.toList_map]
    congr 1
    exact List.map_congr_left fun i _ => by show (kas_item (pairsOf vs.reverse) i).2 = _; rw [kas_item_eq]
  rw [hout]
  have hsz : (outOf ask vs.reverse).reverse.toArray.size = vs.length := by rw [List.size_toArray, List.length_reverse]; unfold outOf; rw [List.length_map, Array.length_toList, hp, hrl]
  refine wpAny_bind (seqEpoch_at ho6 rfl ?_)
  refine wpAny_bind (listUpdate_at ho6 rfl ?_ (Nat.zero_le _) (by rw [hsz, sizeLine_eq]; (first | lia | omega)))
  rw [hf]
  simp only [bne_self_eq_false, Bool.false_eq_true, if_false]
  exact wpAny_pure h

theorem args_sorted_rev (a : Value) : argsOk "sorted" ⟨[a], [(Str.ofString "reverse", .bool true)]⟩ := by unfold argsOk; kernel_rfl
theorem args_list_sort_rev (a : Value) : argsOk "list.sort" ⟨[a], [(Str.ofString "reverse", .bool true)]⟩ := by unfold argsOk; kernel_rfl

theorem sorted_tree_rev {l : Addr} {vs : List Value} {κ : SortKind} {ask : Nat → Nat → Bool} {Q : Value → Shared → Prop} (hl : s.heap.IsList l vs.toArray) (h2 : 2 ≤ vs.length) (h64 : vs.length < 64)
    (hκ : ∀ A' E' (Q : SortKind → Shared → Prop), Q κ { s with heap := midHeap (colHeap s.heap vs) (s.heap.objs.size + 1) vs } → wpAny (model prog w) A' (keyKind' vs.toArray) Q E' { s with heap := midHeap (colHeap s.heap vs) (s.heap.objs.size + 1) vs })
    (hA : Ask vs.length ask) (hcmp : ∀ i j (C : Bool → Shared → Prop), i < vs.length → j < vs.length → C (ask i j) { s with heap := midHeap (colHeap s.heap vs) (s.heap.objs.size + 1) vs } → kas_ask prog w A.in1.in1 κ vs.reverse i j C { s with heap := midHeap (colHeap s.heap vs) (s.heap.objs.size + 1) vs })
    (h : Q (.ref (s.heap.objs.size + 1)) { s with heap := sortedAll s.heap vs (outOf ask vs.reverse).reverse.toArray }) :
    wpAny (model prog w) A (call (.builtin "sorted") [.ref l] [(Str.ofString "reverse", .bool true)]) Q E s := by
  refine call_function_entry_kw kind_sorted plain_sorted entry_sorted (args_sorted_rev _) ?_
  unfold Builtin.«sorted»
  refine wpAny_bind (m := checkCount "sorted" 1 1 _) (wpAny_pure ?_)
  refine wpAny_bind (collect_list hl ?_ (by rw [sizeLine_eq]; (first | lia | omega)))
  refine wpAny_bind (wpAny_newList ?_ (by rw [sizeLine_eq]; (first | lia | omega)))
  have hsz : ((s.heap.push (seqObj "list" #[] 0)).update s.heap.objs.size (Obj.mapSeq (· ++ vs.toArray))).objs.size = s.heap.objs.size + 1 := by
    rw [Heap.size_update, size_push']
  have hoL : (colHeap s.heap vs).get? (s.heap.objs.size + 1) = some (seqObj "list" vs.toArray 0) := by
    unfold colHeap
    rw [← hsz]; exact Heap.get?_push_size _ rfl
  show wpAny _ _ _ _ _ { s with heap := colHeap s.heap vs }
  rw [hsz]
  refine wpAny_bind (wpAny_holding (wpAny_call_entry_kw slot_list_sort ⟨_, hoL, rfl⟩ entry_list_sort (sort_tree_rev (s := { s with heap := colHeap s.heap vs }) hoL h2 h64 (hκ _ _) hA hcmp ⟨_, rfl, ?_⟩) (args_list_sort_rev _)))
  exact wpAny_pure ⟨_, rfl, h⟩
end

end Mine


/-! part S5 -/
set_option autoImplicit false
set_option maxRecDepth 100000
set_option linter.unusedVariables false
open PySem PySem.W PyProof.Rows
namespace Mine

variable {K : Glo} {F : Frm}

section
variable {prog : Program} {w : World} {A : Around} {E : Value → Shared → Prop} {s : Shared}
theorem small_snd {vs : List Value} : ((vs.toArray.zip vs.toArray).map (·.2)) = vs.toArray := by
  apply Array.toList_inj.mp
  simp only [Array.toList_map, Array.toList_zip]
  exact List.map_snd_zip (Nat.le_refl _)
theorem arrOf_mk (k : SortKind) (a : Array Keyed) : arrOf (SortSt.mk' k a #[] 7 none) = a := rfl
theorem small_rev {vs : List Value} (h : vs.length < 2) : vs.reverse = vs := by
  match vs, h with
  | [], _ => rfl
  | [_], _ => rfl
theorem sort_small {a : Addr} {vs : List Value} {n : Nat} {P : PySem.Fin → Shared → Prop} (ho : s.heap.get? a = some (seqObj "list" vs.toArray n)) (h2 : vs.length < 2)
    (h : P (.done (.ret .none)) { s with heap := sortedHeap s.heap a vs vs.toArray }) (kw : List (Str × Value)) (hkw : kw = [] ∨ kw = [(Str.ofString "reverse", .bool true)]) :
    wpAny (model prog w) A (Builtin.«list.sort» ⟨[.ref a], kw⟩) P E s := by
  have ha : a < s.heap.objs.size := Heap.lt_size ho
  obtain ⟨e1, ho1⟩ : ∃ e1, (s.heap.update a (Obj.mapSeq fun _ => (#[] : Array Value))).get? a = some (seqObj "list" #[] e1) := ⟨_, get?_update_seq ho (fun _ => #[])⟩
  have ho6 : (midHeap s.heap a vs).get? a = some (seqObj "list" #[] e1) := by
    unfold midHeap
    rw [Heap.get?_push_ne _ _ _ (by rw [size_push', Heap.size_update]; exact Nat.ne_of_lt (Nat.lt_succ_of_lt ha)), Heap.get?_push_ne _ _ _ (by rw [Heap.size_update]; exact Nat.ne_of_lt ha)]
    exact ho1
  have hn2 : vs.toArray.size < 2 := by rw [List.size_toArray]; (first | lia | omega)
  rcases hkw with rfl | rfl
  · rw [list_sort_plain]
    refine wpAny_bind (listItems_at ho rfl ?_)
    refine wpAny_bind (listUpdate_at ho rfl ?_ (by rw [List.size_toArray, sizeLine_eq]; (first | lia | omega)) (Nat.zero_le _))
    refine wpAny_bind (seqEpoch_at ho1 rfl ?_)
    refine wpAny_bind (wpAny_newTuple ?_ (by show vs.length ≤ _; rw [sizeLine_eq]; (first | lia | omega)))
    refine wpAny_bind (wpAny_newList ?_ (Nat.zero_le _))
    refine wpAny_holding ?_
    show wpAny (model prog w) A _ P E { s with heap := midHeap s.heap a vs }
    dsimp only
    rw [if_pos hn2, if_pos hn2]
    refine wpAny_bind (wpAny_pure ?_)
    rw [StateT.run_pure]
    refine wpAny_bind (wpAny_pure ?_)
    dsimp only
    rw [arrOf_mk]
    rw [small_snd]
    refine wpAny_bind (seqEpoch_at ho6 rfl ?_)
    refine wpAny_bind (listUpdate_at ho6 rfl ?_ (Nat.zero_le _) (by rw [List.size_toArray, sizeLine_eq]; (first | lia | omega)))
    simp only [bne_self_eq_false, Bool.false_eq_true, if_false]
    exact wpAny_pure h
  · rw [list_sort_rev]
    refine wpAny_bind (listItems_at ho rfl ?_)
    refine wpAny_bind (listUpdate_at ho rfl ?_ (by rw [List.size_toArray, sizeLine_eq]; (first | lia | omega)) (Nat.zero_le _))
    refine wpAny_bind (seqEpoch_at ho1 rfl ?_)
    refine wpAny_bind (wpAny_newTuple ?_ (by show vs.length ≤ _; rw [sizeLine_eq]; (first | lia | omega)))
    refine wpAny_bind (wpAny_newList ?_ (Nat.zero_le _))
    refine wpAny_holding ?_
    show wpAny (model prog w) A _ P E { s with heap := midHeap s.heap a vs }
    dsimp only
    refine wpAny_bind (wpAny_rule ?_)
    rw [if_pos hn2, if_pos hn2]
    refine wpAny_bind (wpAny_pure ?_)
    rw [StateT.run_pure]
    refine wpAny_bind (wpAny_pure ?_)
    dsimp only
    have e : ((vs.toArray.zip vs.toArray).reverse.map (·.2)).reverse = vs.toArray := by
      rw [pairs_rev, small_rev h2]
      show ((vs.toArray.zip vs.toArray).map (·.2)).reverse = _
      rw [small_snd]
      apply Array.toList_inj.mp
      rw [Array.toList_reverse]
      exact small_rev h2
    rw [arrOf_mk]
    rw [e]
    refine wpAny_bind (seqEpoch_at ho6 rfl ?_)
    refine wpAny_bind (listUpdate_at ho6 rfl ?_ (Nat.zero_le _) (by rw [List.size_toArray, sizeLine_eq]; (first | lia | omega)))
    simp only [bne_self_eq_false, Bool.false_eq_true, if_false]
    exact wpAny_pure h
end

section
variable {prog : Program} {w : World} {A : Around} {E : Value → Shared → Prop} {s : Shared}
theorem sorted_small {l : Addr} {vs : List Value} {Q : Value → Shared → Prop} (hl : s.heap.IsList l vs.toArray) (h2 : vs.length < 2)
    (h : Q (.ref (s.heap.objs.size + 1)) { s with heap := sortedAll s.heap vs vs.toArray }) (kw : List (Str × Value)) (hkw : kw = [] ∨ kw = [(Str.ofString "reverse", .bool true)]) :
    wpAny (model prog w) A (call (.builtin "sorted") [.ref l] kw) Q E s := by
  refine call_function_entry_kw kind_sorted plain_sorted entry_sorted (by rcases hkw with rfl | rfl; exact args_sorted1 _; exact args_sorted_rev _) ?_
  unfold Builtin.«sorted»
  refine wpAny_bind (m := checkCount "sorted" 1 1 _) (wpAny_pure ?_)
  refine wpAny_bind (collect_list hl ?_ (by rw [sizeLine_eq]; (first | lia | omega)))
  refine wpAny_bind (wpAny_newList ?_ (by rw [sizeLine_eq]; (first | lia | omega)))
  have hsz : ((s.heap.push (seqObj "list" #[] 0)).update s.heap.objs.size (Obj.mapSeq (· ++ vs.toArray))).objs.size = s.heap.objs.size + 1 := by
    rw [Heap.size_update, size_push']
  have hoL : (colHeap s.heap vs).get? (s.heap.objs.size + 1) = some (seqObj "list" vs.toArray 0) := by
    unfold colHeap
    rw [← hsz]; exact Heap.get?_push_size _ rfl
  show wpAny _ _ _ _ _ { s with heap := colHeap s.heap vs }
  rw [hsz]
  refine wpAny_bind (wpAny_holding (wpAny_call_entry_kw slot_list_sort ⟨_, hoL, rfl⟩ entry_list_sort (sort_small (s := { s with heap := colHeap s.heap vs }) hoL h2 ⟨_, rfl, ?_⟩ kw hkw) (by rcases hkw with rfl | rfl; exact args_list_sort _; exact args_list_sort_rev _)))
  exact wpAny_pure ⟨_, rfl, h⟩
end

/-- sorted of less than 64 tuples of ints, forwards or backwards -/
noncomputable def sortTup (rev : Bool) (ts : List (List Int)) (us : List V) : List V :=
  if us.length < 2 then us else if rev = true then (sortV (askT ts.reverse) us.reverse).reverse else sortV (askT ts) us
noncomputable def sortedX (rev : Bool) : List V → M V
  | [.obj l] => fun σ => match σ.st[l]? with
    | some (.lst vs) => match tupsOf vs with
      | some ts => if vs.length < 64 then .ok (.obj σ.st.length) { σ with st := σ.st ++ [.lst (sortTup rev ts vs)] } else .stuck
      | none => .stuck
    | _ => .stuck
  | _ => stuck
noncomputable def revKw (rev : Bool) : List (Str × Value) := if rev = true then [(Str.ofString "reverse", .bool true)] else []

theorem getD_rev {α : Type} {d : α} {xs : List α} {i : Nat} (h : i < xs.length) : xs.reverse.getD i d = xs.getD (xs.length - 1 - i) d := by
  simp [List.getD_eq_getElem?_getD, List.getElem?_reverse h]

theorem run_sortedX (fk : FOk F) (rev : Bool) {σ : S} {ρ : List Addr} {s : Shared} {vs : List V} {ws : List Value} (rel : Rel K F σ ρ s) (r : RepL K s.heap ρ vs ws) : Run K F (PySem.call (.builtin "sorted") ws (revKw rev)) (Rep K) (sortedX rev vs σ) ρ s := by
  unfold sortedX
  split
  · rename_i l
    obtain ⟨x, r', rfl, r1, r2⟩ := RepL.cons_iff.mp r
    obtain rfl := RepL.nil_iff.mp r2
    cases hl : σ.st[l]? with
    | none => exact Run.stuck
    | some c =>
      cases c with
      | lst us =>
        dsimp only
        cases hi : tupsOf us with
        | none => exact Run.stuck
        | some ts =>
          dsimp only
          by_cases hz : us.length < 64
          · rw [if_pos hz]
            obtain ⟨a, xs, n, rfl, hρ, hL, hr, hn⟩ := rel.list r1 hl
            obtain ⟨t1, t2⟩ := tups_at hr hi
            have hxl : xs.length = us.length := hr.length
            -- the end, from what was put out
            have fin : ∀ (out : List Value), RepL K s.heap ρ (sortTup rev ts us) out → ∃ ρ', Rel K F { σ with st := σ.st ++ [.lst (sortTup rev ts us)] } ρ' { s with heap := sortedAll s.heap xs out.toArray } ∧
                Ext F.mine ρ ρ' s.heap (sortedAll s.heap xs out.toArray) ∧ Rep K (sortedAll s.heap xs out.toArray) ρ' (.obj σ.st.length) (.ref (s.heap.objs.size + 1)) := by
              intro out hrep
              obtain ⟨m, hm⟩ := sortedAll_out (h := s.heap) (xs := xs) (out := out.toArray)
              have hlen : (sortTup rev ts us).length ≤ 1000000 := by
                have hz1 : ∀ (q : List (List Int)) (v : List V), v.length = us.length → 2 ≤ v.length → (sortV (askT q) v).length ≤ 1000000 := by
                  intro q v hv h2
                  unfold sortV
                  rw [List.length_map, Array.length_toList, (sort_ok (askT_ok q v.length) (by (first | lia | omega))).1]; (first | lia | omega)
                unfold sortTup
                split
                · (first | lia | omega)
                · split
                  · rw [List.length_reverse]; exact hz1 _ _ List.length_reverse (by rw [List.length_reverse]; (first | lia | omega))
                  · exact hz1 _ _ rfl (by (first | lia | omega))
              obtain ⟨rel', x'⟩ := rel.newAt (s' := { s with heap := sortedAll s.heap xs out.toArray }) sortedAll_keep (Heap.get?_none_of_le (Nat.le_succ _)) (n := m) hm hrep hlen rfl rfl
              exact ⟨_, rel', x', Rep.obj_iff.mpr ⟨_, by rw [← rel.len, List.getElem?_concat_length], rfl⟩⟩
            by_cases hsm : us.length < 2
            · have e : sortTup rev ts us = us := by unfold sortTup; rw [if_pos hsm]
              refine Run.ok (sorted_small hL.isList (by (first | lia | omega)) (fin xs (by rw [e]; exact hr)) _ ?_)
              cases rev <;> simp [revKw]
            · have hmid : ∀ i, i < xs.length → ∃ a o ys n, xs.getD i Value.none = .ref a ∧ (midHeap (colHeap s.heap xs) (s.heap.objs.size + 1) xs).get? a = some o ∧ o.cls = .type "tuple" ∧ o.data = .seq ys n ∧ IntsAre ys.toList (ts.getD i []) ∧ ts.getD i [] ≠ [] := by
                intro i hi'
                obtain ⟨a', o, ys, n', e1, e2, _, e3, e4, e5, e6⟩ := t2 i (by (first | lia | omega))
                exact ⟨a', o, ys, n', e1, mid_keep _ _ e2, e3, e4, e5, e6⟩
              have hkind : ∀ A' E' (Q : SortKind → Shared → Prop), Q (tuples' true) { s with heap := midHeap (colHeap s.heap xs) (s.heap.objs.size + 1) xs } → wpAny (model K.prog K.w) A' (keyKind' xs.toArray) Q E' { s with heap := midHeap (colHeap s.heap xs) (s.heap.objs.size + 1) xs } := by
                intro A' E' Q q
                obtain ⟨fs, k1, k2, k3⟩ := katTups_of (h := midHeap (colHeap s.heap xs) (s.heap.objs.size + 1) xs) (by (first | lia | omega)) hmid
                refine kat_kind (s := { s with heap := midHeap (colHeap s.heap xs) (s.heap.objs.size + 1) xs }) (T := .type "int") k1 (by (first | lia | omega)) (fun v hv => ?_) (by decide) q
                obtain ⟨i, t, rfl⟩ := k3 v hv
                exact .now
              have hcmp : ∀ i j (C : Bool → Shared → Prop) (A' : Around), i < xs.length → j < xs.length → C (askT ts i j) { s with heap := midHeap (colHeap s.heap xs) (s.heap.objs.size + 1) xs } →
                  wpAny (model K.prog K.w) A' (keyLt' (tuples' true) (xs.getD i Value.none) (xs.getD j Value.none)) C (fun _ _ => False) { s with heap := midHeap (colHeap s.heap xs) (s.heap.objs.size + 1) xs } := by
                intro i j C A' hi' hj' hC
                obtain ⟨a1, o1, xs1, n1, e1, g1, _, d1, I1, _⟩ := hmid i hi'
                obtain ⟨a2, o2, xs2, n2, e2, g2, _, d2, I2, _⟩ := hmid j hj'
                rw [e1, e2]
                refine kat_lt (s := { s with heap := midHeap (colHeap s.heap xs) (s.heap.objs.size + 1) xs }) g1 d1 g2 d2 (lex_at _ _ _ _ _ 0 I1 I2 fun c hc => ?_)
                have hsz : ∀ {ys : Array Value} {ns : List Int}, IntsAre ys.toList ns → ys.size = ns.length := by
                  intro ys ns hI
                  have := (ints_rep (K := K) (h := s.heap) (ρ := ρ) hI).length
                  simpa using this
                rw [hsz I1, hsz I2, lex_eq] at hc
                rw [hc]; exact hC
              cases rev with
              | false =>
                have hA := askT_ok ts xs.length
                have e : sortTup false ts us = sortV (askT ts) us := by unfold sortTup; rw [if_neg hsm, if_neg (by simp)]
                refine Run.ok (sorted_tree (κ := tuples' true) (ask := askT ts) hL.isList (by (first | lia | omega)) (by (first | lia | omega)) hkind hA (fun i j C hi' hj' hC => hcmp i j C _ hi' hj' hC) (fin _ ?_))
                rw [e]
                have hsl := sort_lt hA (by (first | lia | omega))
                unfold sortV outOf
                rw [hxl]
                rw [hxl] at hsl
                exact maps_rep hr _ hsl
              | true =>
                have hA := askT_ok ts.reverse xs.length
                have e : sortTup true ts us = (sortV (askT ts.reverse) us.reverse).reverse := by unfold sortTup; rw [if_neg hsm, if_pos rfl]
                refine Run.ok (sorted_tree_rev (κ := tuples' true) (ask := askT ts.reverse) hL.isList (by (first | lia | omega)) (by (first | lia | omega)) hkind hA (fun i j C hi' hj' hC => ?_) (fin _ ?_))
                · unfold kas_ask
                  rw [getD_rev hi', getD_rev hj']
                  refine hcmp _ _ C _ (by (first | lia | omega)) (by (first | lia | omega)) ?_
                  have q : askT ts.reverse i j = askT ts (xs.length - 1 - i) (xs.length - 1 - j) := by
                    unfold askT
                    rw [getD_rev (by (first | lia | omega)), getD_rev (by (first | lia | omega)), show ts.length = xs.length by (first | lia | omega)]
                  rw [← q]; exact hC
                · rw [e]
                  refine RepL.reverse ?_
                  have hsl := sort_lt hA (by (first | lia | omega))
                  unfold sortV outOf
                  rw [List.length_reverse, List.length_reverse, hxl]
                  rw [hxl] at hsl
                  exact maps_rep hr.reverse _ (fun i hi => by rw [List.length_reverse]; exact hsl i hi)
          · rw [if_neg hz]; exact Run.stuck
  · exact Run.stuck
theorem built_sortedX : BuiltOk K (.builtin "sorted") (sortedX false) := fun F fk _ σ ρ s vs ws rel r => run_sortedX fk false rel r

end Mine


/-! part F22 -/
set_option autoImplicit false
set_option maxRecDepth 100000
set_option linter.unusedVariables false
open PySem PySem.W PyProof.Rows
namespace Mine

variable {K : Glo} {F : Frm}

/-! ### sum of ints -/
noncomputable def sumB : List V → M V
  | [.obj l] => fun σ => match σ.st[l]? with
    | some (.lst vs) => match intsOf vs with
      | some ns => .ok (.int ns.sum) σ
      | none => .stuck
    | _ => .stuck
  | _ => stuck
theorem ints_items : ∀ {ws : List Value} {ns : List Int}, IntsAre ws ns → ∃ xs : List (Int × Tok), ws = xs.map (fun p => Value.int p.1 p.2) ∧ ns = xs.map (·.1)
  | _, _, .nil => ⟨[], rfl, rfl⟩
  | _, _, .cons n t r => by
    obtain ⟨xs, e1, e2⟩ := ints_items r
    exact ⟨(n, t) :: xs, by simp [e1], by simp [e2]⟩
theorem preSum_nums (xs : List (Int × Tok)) : preSum (numAt xs.toArray) xs.toArray.size = (xs.map (·.1)).sum := by
  rw [preSum_eq, List.take_of_length_le (by simp)]
theorem built_sum : BuiltOk K (.builtin "sum") sumB := by
  intro F fk hnh σ ρ s vs ws rel r
  unfold sumB
  split
  · rename_i l
    obtain ⟨x, r', rfl, r1, r2⟩ := RepL.cons_iff.mp r
    obtain rfl := RepL.nil_iff.mp r2
    cases hl : σ.st[l]? with
    | none => exact Run.stuck
    | some c =>
      cases c with
      | lst us =>
        dsimp only
        cases hi : intsOf us with
        | none => exact Run.stuck
        | some ns =>
          obtain ⟨a, xs, n, rfl, hρ, hL, hr, hn⟩ := rel.list r1 hl
          obtain ⟨ps, e1, e2⟩ := ints_items (intsOf_are hr hi)
          have hl' : s.heap.IsList a (intItems ps.toArray) := by
            have e : intItems ps.toArray = xs.toArray := by rw [e1]; unfold intItems; simp
            rw [e]; exact hL.isList
          refine Run.ok (sum_intListG (fk.hd hnh) hl' fun h' tk t' hk => ⟨ρ, rel.kept hk rfl rfl, Ext.kept hk, ?_⟩)
          rw [preSum_nums, ← e2]
          exact Rep.int ..
  · exact Run.stuck

/-! ### list * int -/
noncomputable def mulLV : V → V → M V
  | .int a, b => mulV (.int a) b
  | .obj l, .int k => fun σ => match σ.st[l]? with
    | some (.lst xs) => if 0 ≤ k ∧ k < 1000 ∧ xs.length < 1000 then .ok (.obj σ.st.length) { σ with st := σ.st ++ [.lst (List.replicate k.toNat xs).flatten] } else .stuck
    | _ => .stuck
  | _, _ => fun _ => .stuck
theorem rep_flat {h : Heap} {ρ : List Addr} {vs : List V} {ws : List Value} (r : RepL K h ρ vs ws) : ∀ n : Nat, RepL K h ρ (List.replicate n vs).flatten (List.replicate n ws).flatten
  | 0 => RepL.nil
  | n + 1 => by
    rw [List.replicate_succ, List.replicate_succ, List.flatten_cons, List.flatten_cons]
    exact r.append (rep_flat r n)
theorem bin_mulL : BinOk K .Mult mulLV := by
  intro F fk σ ρ s a b wa wb rel ra rb
  cases a with
  | int i => exact bin_mul F fk σ ρ s (.int i) b wa wb rel ra rb
  | obj l =>
    cases b with
    | int k =>
      obtain ⟨u, rfl⟩ := Rep.int_iff.mp rb
      unfold mulLV
      dsimp only
      cases hl : σ.st[l]? with
      | none => exact Run.stuck
      | some c =>
        cases c with
        | lst xs =>
          dsimp only
          by_cases hz : 0 ≤ k ∧ k < 1000 ∧ xs.length < 1000
          · rw [if_pos hz]
            obtain ⟨x, ws, n, rfl, hρ, hL, hr, hn⟩ := rel.list ra hl
            have hwl : ws.length = xs.length := hr.length
            have hmul : ws.length * k.toNat ≤ 1000000 := by
              have : ws.length * k.toNat ≤ 1000 * 1000 := Nat.mul_le_mul (by (first | lia | omega)) (by (first | lia | omega))
              (first | lia | omega)
            have hbig : (List.replicate k.toNat xs).flatten.length ≤ 1000000 := by
              rw [List.length_flatten, List.map_replicate, List.sum_replicate_nat, Nat.mul_comm, ← hwl]; exact hmul
            refine Run.ok (wpAny_binaryOp_repeat_ref (T := "list") (U := "int") (by decide) ⟨_, hL, rfl⟩ (fun s' => typeIs_int s' k u) noFill_list_mul PySem.F.fills_int_mul PySem.F.slot_int_rmul repeat_list PySem.F.slot_int_index.lookup
              (call_meets PySem.F.slot_int_rmul (typeIs_int s k u) PySem.F.entry_int_rmul (PySem.F.args_int_rmul_2 _ _) (lm_int_rmul_list_any k u x ws.toArray n none #[])
                ⟨hL, rfl, ⟨_, hL, rfl⟩, call_meets PySem.F.slot_list_mul ⟨_, hL, rfl⟩ PySem.F.entry_list_mul (PySem.F.args_list_mul_2 _ _)
                  (lm_list_mul_any x ws.toArray n none #[] k u (by simp [Builtin.List.listFitsIndex]; (first | lia | omega)) (by simp only [List.size_toArray]; (first | lia | omega)) (by simp [Builtin.List.listTooLong, sizeLine]; (first | lia | omega)))
                  ⟨hL, ?_⟩⟩))
            rw [listMul_foldl_if]
            obtain ⟨rel', x'⟩ := rel.newList (o := { cls := .type "list", data := .seq (List.replicate k.toNat ws).flatten.toArray }) rfl (rep_flat hr k.toNat) hbig s.toks
            exact ⟨_, rel', x', Rep.obj_iff.mpr ⟨_, by rw [← rel.len, List.getElem?_concat_length], rfl⟩⟩
          · rw [if_neg hz]; exact Run.stuck
    | _ => exact Run.stuck
  | _ => exact Run.stuck

noncomputable def sortedB2 : List V → M V := orB sortedB (sortedX false)
theorem built_sorted2 : BuiltOk K (.builtin "sorted") sortedB2 := built_or built_sorted built_sortedX

end Mine


/-! part F23 -/
set_option autoImplicit false
set_option maxRecDepth 100000
set_option linter.unusedVariables false
open PySem PySem.W PyProof.Rows
namespace Mine

variable {K : Glo} {F : Frm}
open PySem.SeqAt PySem.MeetsSeq PySem.MeetsSeq3
end Mine


/-! part F24 -/
set_option autoImplicit false
set_option maxRecDepth 100000
set_option linter.unusedVariables false
open PySem PySem.W PyProof.Rows
namespace Mine

variable {K : Glo} {F : Frm}

/-! ### min, max of data -/
noncomputable def CmpH (prog : Program) (w : World) (A : Around) (op : CmpOp) (h₀ : Heap) (P : Nat → Value → Prop) (bt : Nat → Nat → Bool) : Prop :=
  ∀ i j vi vj (s : Shared) (Q : Value → Shared → Prop) (E : Value → Shared → Prop), P i vi → P j vj → (∀ b o, h₀.get? b = some o → s.heap.get? b = some o) → Q (.bool (bt i j)) s → wpAny (model prog w) A (richCompare op vi vj) Q E s
noncomputable def allCmp (cd : PyData → PyData → Option Bool) (ds : List PyData) : Bool := ds.all fun a => ds.all fun b => (cd a b).isSome
noncomputable def btOf (cd : PyData → PyData → Option Bool) (ds : List PyData) (i j : Nat) : Bool := match ds[i]?, ds[j]? with
  | some a, some b => (cd a b).getD false
  | _, _ => false
theorem allCmp_get {cd : PyData → PyData → Option Bool} {ds : List PyData} {i j : Nat} {a b : PyData} (h : allCmp cd ds = true) (h1 : ds[i]? = some a) (h2 : ds[j]? = some b) : ∃ r, cd a b = some r := by
  have := (List.all_eq_true.mp ((List.all_eq_true.mp h) a (List.mem_of_getElem? h1))) b (List.mem_of_getElem? h2)
  exact Option.isSome_iff_exists.mp this
theorem mapO_get {α β : Type} {f : α → Option β} : ∀ {vs : List α} {ds : List β} {i : Nat} {v : α}, mapO f vs = some ds → vs[i]? = some v → ∃ d, ds[i]? = some d ∧ f v = some d
  | [], _, _, _, _, h => by simp at h
  | u :: vs, ds, i, v, hd, h => by
    unfold mapO at hd
    cases e1 : f u with
    | none => rw [e1] at hd; simp at hd
    | some d =>
      cases e2 : mapO f vs with
      | none => rw [e1, e2] at hd; simp at hd
      | some ds' =>
        rw [e1, e2] at hd
        simp only [Option.some.injEq] at hd
        subst hd
        cases i with
        | zero => simp at h; subst h; exact ⟨d, by simp, e1⟩
        | succ i =>
          obtain ⟨d', h1, h2⟩ := mapO_get (i := i) e2 (by simpa using h)
          exact ⟨d', by simpa using h1, h2⟩
theorem argBest_lt (bt : Nat → Nat → Bool) {n : Nat} (h : 0 < n) : argBest bt (n - 1) < n := by
  have key : ∀ k, argBest bt k ≤ k := by
    intro k
    induction k with
    | zero => exact Nat.le_refl _
    | succ k ih => unfold argBest; split <;> (first | lia | omega)
  have := key (n - 1); (first | lia | omega)

section
variable {prog : Program} {w : World} {A : Around} {R : Result → Shared → Prop} {I : Addr} {fp wr : List Addr} {n : Nat} {P : Nat → Value → Prop} {St : Nat → Heap → Prop} {h₀ : Heap}

theorem min_loopH (W : Walks prog w A.in1 I fp wr n P St) (bt : Nat → Nat → Bool) (hcmp : CmpH prog w A.in1 .Lt h₀ P bt) (hw : ∀ b ∈ wr, h₀.get? b = none) (S : Addr) (hSf : S ∉ fp) (hS0 : h₀.get? S = none) :
    ∀ (k j : Nat) (s : Shared) (vb : Value) (c : Nat), n - (j + 1) = k → j + 1 ≤ n → St (j + 1) s.heap → P (argBest bt j) vb → (∀ b o, h₀.get? b = some o → s.heap.get? b = some o) →
    s.heap.get? S = some { cls := .type "list", dict := none, data := .seq #[vb, vb] c, slots := #[] } →
    (∀ v h' tk, P (argBest bt (n - 1)) v → (∀ b o, b ∉ wr → b ≠ S → s.heap.get? b = some o → h'.get? b = some o) → R (.ok (.ret v)) { s with heap := h', toks := tk }) →
    codeAny (model prog w) A (.builtin "min.loop" ⟨[.ref I, .none, .ref S], []⟩) R s := by
  have hSw : S ∉ wr := fun h => hSf (W.sub _ h)
  have hname : (toString "min" ++ toString ".loop" : String) = "min.loop" := by decide
  have step : ∀ {s s' : Heap}, (∀ b o, h₀.get? b = some o → s.get? b = some o) → (∀ b o, b ∉ wr → s.get? b = some o → s'.get? b = some o) → ∀ b o, h₀.get? b = some o → s'.get? b = some o := by
    intro s s' h1 h2 b o e
    refine h2 b o (fun hb => ?_) (h1 b o e)
    rw [hw b hb] at e; cases e
  intro k
  induction k with
  | zero =>
    intro j s vb c hk hj hst hPb hX hS hR
    have hin : j + 1 = n := by (first | lia | omega)
    refine codeAny_builtin PySem.F.entry_min_loop ?_
    rw [Around.under_plainId PySem.F.plain_min_loop _]
    show wpAny _ A.in1 (seqItems? (.ref S) >>= _) _ _ s
    refine wpAny_bind (wpAny_seqItems hS rfl ?_)
    show wpAny _ A.in1 (tryCatch (pyNext (.ref I)) _ >>= _) _ _ s
    refine wpAny_bind (wpAny_tryCatch (W.done s _ _ (hin ▸ hst) fun h' tk hk' => ?_))
    have hS' := hk' S _ hSw hS
    show wpAny _ A.in1 (updateSeq S (fun _ => #[]) >>= _) _ _ _
    refine wpAny_bind ?_
    refine wpAny_updateSeq hS' rfl (wpAny_bind (wpAny_letGo (wpAny_pure ?_)))
    refine hR vb _ tk (by rw [← hin]; exact hPb) fun b o hbw hbS e => (Heap.get?_update_other _ _ (Ne.symm hbS)).trans (hk' b o hbw e)
  | succ k ih =>
    intro j s vb c hk hj hst hPb hX hS hR
    have hlt : j + 1 < n := by (first | lia | omega)
    refine codeAny_builtin PySem.F.entry_min_loop ?_
    rw [Around.under_plainId PySem.F.plain_min_loop _]
    show wpAny _ A.in1 (seqItems? (.ref S) >>= _) _ _ s
    refine wpAny_bind (wpAny_seqItems hS rfl ?_)
    show wpAny _ A.in1 (tryCatch (pyNext (.ref I)) _ >>= _) _ _ s
    refine wpAny_bind (wpAny_tryCatch (W.item (j + 1) s _ _ hlt hst fun v h' tk hP hst' hk' => ?_))
    have hS' := hk' S _ hSw hS
    have hX' := step hX hk'
    show wpAny _ A.in1 (tryCatch (holding [v, v] (richCompare .Lt v vb >>= _)) _ >>= _) _ _ _
    refine wpAny_bind (wpAny_tryCatch (wpAny_holding (wpAny_bind (hcmp (j + 1) (argBest bt j) v vb _ _ _ hP hPb hX' ?_))))
    refine wpAny_bind (wpAny_holding (wpAny_truthy_bool ?_))
    refine wpAny_bind (wpAny_letGo (wpAny_pure ?_))
    cases hb : bt (j + 1) (argBest bt j) with
    | true =>
      simp only [if_true]
      refine wpAny_bind ?_
      refine wpAny_updateSeq hS' rfl (wpAny_bind (wpAny_letGo ?_))
      rw [hname]
      have other : ∀ b o, b ≠ S → h'.get? b = some o → (h'.update S (Obj.mapSeq fun _ => #[v, v])).get? b = some o := fun b o hbS e => (Heap.get?_update_other _ _ (Ne.symm hbS)).trans e
      refine wpAny_pure ⟨plainId_quiet PySem.F.plain_min_loop _, ih (j + 1) _ v _ (by (first | lia | omega)) hlt (W.frame _ _ _ hst' fun b hbf o e => ?_) (by simp only [argBest, hb, if_true]; exact hP) (fun b o e => ?_) (Heap.get?_update_self _ hS' rfl)
        fun v' h'' tk'' hP' hk'' => ?_⟩
      · exact other b o (fun h => hSf (by rw [← h]; exact hbf)) e
      · exact other b o (fun h => by rw [h, hS0] at e; cases e) (hX' b o e)
      · exact hR v' h'' tk'' hP' fun b o hbw hbS e => hk'' b o hbw hbS (other b o hbS (hk' b o hbw e))
    | false =>
      simp only [Bool.false_eq_true, if_false]
      refine wpAny_bind (wpAny_letGo ?_)
      rw [hname]
      refine wpAny_pure ⟨plainId_quiet PySem.F.plain_min_loop _, ih (j + 1) _ vb c (by (first | lia | omega)) hlt hst' (by simp only [argBest, hb, Bool.false_eq_true, if_false]; exact hPb) hX' hS' fun v' h'' tk'' hP' hk'' => ?_⟩
      exact hR v' h'' tk'' hP' fun b o hbw hbS e => hk'' b o hbw hbS (hk' b o hbw e)

theorem min_firstH (W : Walks prog w A.in1 I fp wr n P St) (bt : Nat → Nat → Bool) (hcmp : CmpH prog w A.in1 .Lt h₀ P bt) (hw : ∀ b ∈ wr, h₀.get? b = none) (S : Addr) (hSf : S ∉ fp) (hS0 : h₀.get? S = none) (hn : 0 < n) {s : Shared} {c : Nat} (hst : St 0 s.heap)
    (hX : ∀ b o, h₀.get? b = some o → s.heap.get? b = some o)
    (hS : s.heap.get? S = some { cls := .type "list", dict := none, data := .seq #[] c, slots := #[] })
    (hR : ∀ v h' tk, P (argBest bt (n - 1)) v → (∀ b o, b ∉ wr → b ≠ S → s.heap.get? b = some o → h'.get? b = some o) → R (.ok (.ret v)) { s with heap := h', toks := tk }) :
    codeAny (model prog w) A (.builtin "min.loop" ⟨[.ref I, .none, .ref S], []⟩) R s := by
  have hSw : S ∉ wr := fun h => hSf (W.sub _ h)
  have hname : (toString "min" ++ toString ".loop" : String) = "min.loop" := by decide
  refine codeAny_builtin PySem.F.entry_min_loop ?_
  rw [Around.under_plainId PySem.F.plain_min_loop _]
  show wpAny _ A.in1 (seqItems? (.ref S) >>= _) _ _ s
  refine wpAny_bind (wpAny_seqItems hS rfl ?_)
  show wpAny _ A.in1 (tryCatch (pyNext (.ref I)) _ >>= _) _ _ s
  refine wpAny_bind (wpAny_tryCatch (W.item 0 s _ _ hn hst fun v h' tk hP hst' hk' => ?_))
  have hS' := hk' S _ hSw hS
  show wpAny _ A.in1 (updateSeq S (fun _ => #[v, v]) >>= _) _ _ _
  refine wpAny_bind ?_
  refine wpAny_updateSeq hS' rfl ?_
  rw [hname]
  have other : ∀ b o, b ≠ S → h'.get? b = some o → (h'.update S (Obj.mapSeq fun _ => #[v, v])).get? b = some o := fun b o hbS e => (Heap.get?_update_other _ _ (Ne.symm hbS)).trans e
  refine wpAny_pure ⟨plainId_quiet PySem.F.plain_min_loop _, min_loopH W bt hcmp hw S hSf hS0 _ 0 _ v _ rfl hn (W.frame _ _ _ hst' fun b hbf o e => ?_) hP (fun b o e => ?_) (Heap.get?_update_self _ hS' rfl) fun v' h'' tk'' hP' hk'' => ?_⟩
  · exact other b o (fun h => hSf (by rw [← h]; exact hbf)) e
  · exact other b o (fun h => by rw [h, hS0] at e; cases e) (hk' b o (fun hb => by rw [hw b hb] at e; cases e) (hX b o e))
  · exact hR v' h'' tk'' hP' fun b o hbw hbS e => hk'' b o hbw hbS (other b o hbS (hk' b o hbw e))
end

section
variable {prog : Program} {w : World} {A : Around} {E : Value → Shared → Prop} {s : Shared}


theorem call_min_walkH {x : Value} {Q : Value → Shared → Prop}
    (h : wpAny (model prog w) A.in1 (pyIter x) (fun it s₂ => ∃ I fp wr n P St bt h₀, it = .ref I ∧ Walks prog w A.in1 I fp wr n P St ∧ St 0 s₂.heap ∧ (∀ b ∈ fp, b < s₂.heap.objs.size) ∧ 0 < n ∧ CmpH prog w A.in1 .Lt h₀ P bt ∧ (∀ b ∈ wr, h₀.get? b = none) ∧
      (∀ b o, h₀.get? b = some o → s₂.heap.get? b = some o) ∧
      ∀ v h' tk, P (argBest bt (n - 1)) v → (∀ b o, b ∉ wr → s₂.heap.get? b = some o → h'.get? b = some o) → Q v { s₂ with heap := h', toks := tk }) E s) :
    wpAny (model prog w) A (call (.builtin "min") [x]) Q E s := by
  have hname : (toString "min" ++ toString ".loop" : String) = "min.loop" := by decide
  refine call_function_tree PySem.F.kind_min PySem.F.plain_min PySem.F.entry_min (PySem.F.args_min1 _) ?_
  show wpAny _ A.in1 (Builtin.Builtins.bindParams "min" ["key", "default"] 0 ⟨[], []⟩ >>= _) _ _ s
  refine wpAny_bind (wpAny_of_eq (show Builtin.Builtins.bindParams "min" ["key", "default"] 0 ⟨[], []⟩ = pure [none, none] from rfl) ?_)
  refine wpAny_bind (wpAny_pure ?_)
  refine wpAny_bind (wpAny_mono h (fun it s₂ h₂ => ?_) fun _ _ e => e)
  obtain ⟨I, fp, wr, n, P, St, bt, h₀, rfl, W, hst, hfp, hn, hcmp, hw, hX, hQ⟩ := h₂
  refine wpAny_bind (wpAny_newObj_type ?_)
  have hSf : s₂.heap.objs.size ∉ fp := fun hm => Nat.lt_irrefl _ (hfp _ hm)
  have hS0 : h₀.get? s₂.heap.objs.size = none := by
    cases e : h₀.get? s₂.heap.objs.size with
    | none => rfl
    | some o => exact absurd (Heap.lt_size (hX _ o e)) (Nat.lt_irrefl _)
  rw [hname]
  refine wpAny_pure ⟨plainId_quiet PySem.F.plain_min_loop _, min_firstH W bt hcmp hw s₂.heap.objs.size hSf hS0 hn (W.frame _ _ _ hst fun b _ o e => Heap.get?_push_of_some _ e) (fun b o e => Heap.get?_push_of_some _ (hX b o e)) (Heap.get?_push_size _ rfl) fun v h' tk hP hk => ?_⟩
  exact hQ v h' tk hP fun b o hbw e => hk b o hbw (Nat.ne_of_lt (Heap.lt_size e)) (Heap.get?_push_of_some _ e)

theorem call_min_twoH {a b : Value} {Q : Value → Shared → Prop}
    (h : wpAny (model prog w) A.in1 (pyIter (.ref s.heap.objs.size)) (fun it s₂ => ∃ I fp wr n P St bt h₀, it = .ref I ∧ Walks prog w A.in1 I fp wr n P St ∧ St 0 s₂.heap ∧ (∀ b ∈ fp, b < s₂.heap.objs.size) ∧ 0 < n ∧ CmpH prog w A.in1 .Lt h₀ P bt ∧ (∀ b ∈ wr, h₀.get? b = none) ∧
      (∀ b o, h₀.get? b = some o → s₂.heap.get? b = some o) ∧
      ∀ v h' tk, P (argBest bt (n - 1)) v → (∀ b o, b ∉ wr → s₂.heap.get? b = some o → h'.get? b = some o) → Q v { s₂ with heap := h', toks := tk }) E
      { s with heap := s.heap.push { cls := .type "tuple", data := .seq #[a, b] } }) :
    wpAny (model prog w) A (call (.builtin "min") [a, b]) Q E s := by
  have hname : (toString "min" ++ toString ".loop" : String) = "min.loop" := by decide
  refine call_function_tree PySem.F.kind_min PySem.F.plain_min PySem.F.entry_min (PySem.F.args_min2 _ _) ?_
  show wpAny _ A.in1 (Builtin.Builtins.bindParams "min" ["key", "default"] 0 ⟨[], []⟩ >>= _) _ _ s
  refine wpAny_bind (wpAny_of_eq (show Builtin.Builtins.bindParams "min" ["key", "default"] 0 ⟨[], []⟩ = pure [none, none] from rfl) ?_)
  show wpAny _ A.in1 (newTuple [a, b] >>= _) _ _ s
  refine wpAny_bind (wpAny_newObj_type ?_)
  refine wpAny_bind (wpAny_mono h (fun it s₂ h₂ => ?_) fun _ _ e => e)
  obtain ⟨I, fp, wr, n, P, St, bt, h₀, rfl, W, hst, hfp, hn, hcmp, hw, hX, hQ⟩ := h₂
  refine wpAny_bind (wpAny_newObj_type ?_)
  have hSf : s₂.heap.objs.size ∉ fp := fun hm => Nat.lt_irrefl _ (hfp _ hm)
  have hS0 : h₀.get? s₂.heap.objs.size = none := by
    cases e : h₀.get? s₂.heap.objs.size with
    | none => rfl
    | some o => exact absurd (Heap.lt_size (hX _ o e)) (Nat.lt_irrefl _)
  rw [hname]
  refine wpAny_pure ⟨plainId_quiet PySem.F.plain_min_loop _, min_firstH W bt hcmp hw s₂.heap.objs.size hSf hS0 hn (W.frame _ _ _ hst fun b _ o e => Heap.get?_push_of_some _ e) (fun b o e => Heap.get?_push_of_some _ (hX b o e)) (Heap.get?_push_size _ rfl) fun v h' tk hP hk => ?_⟩
  exact hQ v h' tk hP fun b o hbw e => hk b o hbw (Nat.ne_of_lt (Heap.lt_size e)) (Heap.get?_push_of_some _ e)
end

section
/-- min of the items of a list, or of two -/
noncomputable def minL (vs : List V) : M V := fun σ => match mapO (toD σ.st 6) vs with
  | some ds => if 0 < vs.length ∧ allCmp ltD ds = true then .ok (vs.getD (argBest (btOf ltD ds) (vs.length - 1)) .none) σ else .stuck
  | none => .stuck
noncomputable def minD : List V → M V
  | [.obj l] => fun σ => match σ.st[l]? with
    | some (.lst vs) => minL vs σ
    | _ => .stuck
  | [a, b] => minL [a, b]
  | _ => fun _ => .stuck
theorem min_cmp {A : Around} {σ : S} {ρ : List Addr} {s : Shared} {vs : List V} {ws : List Value} {ds : List PyData} (g : GRel K σ.st ρ s) (r : RepL K s.heap ρ vs ws) (hd : mapO (toD σ.st 6) vs = some ds) (hall : allCmp ltD ds = true) (hu : A.units + 7 < cLine) :
    CmpH K.prog K.w A .Lt s.heap (fun i v => ws.toArray[i]? = some v) (btOf ltD ds) := by
  intro i j vi vj s' Q E hi hj hX hQ
  have g' : GRel K σ.st ρ { s with heap := s'.heap } := g.kept hX rfl rfl
  have r' := r.mono (Ext.kept (mine := []) hX)
  obtain ⟨ui, e1, ri⟩ := r'.getW (i := i) (by simpa using hi)
  obtain ⟨uj, e2, rj⟩ := r'.getW (i := j) (by simpa using hj)
  obtain ⟨di, f1, t1⟩ := mapO_get hd e1
  obtain ⟨dj, f2, t2⟩ := mapO_get hd e2
  obtain ⟨as, r1, c1, p1⟩ := toD_reads g' 6 ui vi di t1 ri
  obtain ⟨bs, r2, c2, p2⟩ := toD_reads g' 6 uj vj dj t2 rj
  obtain ⟨x, hx⟩ := allCmp_get hall f1 f2
  have hb : btOf ltD ds i j = x := by
    unfold btOf
    rw [f1, f2]; dsimp only; rw [hx]; rfl
  rw [hb] at hQ
  exact ltAt_reads di dj A s' vi vj as bs x r1 r2 c1 c2 (by (first | lia | omega)) hx K.prog K.w E Q hQ
theorem built_minD : BuiltOk K (.builtin "min") minD := by
  intro F fk hnh σ ρ s vs ws rel r
  have hu := fk.units
  unfold minD
  split
  · rename_i l
    obtain ⟨x, r', rfl, r1, r2⟩ := RepL.cons_iff.mp r
    obtain rfl := RepL.nil_iff.mp r2
    cases hl : σ.st[l]? with
    | none => exact Run.stuck
    | some c =>
      cases c with
      | lst us =>
        dsimp only
        unfold minL
        cases hd : mapO (toD σ.st 6) us with
        | none => exact Run.stuck
        | some ds =>
          dsimp only
          by_cases hz : 0 < us.length ∧ allCmp ltD ds = true
          · rw [if_pos hz]
            obtain ⟨a, xs, n, rfl, hρ, hL, hr, hn⟩ := rel.list r1 hl
            have hxl : xs.length = us.length := hr.length
            have hlt : a < s.heap.objs.size := by obtain ⟨_, e, _⟩ := hL.isList; exact Heap.lt_size e
            refine Run.ok (call_min_walkH (wpAny_pyIter_list hL.isList ?_))
            refine ⟨_, [s.heap.objs.size, a], [s.heap.objs.size], xs.toArray.size, _, _, btOf ltD ds, s.heap, rfl, Walks.list (A := F.A.in1) (by show F.A.handled = none; exact fk.hd hnh) _ a (Nat.ne_of_lt hlt) xs.toArray, ⟨⟨_, Heap.get?_push_size _ rfl, rfl, rfl⟩, hL.isList.push _⟩, ?_, by simp; (first | lia | omega), min_cmp rel.toGRel hr hd hz.2 (by have : F.A.in1.units = F.A.units + 1 := rfl; (first | lia | omega)), ?_, fun b o e => Heap.get?_push_of_some _ e, ?_⟩
            · intro b hb
              show b < (s.heap.push _).objs.size
              rw [Heap.size_push]
              simp only [List.mem_cons, List.not_mem_nil, or_false] at hb
              rcases hb with rfl | rfl
              · exact Nat.lt_succ_self _
              · exact Nat.lt_succ_of_lt hlt
            · intro b hb
              rw [List.mem_singleton.mp hb]
              exact Heap.get?_none_of_le (Nat.le_refl _)
            · intro v h' tk hP hk
              have hk' : ∀ b o, s.heap.get? b = some o → h'.get? b = some o := fun b o e => hk b o (by simp; exact Nat.ne_of_lt (Heap.lt_size e)) (Heap.get?_push_of_some _ e)
              refine ⟨ρ, rel.kept hk' rfl rfl, Ext.kept hk', ?_⟩
              have hsz : xs.toArray.size - 1 = us.length - 1 := by simp; (first | lia | omega)
              rw [hsz] at hP
              have hlt2 := argBest_lt (btOf ltD ds) hz.1
              obtain ⟨u, e1, ru⟩ := (hr.mono (Ext.kept (mine := []) hk')).getW (by simpa using hP)
              rw [List.getD_eq_getElem?_getD, e1]; exact ru
          · rw [if_neg hz]; exact Run.stuck
  · rename_i va vb
    obtain ⟨x, r', rfl, r1, r2⟩ := RepL.cons_iff.mp r
    obtain ⟨y, r'', rfl, r3, r4⟩ := RepL.cons_iff.mp r2
    obtain rfl := RepL.nil_iff.mp r4
    unfold minL
    cases hd : mapO (toD σ.st 6) [va, vb] with
    | none => exact Run.stuck
    | some ds =>
      dsimp only
      by_cases hz : 0 < [va, vb].length ∧ allCmp ltD ds = true
      · rw [if_pos hz]
        have hX : ∀ b o, s.heap.get? b = some o → (s.heap.push { cls := .type "tuple", data := .seq #[x, y] }).get? b = some o := fun b o e => Heap.get?_push_of_some _ e
        have hT : (s.heap.push { cls := .type "tuple", data := .seq #[x, y] }).IsTuple s.heap.objs.size [x, y].toArray := ⟨_, Heap.get?_push_size _ rfl, rfl, 0, rfl⟩
        have hsz1 : (s.heap.push { cls := .type "tuple", data := .seq #[x, y] }).objs.size = s.heap.objs.size + 1 := Heap.size_push ..
        refine Run.ok (call_min_twoH (wpAny_pyIter_tuple hT ?_))
        refine ⟨_, [_, s.heap.objs.size], [_], [x, y].toArray.size, _, _, btOf ltD ds, s.heap, rfl, Walks.tuple (A := F.A.in1) (by show F.A.handled = none; exact fk.hd hnh) _ s.heap.objs.size (by rw [hsz1]; exact Nat.ne_of_lt (Nat.lt_succ_self _)) [x, y].toArray, ⟨⟨_, Heap.get?_push_size _ rfl, rfl, rfl⟩, hT.push _⟩, ?_, by simp, min_cmp rel.toGRel r hd hz.2 (by have : F.A.in1.units = F.A.units + 1 := rfl; (first | lia | omega)), ?_, fun b o e => Heap.get?_push_of_some _ (hX b o e), ?_⟩
        · intro b hb
          show b < ((s.heap.push _).push _).objs.size
          rw [Heap.size_push, hsz1]
          simp only [List.mem_cons, List.not_mem_nil, or_false] at hb
          rcases hb with rfl | rfl
          · rw [hsz1]; exact Nat.lt_succ_self _
          · exact Nat.lt_succ_of_lt (Nat.lt_succ_self _)
        · intro b hb
          rw [List.mem_singleton.mp hb]
          exact Heap.get?_none_of_le (by rw [hsz1]; exact Nat.le_succ _)
        · intro v h' tk hP hk
          have hk' : ∀ b o, s.heap.get? b = some o → h'.get? b = some o := fun b o e => hk b o (by simp only [List.mem_singleton]; rw [hsz1]; exact Nat.ne_of_lt (Nat.lt_succ_of_lt (Heap.lt_size e))) (Heap.get?_push_of_some _ (hX b o e))
          refine ⟨ρ, rel.kept hk' rfl rfl, Ext.kept hk', ?_⟩
          have hP' : [x, y][argBest (btOf ltD ds) ([va, vb].length - 1)]? = some v := by simpa using hP
          obtain ⟨u, e1, ru⟩ := (r.mono (Ext.kept (mine := []) hk')).getW hP'
          rw [List.getD_eq_getElem?_getD, e1]; exact ru
      · rw [if_neg hz]; exact Run.stuck
  · exact Run.stuck
end

section
variable {prog : Program} {w : World} {A : Around} {R : Result → Shared → Prop} {I : Addr} {fp wr : List Addr} {n : Nat} {P : Nat → Value → Prop} {St : Nat → Heap → Prop} {h₀ : Heap}
end

section
variable {prog : Program} {w : World} {A : Around} {E : Value → Shared → Prop} {s : Shared}
end

section
end

end Mine


/-! part F26 -/
set_option autoImplicit false
set_option maxRecDepth 100000
set_option linter.unusedVariables false
open PySem PySem.W PyProof.Rows
namespace Mine

variable {K : Glo} {F : Frm}
end Mine


/-! part F27 -/
set_option autoImplicit false
set_option maxRecDepth 100000
set_option linter.unusedVariables false
open PySem PySem.W PyProof.Rows
namespace Mine

variable {K : Glo} {F : Frm}
/-! ### t[:b] of a tuple -/
section
variable {prog : Program} {w : World} {A : Around} {E : Value → Shared → Prop} {s : Shared}
end
end Mine


/-! part F29 -/
set_option autoImplicit false
set_option maxRecDepth 100000
set_option linter.unusedVariables false
open PySem PySem.W PyProof.Rows
namespace Mine

variable {K : Glo} {F : Frm}

/-! ### the frame while an exception is handled -/
noncomputable def Fh (F : Frm) (v : Value) : Frm := ⟨F.env, F.A.mark (some v), F.mine, false⟩
theorem FOk.h (fk : FOk F) (v : Value) : FOk (Fh F v) := ⟨fk.kind, fk.glob, fk.blt, (fun q => by cases q), fk.units⟩
theorem Rel.h {σ : S} {ρ : List Addr} {s : Shared} (rel : Rel K F σ ρ s) (v : Value) : Rel K (Fh F v) σ ρ s :=
  { toGRel := rel.toGRel, vars := rel.vars, loc := rel.loc, cels := rel.cels, mineAbove := rel.mineAbove, mineApart := rel.mineApart, mineLoc := rel.mineLoc, frs := rel.frs }
theorem Rel.unh {σ : S} {ρ : List Addr} {s : Shared} {v : Value} (rel : Rel K (Fh F v) σ ρ s) : Rel K F σ ρ s :=
  { toGRel := rel.toGRel, vars := rel.vars, loc := rel.loc, cels := rel.cels, mineAbove := rel.mineAbove, mineApart := rel.mineApart, mineLoc := rel.mineLoc, frs := rel.frs }
noncomputable def S.del (σ : S) (x : String) : S := { σ with lo := fun y => if y = x then none else σ.lo y }
theorem Rel.del {σ : S} {ρ : List Addr} {s : Shared} (rel : Rel K F σ ρ s) (x : String) : Rel K F (σ.del x) ρ s :=
  { toGRel := rel.toGRel, vars := fun y v e => by
      by_cases hy : y = x
      · simp only [S.del, hy, if_true] at e; cases e
      · simp only [S.del, if_neg hy] at e; exact rel.vars y v e
    loc := rel.loc, cels := rel.cels, mineAbove := rel.mineAbove, mineApart := rel.mineApart, mineLoc := rel.mineLoc, frs := rel.frs }
/-- a name that the plain state does not know is bound, or unbound -/
theorem Rel.setRaw {σ : S} {ρ : List Addr} {s s' : Shared} {x : String} {w : Option Value} {m : Str → Option Value} (rel : Rel K F σ ρ s) (hx : σ.lo x = none) (hm : s.heap.Ns F.env.locals m)
    (hn : s'.heap.Ns F.env.locals (fun y => if y = Str.ofString x then w else m y)) (hs : Heap.SameBut F.env.locals s.heap s'.heap) (hg : s'.gens = s.gens) (ho : s'.os = s.os) : Rel K F σ ρ s' ∧ Ext F.mine ρ ρ s.heap s'.heap := by
  have ht : ∀ b o, s.heap.get? b = some o → Froz o → b ≠ F.env.locals := fun b o e f => ns_ne_tup hm e f
  have hal : ∃ o, s'.heap.get? F.env.locals = some o := by obtain ⟨o, _, _, e, _⟩ := hn; exact ⟨o, e⟩
  have ext : Ext F.mine ρ ρ s.heap s'.heap := Ext.mineBut rel.mineLoc hs hal ht
  have hfr : FrsOk K F s'.heap := rel.frs.next fun b o es n g d => by
    by_cases hb : b = F.env.locals
    · subst hb
      obtain ⟨o', es', ep', g', d', _⟩ := hn
      exact ⟨o', _, _, g', d'⟩
    · exact ⟨o, es, n, (hs.2 b hb).trans g, d⟩
  refine ⟨{ toGRel := rel.toGRel.mineBut (rel.mineAbove _ rel.mineLoc).1 (rel.mineApart _ rel.mineLoc) hs ht hg ho, vars := ?_, loc := ⟨_, hn⟩, cels := ?_, mineAbove := ?_, mineApart := rel.mineApart, mineLoc := rel.mineLoc, frs := hfr }, ext⟩
  · intro y u e
    have hy : y ≠ x := fun q => by rw [q, hx] at e; cases e
    obtain ⟨w', h1, h2⟩ := rel.vars y u e
    refine ⟨w', ?_, h2.mono ext⟩
    rcases h1 with ⟨k1, m1, n1, e1⟩ | ⟨k1, c, e1, n1⟩
    · refine .inl ⟨k1, _, hn, ?_⟩
      have hne : ¬ Str.ofString y = Str.ofString x := fun q => hy (ofString_inj q)
      rw [if_neg hne]
      obtain ⟨o1, es1, ep1, g1, d1, _, f1⟩ := n1
      obtain ⟨o2, es2, ep2, g2, d2, _, f2⟩ := hm
      rw [g1] at g2; cases g2; rw [d1] at d2; cases d2
      rw [← f2, f1]; exact e1
    · exact .inr ⟨k1, c, e1, n1.sameBut hs (fun q => cell_ne_ns n1 hm q.symm)⟩
  · intro y c e
    obtain ⟨v', n⟩ := rel.cels y c e
    exact ⟨v', n.sameBut hs (fun q => cell_ne_ns n hm q.symm)⟩
  · intro b hb
    obtain ⟨h1, o, h2⟩ := rel.mineAbove b hb
    obtain ⟨o', h3⟩ := ext.alive b o h2
    exact ⟨h1, o', h3⟩

/-! ### what stands in a handler's first statement -/
/-- the name n holds an exception with words msg -/
noncomputable def Caught (F : Frm) (n : Str) (v : Value) (cls : String) (msg : Str) (h : Heap) : Prop := ∃ a t tok m, v = .ref a ∧ h.Ns F.env.locals m ∧ m n = some (.ref a) ∧ h.ExcAt a cls (.ref t) ∧ h.TupAt t [.str msg tok]
noncomputable def SimEX (P : Heap → Prop) (K : Glo) (F : Frm) (e : Expr) (m : M V) : Prop := ∀ σ ρ s, Rel K F σ ρ s → P s.heap → Run K F (eval e F.env) (fun h ρ v w => P h ∧ Rep K h ρ v w) (m σ) ρ s
noncomputable def SimSX (P : Heap → Prop) (K : Glo) (F : Frm) (st : Stmt) (m : M Fl) : Prop := ∀ σ ρ s, Rel K F σ ρ s → P s.heap → Run K F (exec st F.env) (FlRep K) (m σ) ρ s
noncomputable def SimSsX (P : Heap → Prop) (K : Glo) (F : Frm) (st : List Stmt) (m : M Fl) : Prop := ∀ σ ρ s, Rel K F σ ρ s → P s.heap → Run K F (execs st F.env) (FlRep K) (m σ) ρ s
section
variable {P : Heap → Prop}
theorem simSX_assign {t e : Expr} {mt : V → M Unit} {m : M V} (pos : Pos) (ht : SimT K F t mt) (h : SimEX P K F e m)
    (hs : swapsWith e (some t) pos.line F.env = pure false := by rfl) (hsw : swappedStores [t] e F.env = pure none := by rfl)
    (hst : assignEach [t] F.env = [(false, assign t F.env)] := by rfl) :
    SimSX P K F (.Assign [t] e pos) (do let v ← m; mt v; pure .next) := by
  intro σ ρ s rel hP
  rw [exec_Assign1]
  refine Run.standAt ?_
  rw [show swapsWithSole [t] e pos.line F.env = pure false from hs, pureBind, if_neg Bool.false_ne_true]
  refine Run.bind (h σ ρ s rel hP) fun v σ₁ ρ₁ s₁ w _ rel₁ x₁ r => ?_
  rw [hsw, hst, pureBind]
  show Run K F (do assign t F.env w; (pure Flow.next : Sem Flow)) _ _ ρ₁ s₁
  exact Run.bind (ht σ₁ ρ₁ s₁ v w rel₁ r.2) fun _ σ₂ ρ₂ s₂ _ _ rel₂ _ _ => Run.pure rel₂ rfl
theorem simSsX_cons {st : Stmt} {sts : List Stmt} {m ms : M Fl} (h : SimSX P K F st m) (hs : SimSs K F sts ms) : SimSsX P K F (st :: sts) (seqM m ms) := by
  intro σ ρ s rel hP
  show Run K F (do match ← exec st F.env with | .next => execs sts F.env | f => pure f) _ _ ρ s
  refine Run.bind (h σ ρ s rel hP) fun f σ₁ ρ₁ s₁ wf _ rel₁ x₁ rf => ?_
  cases f with
  | next => have : wf = .next := rf; subst this; exact hs σ₁ ρ₁ s₁ rel₁
  | brk => have : wf = .brk := rf; subst this; exact Run.pure rel₁ rfl
  | cont => have : wf = .cont := rf; subst this; exact Run.pure rel₁ rfl
  | ret v => obtain ⟨w, e, r⟩ := rf; subst e; exact Run.pure rel₁ ⟨w, rfl, r⟩
end
/-- str(n) of what was caught -/
theorem simEX_strOf (fk : FOk F) {n : String} {v : Value} {cls N : String} {msg : Str} (FX : ExcStrFacts cls N) {np ap pos : Pos} (hx : F.env.kindOf (Str.ofString "str") = some .globalImplicit) (hm : K.mg (Str.ofString "str") = none)
    (hn : F.env.kindOf (Str.ofString n) = some .local) (hst : starEach [.Name (Str.ofString n) ap] F.env = [(false, eval (.Name (Str.ofString n) ap) F.env)] := by rfl)
    (hd : (Str.ofString n == ("__debug__" : Str)) = false := by decide) :
    SimEX (Caught F (Str.ofString n) v cls msg) K F (.Call (.Name (Str.ofString "str") np) [.Name (Str.ofString n) ap] [] pos) (pure (.str msg)) := by
  intro σ ρ s rel hP
  have hP0 := hP
  obtain ⟨a, t, tok, m, h1, h2, h3, h4, h5⟩ := hP
  refine Run.ok ?_
  rw [eval_CallName]
  refine wpAny_bind (wp_builtin fk rel hx hm (v := .type "str") (by decide +kernel) ?_)
  refine wp_callWith rfl (by rw [backTo_any, hst]; rfl) ?_
  rw [hst]
  show wpAny _ _ (spliced ((false, eval (.Name (Str.ofString n) ap) F.env) :: backTo pos [])) _ _ s
  rw [spliced_cons_eq]
  refine wpAny_bind (wpAny_Name (wpAny_loadName_local fk.kind hn h2 h3 ?_) hd)
  refine wpAny_bind (wpAny_holding (wpAny_pure ?_))
  refine wpAny_pure ?_
  have hu := fk.units
  exact P.str_of_exc_one FX (by (first | lia | omega)) h4 h5 ⟨ρ, rel, Ext.refl .., hP0, Rep.str ..⟩

end Mine


/-! part F30 -/
set_option autoImplicit false
set_option maxRecDepth 100000
set_option linter.unusedVariables false
open PySem PySem.W PyProof.Rows
namespace Mine

variable {K : Glo} {F : Frm}

/-! ### try: .. except T as n: .. -/
noncomputable def tryM (body : M Fl) (h : Exc → M Fl) : M Fl := fun σ => match body σ with
  | .ok f σ' => .ok f σ'
  | .exc e σ' => h e σ'
  | .stuck => .stuck
noncomputable def noH : Exc → M Fl := fun _ => stuck
noncomputable def hndM (T n : String) (mh : Str → M Fl) (rest : Exc → M Fl) : Exc → M Fl := fun e σ =>
  if e.cls = T then (match mh e.msg (σ.del n) with
    | .ok f σ' => .ok f (σ'.del n)
    | _ => .stuck)
  else if e.cls = "IndexError" ∨ e.cls = "TypeError" then rest e σ else .stuck

noncomputable def SimHs (K : Glo) (F : Frm) (hs : List ExceptHandler) (h : Exc → M Fl) : Prop := ∀ e σ ρ ρ₀ h₀ s v, Rel K F σ ρ s → Ext F.mine ρ₀ ρ h₀ s.heap → XRepN K F e h₀ v s → h e σ ≠ .stuck →
  wpAny (model K.prog K.w) F.A (handleBy v F.env hs) (QO K F (FlRep K) (h e σ) ρ₀ h₀) (EO K F (h e σ) ρ₀ h₀) s
theorem simHs_nil : SimHs K F [] noH := fun _ _ _ _ _ _ _ _ _ _ hne => absurd rfl hne

structure ExcT (T : String) : Prop where
  exc : isSubtype (.type T) (.type "BaseException") = pure true
  nt : isSubtype (.type ((Manifest.find? T).elim "type" fun x => x.metatype)) (.type "tuple") = pure false
  self : isSubtype (.type T) (.type T) = pure true
  ix : "IndexError" ≠ T → isSubtype (.type "IndexError") (.type T) = pure false
  ty : "TypeError" ≠ T → isSubtype (.type "TypeError") (.type T) = pure false
theorem excT_TypeError : ExcT "TypeError" := ⟨by rw [isSubtype_type]; kernel_rfl, by rw [isSubtype_type]; kernel_rfl, by rw [isSubtype_type]; kernel_rfl, fun _ => by rw [isSubtype_type]; kernel_rfl, fun h => absurd rfl h⟩

theorem simHs_as (fk : FOk F) {T n : String} {np pos : Pos} {b₀ : Stmt} {suite : List Stmt} {rest : List ExceptHandler} {mh : Str → M Fl} {mr : Exc → M Fl} (HT : ExcT T)
    (hx : F.env.kindOf (Str.ofString T) = some .globalImplicit) (hm : K.mg (Str.ofString T) = none) (hb : bootBuiltins (Str.ofString T) = some (.type T)) (hn : F.env.kindOf (Str.ofString n) = some .local)
    (hs : ∀ v msg, SimSsX (Caught (Fh F v) (Str.ofString n) v T msg) K (Fh F v) (b₀ :: suite) (mh msg)) (hr : SimHs K F rest mr)
    (hnn : Str.ofString T ≠ "__name__" := by decide) (hdd : (Str.ofString T == ("__debug__" : Str)) = false := by decide) :
    SimHs K F (.ExceptHandler (some (.Name (Str.ofString T) np)) (some (Str.ofString n)) (b₀ :: suite) pos :: rest) (hndM T n mh mr) := by
  intro e σ ρ ρ₀ h₀ s v rel ext x hne
  have x0 := x
  obtain ⟨X, hfresh, hX, hcls, a, t, tok, oe, vs, rfl, haX, ht, ha, hc, hd, h0, hst⟩ := x0
  have hT : s.TypeIs (.ref a) e.cls := ⟨oe, ha, hc⟩
  unfold hndM at hne ⊢
  by_cases hq : e.cls = T
  · rw [if_pos hq] at hne ⊢
    subst hq
    refine wpAny_handleBy_builtin_as (X := e.cls) (T := e.cls) (b := true) HT.exc HT.nt HT.self ?_
    refine wp_builtin (F := Fh F (.ref a)) (fk.h _) (rel.h _) hx hm hb ⟨rfl, hT, ?_⟩ hnn hdd
    rw [if_pos rfl]
    refine XRepB.flight (F := Fh F (.ref a)) (e := e) (ρ₀ := ρ₀) (h₀ := h₀) x (rel.h _) ext (.inl rfl) fun s₂ rel₂ ext₂ x₂ => ?_
    obtain ⟨X₂, f₂, g₂, _, a', t', tok', oe', vs', q1, q2, q3, q4, q5, q6, q7, q8⟩ := x₂
    cases q1
    have rel₂' := (rel₂.del n)
    obtain ⟨m, hm₂⟩ := rel₂.loc
    refine wpAny_storeName_local (env := F.env) hn hm₂ (fun h' hn' hs' => ?_) (by rw [show F.env.scope.kind = .function from fk.kind]; rfl)
    obtain ⟨rel₃, x₃⟩ := rel₂'.setRaw (s' := { s₂ with heap := h', toks := s₂.toks + 1 }) (x := n) (w := some (.ref a)) (by simp [S.del]) hm₂ hn' hs' rfl rfl
    have hal : a ≠ F.env.locals := fun q => (g₂ a q2).2 (q ▸ rel.mineLoc)
    have hcaught : Caught (Fh F (.ref a)) (Str.ofString n) (.ref a) e.cls e.msg h' := by
      obtain ⟨o3, g3, c3, n3, d3⟩ := q3
      refine ⟨a, t', tok', _, rfl, hn', by simp, ⟨oe', vs', (hs'.2 a hal).trans q4, q5, q6, q7⟩, ?_⟩
      exact ⟨o3, n3, x₃.froz t' o3 g3 (.inl ⟨c3, _, n3, d3⟩), c3, d3⟩
    have hrun := hs (.ref a) e.msg (σ.del n) ρ { s₂ with heap := h', toks := s₂.toks + 1 } rel₃ hcaught
    cases em : mh e.msg (σ.del n) with
    | stuck => rw [em] at hne; exact absurd rfl hne
    | exc y z => rw [em] at hne; exact absurd rfl hne
    | ok f σ' =>
      (try rw [em] at hrun); (try rw [em] at hne); (try dsimp only at hne ⊢)
      refine wpAny_mono hrun (fun wf s₄ h₄ => ?_) fun _ _ h => h.elim
      obtain ⟨ρ', rel₄, x₄, rf⟩ := h₄
      obtain ⟨m₄, hm₄⟩ := rel₄.loc
      refine wpAny_nameGoes_keeps hn hm₄ (by rw [show F.env.scope.kind = .function from fk.kind]; rfl) fun h₅ u hn₅ hs₅ => ?_
      obtain ⟨rel₅, x₅⟩ := (rel₄.unh.del n).setRaw (s' := { s₄ with heap := h₅, toks := s₄.toks + 1 }) (x := n) (w := u) (by simp [S.del]) hm₄ hn₅ hs₅ rfl rfl
      refine ⟨f, σ'.del n, ρ', rfl, rel₅, ((ext₂.trans x₃).trans x₄).trans x₅, ?_⟩
      cases f with
      | ret v' =>
        obtain ⟨w, e1, r1⟩ := rf
        exact ⟨w, e1, r1.mono x₅⟩
      | _ => exact rf
  · rw [if_neg hq] at hne ⊢
    by_cases hk : e.cls = "IndexError" ∨ e.cls = "TypeError"
    · rw [if_pos hk] at hne ⊢
      have hsub : isSubtype (.type e.cls) (.type T) = pure false := by
        rcases hk with h | h
        · rw [h] at hq ⊢; exact HT.ix hq
        · rw [h] at hq ⊢; exact HT.ty hq
      refine wpAny_handleBy_builtin_as (X := e.cls) (T := T) (b := false) HT.exc HT.nt hsub ?_
      refine wp_builtin (F := Fh F (.ref a)) (fk.h _) (rel.h _) hx hm hb ⟨rfl, hT, ?_⟩ hnn hdd
      rw [if_neg Bool.false_ne_true]
      exact hr e σ ρ ρ₀ h₀ s _ rel ext x hne
    · rw [if_neg hk] at hne; exact absurd rfl hne

theorem simS_try (fk : FOk F) {body : List Stmt} {h₀ : ExceptHandler} {hs : List ExceptHandler} {pos : Pos} {mb : M Fl} {mh : Exc → M Fl} (hb : SimSs K F body mb) (hh : SimHs K F (h₀ :: hs) mh) :
    SimS K F (.Try body (h₀ :: hs) [] [] pos) (tryM mb mh) := by
  intro σ ρ s rel
  refine Run.of_wp fun hne => ?_
  refine wpAny_Try_except ?_
  unfold tryM at hne ⊢
  have hrun := hb σ ρ s rel
  cases em : mb σ with
  | stuck => rw [em] at hne; exact absurd rfl hne
  | ok f σ' =>
    (try rw [em] at hrun); (try rw [em] at hne); (try dsimp only at hne ⊢)
    refine wpAny_mono hrun (fun wf s₁ h₁ => ?_) fun _ _ h => h.elim
    obtain ⟨ρ', rel₁, x₁, rf⟩ := h₁
    have fin : QO K F (FlRep K) (.ok f σ') ρ s.heap wf s₁ := ⟨f, σ', ρ', rfl, rel₁, x₁, rf⟩
    cases f with
    | next => have : wf = .next := rf; subst this; exact wpAny_execs_nil fin
    | brk => have : wf = .brk := rf; subst this; exact fin
    | cont => have : wf = .cont := rf; subst this; exact fin
    | ret v => obtain ⟨w, e, r⟩ := id rf; subst e; exact fin
  | exc e σ' =>
    (try rw [em] at hrun); (try rw [em] at hne); (try dsimp only at hne ⊢)
    refine wpAny_mono hrun (fun _ _ h => h.elim) fun v s₁ h₁ => ?_
    obtain ⟨ρ', rel₁, x₁, xr⟩ := h₁
    refine xr.noted rel₁ x₁ fun s₂ rel₂ x₂ xn => ?_
    refine XRepB.flight xn rel₂ x₂ (.inl rfl) fun s₃ rel₃ x₃ xf => ?_
    refine hh e σ' ρ' ρ s.heap s₃ v rel₃ x₃ ?_ hne
    obtain ⟨X', f', g', hc', a', t', tok', oe', vs', q1, q2, q3, q4, q5, q6, q7, q8⟩ := xf
    refine ⟨X', f', g', hc', a', t', tok', oe', vs', q1, q2, q3, q4, q5, q6, q7, ?_⟩
    rcases q8 with ⟨q, _⟩ | ⟨T', oT', ts', fl', r1, r2, r3, r4, r5, r6, r7, r8⟩
    · cases q
    · exact .inr ⟨T', oT', ts', fl', r1, r2, r3, r4, r5, r6, r7, r8.1⟩

end Mine


/-! part F31 -/
set_option autoImplicit false
set_option maxRecDepth 100000
set_option linter.unusedVariables false
open PySem PySem.W PyProof.Rows
namespace Mine

variable {K : Glo} {F : Frm}
/-! ### list(x) of a list or a tuple -/
noncomputable def listB : List V → M V
  | [.obj l] => fun σ => match σ.st[l]? with
    | some (.lst vs) => .ok (.obj σ.st.length) { σ with st := σ.st ++ [.lst vs] }
    | _ => .stuck
  | [.tup vs] => fun σ => .ok (.obj σ.st.length) { σ with st := σ.st ++ [.lst vs] }
  | _ => stuck

theorem list_out {σ : S} {ρ : List Addr} {s : Shared} {T : String} {o : Obj} {it : Addr} {items : List Value} {n : Nat} {vs : List V} (rel : Rel K F σ ρ s) (hT : T = "list" ∨ T = "tuple")
    (ho : s.heap.get? it = some o) (hc : o.cls = .type T) (hd : o.data = .seq items.toArray n) (hr : RepL K s.heap ρ vs items) (hn : vs.length ≤ 1000000) :
    wpAny (model K.prog K.w) F.A (PySem.call (.type "list") [.ref it]) (fun v s' => ∃ ρ', Rel K F { σ with st := σ.st ++ [.lst vs] } ρ' s' ∧ Ext F.mine ρ ρ' s.heap s'.heap ∧ Rep K s'.heap ρ' (.obj σ.st.length) v) (fun _ _ => False) s := by
  refine call_list_seq it hT ho hc hd (fun h' c' hk hD => ?_) (sizeLine_ge (by rw [List.size_toArray, hr.length]; exact hn))
  obtain ⟨rel', x'⟩ := rel.newAt (s' := { s with heap := h' }) (a := s.heap.objs.size) (n := c') hk (Heap.get?_none_of_le (Nat.le_refl _)) hD hr hn rfl rfl
  exact ⟨_, rel', x', Rep.obj_iff.mpr ⟨_, by rw [← rel.len]; exact List.getElem?_concat_length, rfl⟩⟩

theorem built_list : BuiltOk K (.type "list") listB := by
  intro F fk hnh σ ρ s vs ws rel r
  unfold listB
  split
  · rename_i l
    obtain ⟨x, r', rfl, r1, r2⟩ := RepL.cons_iff.mp r
    obtain rfl := RepL.nil_iff.mp r2
    cases hl : σ.st[l]? with
    | none => exact Run.stuck
    | some c =>
      cases c with
      | lst us =>
        dsimp only
        obtain ⟨a, xs, n, rfl, hρ, hL, hr, hn⟩ := rel.list r1 hl
        exact Run.ok (list_out rel (.inl rfl) hL rfl rfl hr hn)
  · rename_i us
    obtain ⟨x, r', rfl, r1, r2⟩ := RepL.cons_iff.mp r
    obtain rfl := RepL.nil_iff.mp r2
    obtain ⟨hz, a, xs, rfl, ⟨o, ho, hc, n, hd⟩, hr⟩ := Rep.tup_iff.mp r1
    exact Run.ok (list_out rel (.inr rfl) ho hc hd hr hz)
  · exact Run.stuck

end Mine


/-! part F32 -/
set_option autoImplicit false
set_option maxRecDepth 100000
set_option linter.unusedVariables false
open PySem PySem.W PyProof.Rows
namespace Mine

variable {K : Glo} {F : Frm}

/-! ### less than, where TypeError counts -/
noncomputable def ltWords (a b : String) : String := s!"'{"<"}' not supported between instances of '{a}' and '{b}'"
noncomputable def teD : PyData → PyData → Option (String × String)
  | .tuple _, .none => some ("tuple", "NoneType")
  | .int _, .str _ => some ("int", "str")
  | .str _, .int _ => some ("str", "int")
  | _, _ => none
noncomputable def teX (a b : V) : M V := fun σ => match toD σ.st 6 a, toD σ.st 6 b with
  | some d, some d' => match teD d d' with
    | some p => .exc ⟨"TypeError", Str.ofString (ltWords p.1 p.2)⟩ σ
    | none => .stuck
  | _, _ => .stuck
noncomputable def ltX (a b : V) : M V := fun σ => match ltV a b σ with
  | .stuck => teX a b σ
  | r => r

section
variable {A : Around} {E : Value → Shared → Prop} {s : Shared}
theorem lt_declined {a b : Value} {Ta Tb ida idb : String} {Q : Value → Shared → Prop} (hh : A.handled = none) (ha : s.TypeIs a Ta) (hb : s.TypeIs b Tb)
    (hne : (Value.type Ta != Value.type Tb) = true) (hsub : isSubtype (.type Tb) (.type Ta) = pure false) (h1 : Slot Ta (cmpInfo .Lt).2.1 ida) (h2 : Slot Tb (cmpInfo .Lt).2.2 idb)
    (hna : (Value.type Ta == Value.type "builtin_function_or_method") = false) (hnb : (Value.type Tb == Value.type "builtin_function_or_method") = false)
    (hc1 : ∀ Q' : Value → Shared → Prop, Q' .notImplemented s → wpAny (model K.prog K.w) A (call (.builtin ida) [a, b]) Q' E s)
    (hc2 : ∀ Q' : Value → Shared → Prop, Q' .notImplemented s → wpAny (model K.prog K.w) A (call (.builtin idb) [b, a]) Q' E s)
    (hr : [a, b].any Value.onHeap = false ∨ A.units < cLine) (hw : (Str.ofString (ltWords (shownName Ta) (shownName Tb))).length ≤ sizeLine)
    (h : E (.ref (s.heap.objs.size + 1)) { s with heap := excHeap s.heap "TypeError" (Str.ofString (ltWords (shownName Ta) (shownName Tb))) s.toks, toks := s.toks + 1 }) : wpAny (model K.prog K.w) A (richCompare .Lt a b) Q E s := by
  rcases hi : cmpInfo CmpOp.Lt with ⟨sym, f, r⟩
  have hs : sym = "<" := by have := congrArg Prod.fst hi; exact this.symm
  subst hs
  rw [hi] at h1 h2
  simp only [richCompare, hi, ha.oneThing_none]
  try with_reducible refine wpAny_holding ?_
  refine wpAny_bind (wpAny_cRoomFor_or hr ?_)
  refine wpAny_bind (wpAny_typeOf ha (wpAny_bind (wpAny_typeOf hb ?_)))
  simp only [hne, if_true]
  refine wpAny_bind (wpAny_of_eq hsub ?_)
  simp only [Bool.false_eq_true, if_false, Bool.not_false, if_true]
  refine wpAny_bind (m := tryCompare a _ b) (wpAny_tryCompare_declines ha h1 (hc1 _ ⟨rfl, ?_⟩))
  refine wpAny_bind (m := tryCompare b _ a) (wpAny_tryCompare_declines hb h2 (hc2 _ ⟨rfl, ?_⟩))
  refine wpAny_bind (wpAny_rule (wpAny_bind (wpAny_typeNameOf' ha hna (wpAny_bind (wpAny_typeNameOf' hb hnb ?_)))))
  exact raise_made plainExc_TypeError hh hw h

theorem tuple_lt_none (l : Addr) (items : Array Value) (n : Nat) (dd : Option Addr) (sl : Array (Option Value)) :
    Meets (Builtin.«tuple.__lt__» ⟨[.ref l, .none], []⟩) (fun _ R s => s.heap.get? l = some { cls := .type "tuple", dict := dd, data := .seq items n, slots := sl } ∧ R (.ok (.ret .notImplemented)) s) :=
  .of_wp fun prog w A R s h => by obtain ⟨hp, g, d, tk, os⟩ := s; obtain ⟨hl, h⟩ := h; have f1 := F.sub_NoneType_tuple; wp_walk using wpAny_loadPart' hl; exact ⟨_, rfl, h⟩
theorem none_gt_ref (l : Addr) : Gives (Builtin.«NoneType.__gt__» ⟨[.none, .ref l], []⟩) (.val .notImplemented) :=
  .of_wp fun M A E s Q h => by obtain ⟨hp, g, d, tk, os⟩ := s; wp_walk; exact ⟨_, rfl, h⟩
theorem int_lt_str (i : Int) (t : Tok) (x : Str) (u : Tok) : Gives (Builtin.«int.__lt__» ⟨[.int i t, .str x u], []⟩) (.val .notImplemented) :=
  .of_wp fun M A E s Q h => by obtain ⟨hp, g, d, tk, os⟩ := s; wp_walk; exact ⟨_, rfl, h⟩
theorem int_gt_str (i : Int) (t : Tok) (x : Str) (u : Tok) : Gives (Builtin.«int.__gt__» ⟨[.int i t, .str x u], []⟩) (.val .notImplemented) :=
  .of_wp fun M A E s Q h => by obtain ⟨hp, g, d, tk, os⟩ := s; wp_walk; exact ⟨_, rfl, h⟩
theorem str_lt_int (i : Int) (t : Tok) (x : Str) (u : Tok) : Gives (Builtin.«str.__lt__» ⟨[.str x u, .int i t], []⟩) (.val .notImplemented) :=
  .of_wp fun M A E s Q h => by obtain ⟨hp, g, d, tk, os⟩ := s; wp_walk; exact ⟨_, rfl, h⟩
theorem str_gt_int (i : Int) (t : Tok) (x : Str) (u : Tok) : Gives (Builtin.«str.__gt__» ⟨[.str x u, .int i t], []⟩) (.val .notImplemented) :=
  .of_wp fun M A E s Q h => by obtain ⟨hp, g, d, tk, os⟩ := s; wp_walk; exact ⟨_, rfl, h⟩

/-- a < b is a TypeError that names x and y -/
noncomputable def TeAt (K : Glo) (A : Around) (s : Shared) (a b : Value) (x y : String) : Prop := ∀ (Q : Value → Shared → Prop) (E : Value → Shared → Prop),
  E (.ref (s.heap.objs.size + 1)) { s with heap := excHeap s.heap "TypeError" (Str.ofString (ltWords x y)) s.toks, toks := s.toks + 1 } → wpAny (model K.prog K.w) A (richCompare .Lt a b) Q E s
theorem teAt_tuple_none {l : Addr} {items : Array Value} (hh : A.handled = none) (hu : A.units < cLine) (hl : s.heap.IsTuple l items) : TeAt K A s (.ref l) .none "tuple" "NoneType" := by
  intro Q E h
  obtain ⟨⟨cls, dd, data, sl⟩, ho, hc, n, hd⟩ := id hl
  simp only at hc hd
  subst hc hd
  exact lt_declined hh ⟨_, ho, rfl⟩ rfl (by decide) F.sub_NoneType_tuple F.slot_tuple_lt F.slot_NoneType_gt_refl (by decide) (by decide)
    (fun _ hq => call_meets F.slot_tuple_lt ⟨_, ho, rfl⟩ F.entry_tuple_lt (F.args_tuple_lt_2 _ _) (tuple_lt_none l items n dd sl) ⟨ho, hq⟩)
    (fun _ hq => call_gives F.slot_NoneType_gt_refl rfl F.entry_NoneType_gt (F.args_NoneType_gt_2 _ _) (none_gt_ref l) hq) (.inr hu) (by decide +kernel) h
theorem teAt_int_str {i : Int} {t : Tok} {x : Str} {u : Tok} (hh : A.handled = none) : TeAt K A s (.int i t) (.str x u) "int" "str" := by
  intro Q E h
  exact lt_declined hh (typeIs_int s i t) (typeIs_str s x u) (by decide) F.sub_str_int F.slot_int_lt F.slot_str_gt_refl (by decide) (by decide)
    (fun _ hq => call_gives F.slot_int_lt (typeIs_int s i t) F.entry_int_lt (F.args_int_lt_2 _ _) (int_lt_str i t x u) hq)
    (fun _ hq => call_gives F.slot_str_gt_refl (typeIs_str s x u) F.entry_str_gt (F.args_str_gt_2 _ _) (str_gt_int i t x u) hq) (.inl rfl) (by decide +kernel) h
theorem teAt_str_int {i : Int} {t : Tok} {x : Str} {u : Tok} (hh : A.handled = none) : TeAt K A s (.str x u) (.int i t) "str" "int" := by
  intro Q E h
  exact lt_declined hh (typeIs_str s x u) (typeIs_int s i t) (by decide) F.sub_int_str F.slot_str_lt F.slot_int_gt_refl (by decide) (by decide)
    (fun _ hq => call_gives F.slot_str_lt (typeIs_str s x u) F.entry_str_lt (F.args_str_lt_2 _ _) (str_lt_int i t x u) hq)
    (fun _ hq => call_gives F.slot_int_gt_refl (typeIs_int s i t) F.entry_int_gt (F.args_int_gt_2 _ _) (int_gt_str i t x u) hq) (.inl rfl) (by decide +kernel) h
theorem teAt_reads {d d' : PyData} {a b : Value} {as bs : List Addr} {p : String × String} (hh : A.handled = none) (hu : A.units < cLine) (r1 : Reads s.heap a d as) (r2 : Reads s.heap b d' bs) (e : teD d d' = some p) :
    TeAt K A s a b p.1 p.2 := by
  cases d <;> cases d' <;> simp only [teD, reduceCtorEq, Option.some.injEq] at e
  all_goals subst e
  · cases r1; cases r2; exact teAt_int_str hh
  · cases r1; cases r2; exact teAt_str_int hh
  · cases r1 with
    | tuple hl hc hd _ => cases r2; exact teAt_tuple_none hh hu ⟨_, hl, hc, _, hd⟩
end

noncomputable def CmpOkX (K : Glo) (op : CmpOp) (f : V → V → M V) : Prop :=
  ∀ F : Frm, FOk F → F.nh = true → ∀ σ ρ s a b wa wb, Rel K F σ ρ s → Rep K s.heap ρ a wa → Rep K s.heap ρ b wb → Run K F (compareOp op wa wb) (Rep K) (f a b σ) ρ s
theorem cmp_ltX : CmpOkX K .Lt ltX := by
  intro F fk nh σ ρ s a b wa wb rel ra rb
  have h0 := cmp_lt F fk σ ρ s a b wa wb rel ra rb
  unfold ltX
  cases e : ltV a b σ with
  | ok v σ' => rw [e] at h0; exact h0
  | exc x σ' => rw [e] at h0; exact h0
  | stuck =>
    dsimp only
    unfold teX
    cases e1 : toD σ.st 6 a with
    | none => exact Run.stuck
    | some d =>
      cases e2 : toD σ.st 6 b with
      | none => exact Run.stuck
      | some d' =>
        obtain ⟨as, r1, c1, p1⟩ := toD_reads rel.toGRel 6 a wa d e1 ra
        obtain ⟨bs, r2, c2, p2⟩ := toD_reads rel.toGRel 6 b wb d' e2 rb
        dsimp only
        cases e3 : teD d d' with
        | none => exact Run.stuck
        | some p =>
          have hu := fk.units
          exact teAt_reads (fk.hd nh) (by (first | lia | omega)) r1 r2 e3 _ _ (x_made rel (by decide))
theorem simB_cmpX (fk : FOk F) {op : CmpOp} {f : V → V → M V} (ho : CmpOkX K op f) {tr : V → M Bool} (ht : TruOk K tr) {l r : Expr} {ml mr : M V} (pos : Pos) (hl : SimE K F l ml) (hr : SimE K F r mr)
    (hm : behindInMarks op r = false := by rfl) (hnh : F.nh = true := by rfl) :
    SimB K F (.Compare l [op] [r] pos) (do let a ← ml; let b ← mr; let c ← f a b; tr c) := by
  intro σ ρ s rel
  have e : isTrue (.Compare l [op] [r] pos) F.env (eval (.Compare l [op] [r] pos) F.env) = (do let left ← eval l F.env; let rv ← holding [left] (eval r F.env); standAt pos; let c ← operate [left, rv] (compareOp op left rv); holding [c] (truthy c)) := by
    rw [isTrue_Compare1]
    simp only [markedBehindIn_of_false hm]
  rw [e]
  refine Run.bind (hl σ ρ s rel) fun a σ₁ ρ₁ s₁ wa _ rel₁ x₁ ra => ?_
  refine Run.bind (Run.holding (hr σ₁ ρ₁ s₁ rel₁)) fun b σ₂ ρ₂ s₂ wb _ rel₂ x₂ rb => ?_
  refine Run.standAt (Run.bind (Run.operate (ho F fk hnh σ₂ ρ₂ s₂ a b wa wb rel₂ (ra.mono x₂) rb)) fun c σ₃ ρ₃ s₃ wc _ rel₃ x₃ rc => ?_)
  exact Run.holding (ht F fk σ₃ ρ₃ s₃ c wc rel₃ rc)
theorem ltX_ok {a b r : V} {σ σ' : S} (h : ltV a b σ = .ok r σ') : ltX a b σ = .ok r σ' := by unfold ltX; rw [h]
end Mine


/-! part F33 -/
set_option autoImplicit false
set_option maxRecDepth 100000
set_option linter.unusedVariables false
open PySem PySem.W PyProof.Rows
namespace Mine

variable {K : Glo} {F : Frm}

/-! ### a clause within a clause -/
noncomputable def nestT (mc : Nat → (S → Nat → Option (Option V)) → M Unit) (l : Nat) (v : V) : M Unit := fun σ => match okIter v σ with
  | .ok _ _ => match mc l (nxtOf v) σ with
    | .ok _ σ' => .ok () σ'
    | _ => .stuck
  | _ => .stuck
theorem simA_nest (fk : FOk F) {elt iter : Expr} {gens : List Comprehension} {scope : Scope} {pos : Pos} {d : Nat} {mi : M V} {mc : Nat → (S → Nat → Option (Option V)) → M Unit} (hi : SimE K F iter mi)
    (hc : SimClauses K F elt gens scope pos (d + 1) mc) (l : Nat) (a : Addr) (hs : ∀ x, foldedSetIterable iter F.env x = pure x := by intro _; rfl) (hnh : F.nh = true := by rfl) :
    SimA K F l a (nestL (.ListComp elt gens scope pos) d iter F.env (.ref a)) (mi >>= nestT mc l) := by
  intro σ ρ s rel hla
  unfold nestL
  refine Run.bind (hi σ ρ s rel) fun v σ₁ ρ₁ s₁ w _ rel₁ x₁ rv => ?_
  refine Run.standAt ?_
  rw [hs w, pure_bind]
  refine Run.of_wp fun hne => ?_
  cases hok : okIter v σ₁ with
  | stuck => exact absurd (by unfold nestT; rw [hok]) hne
  | exc e y => exact absurd (by unfold nestT; rw [hok]) hne
  | ok u y =>
    have hok' := okIter_ok hok
    have eT : nestT mc l v σ₁ = (match mc l (nxtOf v) σ₁ with
      | .ok _ σ' => .ok () σ'
      | _ => .stuck) := by unfold nestT; rw [hok]
    cases hm : mc l (nxtOf v) σ₁ with
    | stuck => rw [hm] at eT; exact absurd eT hne
    | exc e y => rw [hm] at eT; exact absurd eT hne
    | ok u σ₂ =>
      rw [hm] at eT
      dsimp only at eT
      obtain ⟨obj, Src, hsrc, hfr, hIt, hpy⟩ := wp_pyIter rel₁ rv hok'
      obtain ⟨f0, f1, f2, f3⟩ := fresh_facts rel₁
      refine wpAny_bind (wpAny_holding (hpy _ _ _ ?_))
      have rel₂ := rel₁.push obj s₁.toks
      have main := hc l a s₁.heap.objs.size Src (nxtOf v) σ₁ ρ₁ ρ₁ { s₁ with heap := s₁.heap.push obj } s₁.heap obj (hIt F fk hnh) rel₂ (getElem?_prefix x₁.pre hla) (Ext.push obj) f0 f1 f2 f3 (Heap.get?_push_size _ hfr) hsrc (by rw [hm]; simp)
      refine wpAny_bind (wpAny_runOwn (codeAny_mono main fun r s' h => ?_))
      cases r with
      | error v' => obtain ⟨x, σ', ρ', em, _⟩ := h; rw [hm] at em; cases em
      | ok f =>
        obtain ⟨σ', ρ', em, r1, r2, r4⟩ := h
        rw [hm] at em; cases em
        exact wpAny_pure ⟨(), σ₂, ρ', eT, r1, r2, trivial⟩
/-! ### a comprehension whose own name is shared with one inside it -/
noncomputable def compFrmY (F : Frm) (scope : Scope) (y : String) (C : Addr) : Frm := ⟨compEnvC scope [(Str.ofString y, C + 1)] C F.env, F.A, [C, C + 1], F.nh⟩
theorem FOk.compY (fk : FOk F) {scope : Scope} {y : String} {C : Addr} (hk : scope.kind = .function) : FOk (compFrmY F scope y C) := ⟨hk, fk.glob, fk.blt, fk.hd, fk.units⟩
structure CompOkY (F : Frm) (scope : Scope) (y : String) : Prop where
  clos : closureFor scope F.env = pure []
  kind : scope.kind = .function
  names : ∀ x ∈ scope.names, x.2 = .local → scope.names.lookup x.1 = some .local
  from1 : ∀ n, cellsFrom n scope.names [] = [(Str.ofString y, n)]
  push1 : ∀ h, pushCells h scope.names = h.push { cls := .type "cell", data := .cell none }
theorem wp_newEnvY {M : Model} {A : Around} {E : Value → Shared → Prop} {s : Shared} {scope : Scope} {y : String} {globals : Addr} {qual : Str} {env : Env} {Q : Env → Shared → Prop} (ck : CompOkY F scope y)
    (hQ : ∀ h', h'.Ns s.heap.objs.size (fun _ => none) → h'.IsCell (s.heap.objs.size + 1) none → (∀ b o, s.heap.get? b = some o → h'.get? b = some o) →
      Q (newEnv scope s.heap.objs.size globals [(Str.ofString y, s.heap.objs.size + 1)] qual none .none (some env) builtinsNs) { s with heap := h' }) :
    wpAny M A (newFunctionEnv scope globals [] [] qual none .none (some env)) Q E s := by
  simp only [newFunctionEnv, Option.isSome_some, if_true]
  refine wpAny_bind (wpAny_alloc ?_)
  refine wpAny_bind (wpAny_layCells _ (fun name kind cells => by cases hkc : kind == NameKind.cell <;> simp [hkc]) _ _ _ _ ?_)
  rw [ck.from1, ck.push1]
  rw [show ({ s with heap := s.heap.push { cls := .type "dict", data := .dict #[] } } : Shared).heap.objs.size = s.heap.objs.size + 1 from Heap.size_push ..]
  have hsz : (s.heap.push { cls := .type "dict", data := .dict #[] }).objs.size = s.heap.objs.size + 1 := Heap.size_push ..
  rw [List.forIn_nil]
  have hcl : ((s.heap.push { cls := .type "dict", data := .dict #[] }).push { cls := .type "cell", data := .cell none }).IsCell (s.heap.objs.size + 1) none := by
    rw [← hsz]; exact ⟨_, Heap.get?_push_size _ rfl, rfl⟩
  exact wpAny_bind (wpAny_pure (wpAny_pure (hQ _ ((Heap.Ns.new s.heap (.type "dict")).keeps fun b o e => Heap.get?_push_of_some _ e) hcl fun b o e => Heap.get?_push_of_some _ (Heap.get?_push_of_some _ e))))

theorem wp_compY (fk : FOk F) {elt target iter : Expr} {ifs : List Expr} {gs : List Comprehension} {scope : Scope} {pos fpos : Pos} {y : String} {mi : M V} {mc : Nat → (S → Nat → Option (Option V)) → M Unit}
    {use : Option (Value → Sem Unit)} {Q : Value → Shared → Prop} {E : Value → Shared → Prop} (hs : ∀ x, foldedSetIterable iter F.env x = pure x) (ck : CompOkY F scope y) (hi : SimE K F iter mi)
    (hc : ∀ C, SimClauses K (compFrmY F scope y C) elt (⟨target, iter, ifs, 0⟩ :: gs) scope pos 0 mc) {σ : S} {ρ : List Addr} {s : Shared} (rel : Rel K F σ ρ s) (hne : (mi >>= compTail [] mc) σ ≠ .stuck) (hnh : F.nh = true)
    (hQ : ∀ v σ' ρ' s' w C m, (mi >>= compTail [] mc) σ = .ok v σ' → Rel K F σ' ρ' s' → Ext F.mine ρ ρ' s.heap s'.heap → Rep K s'.heap ρ' v w → s'.heap.Ns C m → C ∉ F.mine → C ∉ ρ' → K.base.get? C = none → s.heap.get? C = none →
      compPost (model K.prog K.w) F.A E use Q w C (.ok .next) s')
    (hE : ∀ v s', EO K F ((mi >>= compTail [] mc) σ) ρ s.heap v s' → E v s') :
    wpAny (model K.prog K.w) F.A (comprehension (.ListComp elt (⟨target, iter, ifs, 0⟩ :: gs) scope pos) scope F.env fpos (newList []) false (eval iter F.env) use) Q E s := by
  refine wpAny_comprehension_free (use := use) rfl hs ck.clos ck.kind ck.names ?_
  refine wpAny_mono (Run.bindWp (P := fun x s₁ => wpAny (model K.prog K.w) F.A (pyIter x) (fun it s₂ => wpAny (model K.prog K.w) F.A (newList []) (fun acc s₃ =>
      wpAny (model K.prog K.w) F.A (newFunctionEnv scope F.env.globals [] [] F.env.qual none .none (some F.env)) (fun cenv s₄ =>
        codeAny (model K.prog K.w) F.A (.compStart (.ListComp elt (⟨target, iter, ifs, 0⟩ :: gs) scope pos) 0 it acc { cenv with scope := relabel scope F.env }) (compPost (model K.prog K.w) F.A E use Q acc cenv.locals) s₄) E s₃) E s₂) E s₁)
    (hi σ ρ s rel) hne ?_) (fun _ _ q => q) (fun v s' q => hE v s' q)
  intro v σ₁ ρ₁ s₁ w e1 e2 rel₁ x₁ rv
  rw [e2] at hne hQ hE
  cases hok : okIter v σ₁ with
  | stuck => exact absurd (by unfold compTail; rw [hok]) hne
  | exc e z => exact absurd (by unfold compTail; rw [hok]) hne
  | ok u z =>
    have hok' := okIter_ok hok
    have eT : compTail [] mc v σ₁ = (match mc σ₁.st.length (nxtOf v) ⟨σ₁.st ++ [.lst []], restr [] σ₁.lo⟩ with
      | .ok _ σ' => .ok (.obj σ₁.st.length) ⟨σ'.st, σ₁.lo⟩
      | .exc _ _ => .stuck
      | .stuck => .stuck) := by unfold compTail; (rw [hok]) <;> (dsimp only; cases mc σ₁.st.length (nxtOf v) ⟨σ₁.st ++ [.lst []], restr [] σ₁.lo⟩ <;> rfl)
    obtain ⟨obj, Src, hsrc, hfr, hIt, hpy⟩ := wp_pyIter rel₁ rv hok'
    obtain ⟨f0, f1, f2, f3⟩ := fresh_facts rel₁
    refine hpy _ _ _ ?_
    have rel₂ := rel₁.push obj s₁.toks
    have x₂ : Ext F.mine ρ₁ ρ₁ s₁.heap (s₁.heap.push obj) := Ext.push obj
    refine wpAny_newList ?_ (by simp [sizeLine_eq])
    obtain ⟨rel₃, x₃⟩ := rel₂.newList (vs := []) (ws := []) (o := { cls := .type "list", data := .seq ([] : List Value).toArray }) rfl RepL.nil (by simp) s₁.toks
    refine wp_newEnvY ck fun h₄ hns hcl hkeep => ?_
    dsimp only at hns hcl hkeep rel₃ x₃ ⊢
    generalize hH : (s₁.heap.push obj).push { cls := .type "list", data := .seq ([] : List Value).toArray } = H at hns hcl hkeep rel₃ x₃ ⊢
    have hI : (s₁.heap.push obj).objs.size = s₁.heap.objs.size + 1 := Heap.size_push ..
    have hC : H.objs.size = s₁.heap.objs.size + 2 := by rw [← hH, Heap.size_push, hI]
    generalize hCd : H.objs.size = C at hns hcl hC ⊢
    have fC : ∀ c, C ≤ c → s₁.heap.get? c = none := fun c hc => Heap.get?_none_of_le (by (first | lia | omega))
    have fH : ∀ c, C ≤ c → H.get? c = none := fun c hc => Heap.get?_none_of_le (by (first | lia | omega))
    have bC : ∀ c, C ≤ c → K.base.get? c = none := by
      intro c hc
      cases e : K.base.get? c with
      | none => rfl
      | some o => have := rel₁.base _ _ e; rw [fC c hc] at this; cases this
    have hmem : ∀ a, a ∈ [C, C + 1] → C ≤ a ∧ ∃ o, h₄.get? a = some o := by
      intro a ha
      simp only [List.mem_cons, List.not_mem_nil, or_false] at ha
      rcases ha with rfl | rfl
      · obtain ⟨o, _, _, e, _⟩ := hns
        exact ⟨Nat.le_refl _, o, e⟩
      · obtain ⟨o, e, _⟩ := hcl
        exact ⟨Nat.le_succ _, o, e⟩
    have rel₄ : Rel K (compFrmY F scope y C) ⟨σ₁.st ++ [.lst []], restr [] σ₁.lo⟩ (ρ₁ ++ [(s₁.heap.push obj).objs.size]) { s₁ with heap := h₄ } := by
      refine { toGRel := rel₃.toGRel.kept hkeep rfl rfl, vars := ?_, loc := ⟨_, hns⟩, cels := ?_, mineAbove := ?_, mineApart := ?_, mineLoc := List.mem_cons_self, frs := (rel₃.frs.kept hkeep : FrsOk K F h₄) }
      · intro x v' e
        simp only [restr, List.not_mem_nil, if_false] at e; cases e
      · intro x c e
        have e' : ([(Str.ofString y, C + 1)] : List (Str × Addr)).lookup x = some c := e
        have := mem_of_lookup e'
        simp only [List.mem_cons, List.not_mem_nil, or_false, Prod.mk.injEq] at this
        obtain ⟨_, rfl⟩ := this
        exact ⟨_, hcl⟩
      · intro a ha
        obtain ⟨h1, o, e⟩ := hmem a ha
        exact ⟨bC a h1, o, e⟩
      · intro a ha hb
        obtain ⟨h1, _⟩ := hmem a ha
        obtain ⟨_, o, e, _⟩ := rel₃.toGRel.alive hb
        rw [fH a h1] at e; cases e
    have up : ∀ b o, s₁.heap.get? b = some o → h₄.get? b = some o := fun b o e => hkeep b o (by rw [← hH]; exact Heap.get?_push_of_some _ (Heap.get?_push_of_some _ e))
    have x₄ : Ext [C, C + 1] ρ₁ (ρ₁ ++ [(s₁.heap.push obj).objs.size]) s₁.heap h₄ := by
      refine ⟨List.prefix_append _ _, fun b o e => ⟨o, up b o e⟩, fun a ha => ?_, fun b o e _ _ => ⟨o, up b o e, .refl _⟩, fun b o e _ => up b o e⟩
      rcases List.mem_append.mp ha with ha | ha
      · exact .inl ha
      · have := List.mem_singleton.mp ha
        subst this
        exact .inr (Heap.get?_none_of_le (by rw [hI]; (first | lia | omega)))
    have hne' : mc σ₁.st.length (nxtOf v) ⟨σ₁.st ++ [.lst []], restr [] σ₁.lo⟩ ≠ .stuck := fun e => hne (by rw [eT, e])
    have main := hc C σ₁.st.length (s₁.heap.push obj).objs.size s₁.heap.objs.size Src (nxtOf v) ⟨σ₁.st ++ [.lst []], restr [] σ₁.lo⟩ (ρ₁ ++ [(s₁.heap.push obj).objs.size]) ρ₁ { s₁ with heap := h₄ } s₁.heap obj
      (hIt _ (fk.compY ck.kind) hnh) rel₄ (by rw [← rel₁.len, List.getElem?_concat_length]) x₄ f0 f1 (fun h => by have := (hmem _ h).1; (first | lia | omega))
      (fun h => by
        rcases List.mem_append.mp h with h | h
        · exact f3 h
        · have := List.mem_singleton.mp h; rw [hI] at this; exact absurd this (Nat.ne_of_lt (Nat.lt_succ_self _)))
      (hkeep _ _ (by rw [← hH]; exact Heap.get?_push_of_some _ (Heap.get?_push_size _ hfr))) hsrc hne'
    refine codeAny_mono main fun r s' h => ?_
    cases r with
    | error v' =>
      obtain ⟨x, σ', ρ', em, r1, r2, r3⟩ := h
      have hmo : mc σ₁.st.length (nxtOf v) ⟨σ₁.st ++ [.lst []], restr [] σ₁.lo⟩ = .exc x σ' := em
      rw [hmo] at eT
      exact absurd eT hne
    | ok f =>
      obtain ⟨σ', ρ', em, r1, r2, r4⟩ := h
      rw [em] at eT
      have xn : Ext [] ρ₁ ρ' s₁.heap s'.heap := ⟨r2.pre, r2.alive, r2.new, fun b o e n1 _ => r2.keep b o e n1 (fun hm => by rw [fC b (hmem b hm).1] at e; cases e), r2.froz⟩
      have relF := rel₁.called r1.toGRel xn fk
      obtain ⟨m, hm⟩ := r1.loc
      have hsC : s.heap.get? C = none := by
        cases e : s.heap.get? C with
        | none => rfl
        | some o => obtain ⟨o', e'⟩ := x₁.alive _ _ e; rw [fC C (Nat.le_refl _)] at e'; cases e'
      have hmC : C ∉ F.mine := fun h => by
        obtain ⟨_, o, e⟩ := rel₁.mineAbove _ h
        rw [fC C (Nat.le_refl _)] at e; cases e
      have := hQ (.obj σ₁.st.length) ⟨σ'.st, σ₁.lo⟩ ρ' s' (.ref (s₁.heap.push obj).objs.size) C m eT relF (x₁.trans (ext_of_nil xn)) (Rep.obj_iff.mpr ⟨_, r4, rfl⟩) hm hmC (r1.mineApart C List.mem_cons_self) (bC C (Nat.le_refl _)) hsC
      cases use <;> exact this

theorem simE_listcompY (fk : FOk F) {elt target iter : Expr} {ifs : List Expr} {gs : List Comprehension} {scope : Scope} {pos : Pos} {y : String} {mi : M V} {mc : Nat → (S → Nat → Option (Option V)) → M Unit}
    (ck : CompOkY F scope y) (hi : SimE K F iter mi) (hc : ∀ C, SimClauses K (compFrmY F scope y C) elt (⟨target, iter, ifs, 0⟩ :: gs) scope pos 0 mc)
    (hs : ∀ x, foldedSetIterable iter F.env x = pure x := by intro _; rfl) (hnh : F.nh = true := by rfl) :
    SimE K F (.ListComp elt (⟨target, iter, ifs, 0⟩ :: gs) scope pos) (mi >>= compTail [] mc) := by
  intro σ ρ s rel
  refine Run.of_wp fun hne => ?_
  show wpAny _ _ (comprehension (.ListComp elt (⟨target, iter, ifs, 0⟩ :: gs) scope pos) scope F.env _ (newList []) false (eval iter F.env) none) _ _ s
  refine wp_compY fk (use := none) hs ck hi hc rel hne hnh ?_ fun _ _ q => q
  intro v σ' ρ' s' w C m e r1 x1 rv hm q1 q2 q3 q4
  exact ⟨m, hm, fun h' hsb => ⟨v, σ', ρ', e, r1.butC q3 q1 q2 hm hsb rfl rfl (rel.noFrame q4), x1.butC q4 hsb, Rep.mono' (List.prefix_refl _) (fun b o e f => (hsb.2 b (ns_ne_tup hm e f)).trans e) rv⟩⟩
end Mine


/-! part F34 -/
set_option autoImplicit false
set_option maxRecDepth 100000
set_option linter.unusedVariables false
open PySem PySem.W PyProof.Rows
namespace Mine

variable {K : Glo} {F : Frm}

/-! ### powers of two -/
noncomputable def powV : V → V → M V
  | .int a, .int b => fun σ => if a = 2 ∧ 0 ≤ b ∧ b < 30 then .ok (.int (2 ^ b.toNat)) σ else .stuck
  | _, _ => fun _ => .stuck
theorem bin_pow : BinOk K .Pow powV := by
  intro F fk σ ρ s a b wa wb rel ra rb
  cases a with
  | int i =>
    cases b with
    | int j =>
      obtain ⟨t, rfl⟩ := Rep.int_iff.mp ra
      obtain ⟨u, rfl⟩ := Rep.int_iff.mp rb
      unfold powV
      dsimp only
      by_cases h : i = 2 ∧ 0 ≤ j ∧ j < 30
      · rw [if_pos h]
        obtain ⟨rfl, h0, h1⟩ := h
        by_cases hj : j = 0
        · subst hj
          exact Run.ok (AutoIntOps.pow_0 (by decide) (by decide) ⟨ρ, rel.tok _, Ext.refl .., Rep.int ..⟩)
        · refine Run.ok (AutoIntOps.pow_4 h0 (by simpa using hj) (by decide) (by decide) ?_ ⟨ρ, rel.tok _, Ext.refl .., Rep.int ..⟩)
          obtain ⟨n, rfl⟩ := Int.eq_ofNat_of_zero_le h0
          have : n < 30 := by (first | lia | omega)
          clear h0 h1 hj rb
          revert n
          decide
      · rw [if_neg h]; exact Run.stuck
    | _ => exact Run.stuck
  | _ => exact Run.stuck

/-! ### list.remove -/
noncomputable def removeG : V → List V → M V
  | .obj l, [.int k] => fun σ => if l = 0 then .stuck else match σ.st[l]? with
    | some (.lst vs) => match intsOf vs with
      | some ns => if k ∈ ns then .ok .none { σ with st := σ.st.set l (.lst (vs.eraseIdx (ns.idxOf k))) } else .stuck
      | none => .stuck
    | _ => .stuck
  | _, _ => fun _ => .stuck
theorem meth_remove : MethOk K "list.remove" removeG := by
  intro F fk hnh σ ρ s o wo vs ws rel ro r
  unfold removeG
  split
  · rename_i l k
    obtain ⟨w, ws', rfl, r1, r2⟩ := RepL.cons_iff.mp r
    rw [RepL.nil_iff.mp r2]
    obtain ⟨t, rfl⟩ := Rep.int_iff.mp r1
    by_cases hl0 : l = 0
    · simp only [if_pos hl0]; exact Run.stuck
    simp only [if_neg hl0]
    cases hl : σ.st[l]? with
    | none => exact Run.stuck
    | some c =>
      cases c with
      | lst xs =>
        dsimp only
        cases hi : intsOf xs with
        | none => exact Run.stuck
        | some ns =>
          dsimp only
          by_cases hk : k ∈ ns
          · rw [if_pos hk]
            obtain ⟨x, us, n, rfl, hρ, hL, hr, hn⟩ := rel.list ro hl
            have hia := intsOf_are hr hi
            have hlen := hia.length
            have hj : ns.idxOf k < ns.length := List.idxOf_lt_length_iff.mpr hk
            refine Run.ok (call_meets PySem.F.slot_list_remove ⟨_, hL, rfl⟩ PySem.F.entry_list_remove (PySem.F.args_list_remove_2 _ _)
              (PySem.MeetsSeq.list_remove x us.toArray n (.int k t) (isInt k) (fun y hy => eq_isInt k t hia y (by simpa using hy)) (ns.idxOf k) (by simpa [hlen] using hj) ?_ ?_ (sizeLine_ge (by rw [List.size_toArray, hr.length]; exact hn))) ⟨hL, ?_⟩)
            · show isInt k us[ns.idxOf k] = true
              rw [isInt_at k hia _ (by (first | lia | omega)) hj]
              simpa using List.getElem_idxOf hj
            · intro j hjs hlt
              show isInt k us[j] = false
              rw [isInt_at k hia _ (by simpa using hjs) (by (first | lia | omega))]
              exact ne_of_lt_idxOf hlt _
            · obtain ⟨rel', x'⟩ := rel.upd (s' := { s with heap := s.heap.update x (Obj.mapSeq fun y => y.eraseIdxIfInBounds (ns.idxOf k)) }) (vs := xs.eraseIdx (ns.idxOf k)) (ws := us.eraseIdx (ns.idxOf k)) hρ hl0 (Heap.SameBut.update ..) (by
                have := hL.update (fun y => y.eraseIdxIfInBounds (ns.idxOf k))
                rw [erase_toArray] at this
                exact this) (hr.eraseIdx _) (Nat.le_trans (List.length_eraseIdx_le ..) hn) rfl rfl
              exact ⟨ρ, rel', x', Rep.none⟩
          · rw [if_neg hk]; exact Run.stuck
  · exact Run.stuck
end Mine


/-! part F35 -/
set_option autoImplicit false
set_option maxRecDepth 100000
set_option linter.unusedVariables false
open PySem PySem.W PyProof.Rows
namespace Mine

variable {K : Glo} {F : Frm}
theorem simT_cellY {scope : Scope} {y : String} {C : Addr} (pos : Pos) (fk : FOk (compFrmY F scope y C)) (hk : (compFrmY F scope y C).env.kindOf (Str.ofString y) = some .cell) :
    SimT K (compFrmY F scope y C) (.Name (Str.ofString y) pos) (fun v => setv y v) := by
  refine simT_cell (c := C + 1) y pos fk hk ?_ (by show C + 1 ∈ [C, C + 1]; simp) ?_
  · show ([(Str.ofString y, C + 1)] : List (Str × Addr)).lookup _ = _
    rw [List.lookup_cons, beq_self_eq_true]
  · intro x hx
    have := mem_of_lookup (show ([(Str.ofString y, C + 1)] : List (Str × Addr)).lookup x = _ from hx)
    simp only [List.mem_cons, List.not_mem_nil, or_false, Prod.mk.injEq] at this
    exact this.1
end Mine


/-! part H1 -/
set_option autoImplicit false
set_option linter.unusedVariables false
namespace Mine

/-! ### heaps, plain -/
section
variable {α : Type} [Inhabited α]

noncomputable def nth (vs : List α) (i : Nat) : α := vs[i]?.getD default
theorem nth_set_self {vs : List α} {i : Nat} {x : α} (h : i < vs.length) : nth (vs.set i x) i = x := by
  unfold nth; rw [List.getElem?_set_self h]; rfl
theorem nth_set_ne {vs : List α} {i j : Nat} {x : α} (h : i ≠ j) : nth (vs.set i x) j = nth vs j := by
  unfold nth; rw [List.getElem?_set_ne h]
theorem nth_eq {vs : List α} {i : Nat} (h : i < vs.length) : vs[i]? = some (nth vs i) := by
  unfold nth; rw [List.getElem?_eq_getElem h]; rfl
theorem nth_getElem {vs : List α} {i : Nat} (h : i < vs.length) : nth vs i = vs[i] := by
  unfold nth; rw [List.getElem?_eq_getElem h]; rfl
theorem nth_mem {vs : List α} {i : Nat} (h : i < vs.length) : nth vs i ∈ vs := by rw [nth_getElem h]; exact List.getElem_mem h

/-- the way up -/
noncomputable def sd (lt : α → α → Bool) (x : α) (start : Nat) (vs : List α) (pos : Nat) : List α :=
  if h : start < pos then
    if lt x (nth vs ((pos - 1) / 2)) = true then sd lt x start (vs.set pos (nth vs ((pos - 1) / 2))) ((pos - 1) / 2)
    else vs.set pos x
  else vs.set pos x
termination_by pos
decreasing_by (first | lia | omega)

/-- the way down to a leaf -/
noncomputable def kid (lt : α → α → Bool) (vs : List α) (pos : Nat) : Nat :=
  if 2 * pos + 2 < vs.length ∧ lt (nth vs (2 * pos + 1)) (nth vs (2 * pos + 2)) = false then 2 * pos + 2 else 2 * pos + 1
theorem kid_gt (lt : α → α → Bool) (vs : List α) (pos : Nat) : pos < kid lt vs pos := by unfold kid; split <;> (first | lia | omega)
theorem kid_lt {lt : α → α → Bool} {vs : List α} {pos : Nat} (h : 2 * pos + 1 < vs.length) : kid lt vs pos < vs.length := by unfold kid; split <;> (first | lia | omega)
theorem kid_par (lt : α → α → Bool) (vs : List α) (pos : Nat) : (kid lt vs pos - 1) / 2 = pos := by unfold kid; split <;> (first | lia | omega)

noncomputable def down (lt : α → α → Bool) (vs : List α) (pos : Nat) : List α × Nat :=
  if h : 2 * pos + 1 < vs.length then down lt (vs.set pos (nth vs (kid lt vs pos))) (kid lt vs pos) else (vs, pos)
termination_by vs.length - pos
decreasing_by
  have := kid_gt lt vs pos
  have := kid_lt (lt := lt) h
  simp only [List.length_set]; (first | lia | omega)

noncomputable def su (lt : α → α → Bool) (vs : List α) (pos : Nat) : List α :=
  sd lt (nth vs pos) pos ((down lt vs pos).1.set (down lt vs pos).2 (nth vs pos)) (down lt vs pos).2

/-- a weak order on the items P -/
structure SWO (P : α → Prop) (lt : α → α → Bool) : Prop where
  asymm : ∀ a b, P a → P b → lt a b = true → lt b a = false
  trans : ∀ a b c, P a → P b → P c → lt b a = false → lt c b = false → lt c a = false

theorem down_length (lt : α → α → Bool) : ∀ (k : Nat) (vs : List α) (pos : Nat), vs.length - pos ≤ k → (down lt vs pos).1.length = vs.length := by
  intro k
  induction k with
  | zero => intro vs pos h; rw [down, dif_neg (by (first | lia | omega))]
  | succ k ih =>
    intro vs pos h
    rw [down]
    split
    · rename_i hc
      have := kid_gt lt vs pos
      rw [ih _ _ (by simp; (first | lia | omega))]; simp
    · rfl
theorem down_pos_lt (lt : α → α → Bool) : ∀ (k : Nat) (vs : List α) (pos : Nat), vs.length - pos ≤ k → pos < vs.length → (down lt vs pos).2 < vs.length := by
  intro k
  induction k with
  | zero => intro vs pos h h2; (first | lia | omega)
  | succ k ih =>
    intro vs pos h h2
    rw [down]
    split
    · rename_i hc
      have h3 := kid_gt lt vs pos
      have h4 := kid_lt (lt := lt) hc
      have := ih (vs.set pos (nth vs (kid lt vs pos))) (kid lt vs pos) (by simp; (first | lia | omega)) (by simpa using h4)
      simpa using this
    · exact h2
theorem swap_perm {vs : List α} {i j : Nat} {x : α} (hi : i < vs.length) (hj : j < vs.length) (hne : i ≠ j) : ((vs.set i (nth vs j)).set j x).Perm (vs.set i x) := by
  have h := List.set_set_perm (as := vs.set i x) (i := i) (j := j) (by simpa using hi) (by simpa using hj)
  have e1 : (vs.set i x)[j]'(by simpa using hj) = nth vs j := by
    rw [List.getElem_set_ne hne, nth_getElem hj]
  have e2 : (vs.set i x)[i]'(by simpa using hi) = x := by rw [List.getElem_set_self]
  rw [e1, e2, List.set_set] at h
  exact h

theorem sd_perm (lt : α → α → Bool) (x : α) (start : Nat) : ∀ (pos : Nat) (vs : List α), pos < vs.length → (sd lt x start vs pos).Perm (vs.set pos x) := by
  intro pos
  induction pos using Nat.strongRecOn with
  | _ pos ih =>
    intro vs hp
    rw [sd]
    split
    · split
      · refine (ih _ (by (first | lia | omega)) _ (by simp; (first | lia | omega))).trans ?_
        exact swap_perm hp (by (first | lia | omega)) (by (first | lia | omega))
      · exact List.Perm.refl _
    · exact List.Perm.refl _
theorem down_perm (lt : α → α → Bool) (x : α) : ∀ (k : Nat) (vs : List α) (pos : Nat), vs.length - pos ≤ k → pos < vs.length → ((down lt vs pos).1.set (down lt vs pos).2 x).Perm (vs.set pos x) := by
  intro k
  induction k with
  | zero => intro vs pos h h2; (first | lia | omega)
  | succ k ih =>
    intro vs pos h h2
    rw [down]
    split
    · rename_i hc
      have h3 := kid_gt lt vs pos
      have h4 := kid_lt (lt := lt) hc
      exact (ih _ _ (by simp; (first | lia | omega)) (by simpa using h4)).trans (swap_perm h2 h4 (by (first | lia | omega)))
    · exact List.Perm.refl _
theorem set_nth {vs : List α} {i : Nat} : vs.set i (nth vs i) = vs := by
  by_cases h : i < vs.length
  · rw [nth_getElem h]; exact List.set_getElem_self h
  · exact List.set_eq_of_length_le (by (first | lia | omega))
theorem su_perm (lt : α → α → Bool) (vs : List α) (pos : Nat) (h : pos < vs.length) : (su lt vs pos).Perm vs := by
  unfold su
  have h1 := down_pos_lt lt _ vs pos (Nat.le_refl _) h
  have h2 := down_length lt _ vs pos (Nat.le_refl _)
  refine (sd_perm lt _ _ _ _ (by rw [List.length_set, h2]; exact h1)).trans ?_
  rw [List.set_set]
  refine (down_perm lt _ _ vs pos (Nat.le_refl _) h).trans ?_
  rw [set_nth]

/-! the order -/
noncomputable def HeapFrom (lt : α → α → Bool) (s : Nat) (vs : List α) : Prop := ∀ j, 0 < j → j < vs.length → s ≤ (j - 1) / 2 → lt (nth vs j) (nth vs ((j - 1) / 2)) = false

noncomputable def Desc (s p : Nat) : Prop := if h : s < p then Desc s ((p - 1) / 2) else p = s
termination_by p
decreasing_by (first | lia | omega)
theorem desc_iff (s p : Nat) : Desc s p ↔ p = s ∨ (s < p ∧ Desc s ((p - 1) / 2)) := by
  rw [Desc]
  split
  · rename_i h
    exact ⟨fun x => .inr ⟨h, x⟩, fun x => by
      rcases x with x | x
      · (first | lia | omega)
      · exact x.2⟩
  · rename_i h
    exact ⟨fun x => .inl x, fun x => by
      rcases x with x | x
      · exact x
      · exact absurd x.1 h⟩
theorem Desc.refl (s : Nat) : Desc s s := by rw [desc_iff]; exact .inl rfl
theorem Desc.up {s p : Nat} (h : Desc s p) (hlt : s < p) : Desc s ((p - 1) / 2) := by
  rw [desc_iff] at h; rcases h with h | h
  · (first | lia | omega)
  · exact h.2
theorem Desc.le {s p : Nat} (h : Desc s p) : s ≤ p := by
  rw [desc_iff] at h; rcases h with h | h <;> (first | lia | omega)
theorem Desc.kid {s p c : Nat} (h : Desc s p) (hc : (c - 1) / 2 = p) (hlt : p < c) : Desc s c := by
  rw [desc_iff]; right
  have := h.le
  exact ⟨by (first | lia | omega), by rw [hc]; exact h⟩

/-- a heap with a hole at pos -/
structure Hole (lt : α → α → Bool) (s : Nat) (vs : List α) (pos : Nat) : Prop where
  pair : ∀ j, 0 < j → j < vs.length → s ≤ (j - 1) / 2 → j ≠ pos → (j - 1) / 2 ≠ pos → lt (nth vs j) (nth vs ((j - 1) / 2)) = false
  skip : s < pos → ∀ j, 0 < j → j < vs.length → (j - 1) / 2 = pos → lt (nth vs j) (nth vs ((pos - 1) / 2)) = false
  desc : Desc s pos
  lt : pos < vs.length

theorem Hole.set {lt : α → α → Bool} {s : Nat} {vs : List α} {pos : Nat} (h : Hole lt s vs pos) (x : α) : Hole lt s (vs.set pos x) pos where
  pair := fun j h0 hl hs hj hp => by
    rw [List.length_set] at hl
    rw [nth_set_ne (Ne.symm hj), nth_set_ne (Ne.symm hp)]; exact h.pair j h0 hl hs hj hp
  skip := fun hs j h0 hl hp => by
    rw [List.length_set] at hl
    have := h.lt
    rw [nth_set_ne (by (first | lia | omega)), nth_set_ne (by (first | lia | omega))]; exact h.skip hs j h0 hl hp
  desc := h.desc
  lt := by rw [List.length_set]; exact h.lt

variable {P : α → Prop} {lt : α → α → Bool}

omit [Inhabited α] in
theorem all_set {vs : List α} {i : Nat} {x : α} (h : ∀ a ∈ vs, P a) (hx : P x) : ∀ a ∈ vs.set i x, P a := by
  intro a ha
  rcases List.mem_or_eq_of_mem_set ha with h1 | h1
  · exact h a h1
  · subst h1; exact hx

theorem sd_heap (O : SWO P lt) (x : α) (s : Nat) (hx : P x) : ∀ (pos : Nat) (vs : List α), (∀ a ∈ vs, P a) → Hole lt s vs pos → (∀ j, 0 < j → j < vs.length → (j - 1) / 2 = pos → lt (nth vs j) x = false) → HeapFrom lt s (sd lt x s vs pos) := by
  intro pos
  induction pos using Nat.strongRecOn with
  | _ pos ih =>
    intro vs hP hh hb
    have hpl := hh.lt
    rw [sd]
    split
    · rename_i hsp
      have hpar : s ≤ (pos - 1) / 2 := (hh.desc.up hsp).le
      have hpp : P (nth vs ((pos - 1) / 2)) := hP _ (nth_mem (by (first | lia | omega)))
      split
      · rename_i hlt
        refine ih _ (by (first | lia | omega)) _ (all_set hP hpp) ⟨?_, ?_, hh.desc.up hsp, by simp; (first | lia | omega)⟩ ?_
        · intro j h0 hl hs hj hp
          rw [List.length_set] at hl
          by_cases hjp : j = pos
          · subst hjp; exact absurd rfl hp
          · rw [nth_set_ne (Ne.symm hjp)]
            by_cases hp2 : (j - 1) / 2 = pos
            · rw [hp2, nth_set_self hpl]; exact hh.skip hsp j h0 hl hp2
            · rw [nth_set_ne (Ne.symm hp2)]; exact hh.pair j h0 hl hs hjp hp2
        · intro hs2 j h0 hl hp
          rw [List.length_set] at hl
          have hgp : s ≤ ((pos - 1) / 2 - 1) / 2 := ((hh.desc.up hsp).up hs2).le
          have hq : nth (vs.set pos (nth vs ((pos - 1) / 2))) (((pos - 1) / 2 - 1) / 2) = nth vs (((pos - 1) / 2 - 1) / 2) := nth_set_ne (by (first | lia | omega))
          rw [hq]
          have hpair := hh.pair ((pos - 1) / 2) (by (first | lia | omega)) (by (first | lia | omega)) hgp (by (first | lia | omega)) (by (first | lia | omega))
          by_cases hjp : j = pos
          · subst hjp; rw [nth_set_self hpl]; exact hpair
          · rw [nth_set_ne (Ne.symm hjp)]
            have h2 := hh.pair j h0 hl (by (first | lia | omega)) hjp (by (first | lia | omega))
            rw [hp] at h2
            exact O.trans _ _ _ (hP _ (nth_mem (by (first | lia | omega)))) hpp (hP _ (nth_mem hl)) hpair h2
        · intro j h0 hl hp
          rw [List.length_set] at hl
          by_cases hjp : j = pos
          · subst hjp; rw [nth_set_self hpl]; exact O.asymm _ _ hx hpp hlt
          · rw [nth_set_ne (Ne.symm hjp)]
            have h2 := hh.pair j h0 hl (by (first | lia | omega)) hjp (by (first | lia | omega))
            rw [hp] at h2
            exact O.trans _ _ _ hx hpp (hP _ (nth_mem hl)) (O.asymm _ _ hx hpp hlt) h2
      · rename_i hlt
        have hlt' : lt x (nth vs ((pos - 1) / 2)) = false := by simpa using hlt
        intro j h0 hl hs
        rw [List.length_set] at hl
        by_cases hjp : j = pos
        · subst hjp; rw [nth_set_self hpl, nth_set_ne (by (first | lia | omega))]; exact hlt'
        · rw [nth_set_ne (Ne.symm hjp)]
          by_cases hp2 : (j - 1) / 2 = pos
          · rw [hp2, nth_set_self hpl]; exact hb j h0 hl hp2
          · rw [nth_set_ne (Ne.symm hp2)]; exact hh.pair j h0 hl hs hjp hp2
    · rename_i hsp
      intro j h0 hl hs
      rw [List.length_set] at hl
      have hds := hh.desc.le
      by_cases hjp : j = pos
      · (first | lia | omega)
      · rw [nth_set_ne (Ne.symm hjp)]
        by_cases hp2 : (j - 1) / 2 = pos
        · rw [hp2, nth_set_self hpl]; exact hb j h0 hl hp2
        · rw [nth_set_ne (Ne.symm hp2)]; exact hh.pair j h0 hl hs hjp hp2

theorem kid_min (O : SWO P lt) {vs : List α} {pos j : Nat} (hP : ∀ a ∈ vs, P a) (hc : 2 * pos + 1 < vs.length) (h0 : 0 < j) (hl : j < vs.length) (hp : (j - 1) / 2 = pos) : lt (nth vs j) (nth vs (kid lt vs pos)) = false := by
  have refl : ∀ a, P a → lt a a = false := fun a ha => by
    cases e : lt a a with
    | false => rfl
    | true => have := O.asymm a a ha ha e; rw [e] at this; cases this
  unfold kid
  split
  · rename_i h
    rcases (show j = 2 * pos + 1 ∨ j = 2 * pos + 2 by (first | lia | omega)) with rfl | rfl
    · exact h.2
    · exact refl _ (hP _ (nth_mem hl))
  · rename_i h
    rcases (show j = 2 * pos + 1 ∨ j = 2 * pos + 2 by (first | lia | omega)) with rfl | rfl
    · exact refl _ (hP _ (nth_mem hl))
    · have : lt (nth vs (2 * pos + 1)) (nth vs (2 * pos + 2)) = true := by
        cases e : lt (nth vs (2 * pos + 1)) (nth vs (2 * pos + 2)) with
        | true => rfl
        | false => exact absurd ⟨hl, e⟩ h
      exact O.asymm _ _ (hP _ (nth_mem hc)) (hP _ (nth_mem hl)) this

theorem down_hole (O : SWO P lt) (s : Nat) : ∀ (k : Nat) (vs : List α) (pos : Nat), vs.length - pos ≤ k → (∀ a ∈ vs, P a) → Hole lt s vs pos →
    Hole lt s (down lt vs pos).1 (down lt vs pos).2 ∧ (∀ a ∈ (down lt vs pos).1, P a) ∧ ¬ 2 * (down lt vs pos).2 + 1 < (down lt vs pos).1.length := by
  intro k
  induction k with
  | zero => intro vs pos h hP hh; have := hh.lt; (first | lia | omega)
  | succ k ih =>
    intro vs pos h hP hh
    rw [down]
    split
    · rename_i hc
      have h3 := kid_gt lt vs pos
      have h4 := kid_lt (lt := lt) hc
      have h5 := kid_par lt vs pos
      have hpl := hh.lt
      have hds := hh.desc.le
      refine ih _ _ (by simp; (first | lia | omega)) (all_set hP (hP _ (nth_mem h4))) ⟨?_, ?_, hh.desc.kid h5 h3, by simpa using h4⟩
      · intro j h0 hl hs hj hp
        rw [List.length_set] at hl
        by_cases hjp : j = pos
        · subst hjp
          rw [nth_set_self hpl, nth_set_ne (by (first | lia | omega))]
          exact hh.skip (by (first | lia | omega)) _ (by (first | lia | omega)) h4 h5
        · rw [nth_set_ne (Ne.symm hjp)]
          by_cases hp2 : (j - 1) / 2 = pos
          · rw [hp2, nth_set_self hpl]; exact kid_min O hP hc h0 hl hp2
          · rw [nth_set_ne (Ne.symm hp2)]; exact hh.pair j h0 hl hs hjp hp2
      · intro hs2 j h0 hl hp
        rw [List.length_set] at hl
        rw [h5, nth_set_self hpl, nth_set_ne (by (first | lia | omega))]
        have := hh.pair j h0 hl (by (first | lia | omega)) (by (first | lia | omega)) (by (first | lia | omega))
        rw [hp] at this; exact this
    · rename_i hc
      exact ⟨hh, hP, hc⟩

theorem su_heap (O : SWO P lt) (vs : List α) (pos : Nat) (hP : ∀ a ∈ vs, P a) (hl : pos < vs.length) (hh : HeapFrom lt (pos + 1) vs) : HeapFrom lt pos (su lt vs pos) := by
  have h0 : Hole lt pos vs pos := ⟨fun j h0 hl hs hj hp => hh j h0 hl (by (first | lia | omega)), fun h => by (first | lia | omega), Desc.refl _, hl⟩
  obtain ⟨h1, h2, h3⟩ := down_hole O pos _ vs pos (Nat.le_refl _) hP h0
  unfold su
  have hx : P (nth vs pos) := hP _ (nth_mem hl)
  refine sd_heap O _ _ hx _ _ (all_set h2 hx) (h1.set _) ?_
  intro j hj hjl hjp
  rw [List.length_set] at hjl
  (first | lia | omega)

theorem heap_min (O : SWO P lt) {vs : List α} (hP : ∀ a ∈ vs, P a) (hh : HeapFrom lt 0 vs) : ∀ j, j < vs.length → lt (nth vs j) (nth vs 0) = false := by
  intro j
  induction j using Nat.strongRecOn with
  | _ j ih =>
    intro hl
    by_cases h0 : j = 0
    · subst h0
      cases e : lt (nth vs 0) (nth vs 0) with
      | false => rfl
      | true => have := O.asymm _ _ (hP _ (nth_mem hl)) (hP _ (nth_mem hl)) e; rw [e] at this; cases this
    · have h1 := ih ((j - 1) / 2) (by (first | lia | omega)) (by (first | lia | omega))
      have h2 := hh j (by (first | lia | omega)) hl (by (first | lia | omega))
      exact O.trans _ _ _ (hP _ (nth_mem (by (first | lia | omega)))) (hP _ (nth_mem (by (first | lia | omega)))) (hP _ (nth_mem hl)) h1 h2

/-- push -/
noncomputable def hpush (lt : α → α → Bool) (vs : List α) (x : α) : List α := sd lt x 0 (vs ++ [x]) vs.length
theorem hpush_perm (lt : α → α → Bool) (vs : List α) (x : α) : (hpush lt vs x).Perm (vs ++ [x]) := by
  unfold hpush
  refine (sd_perm lt x 0 _ _ (by simp)).trans ?_
  have e : (vs ++ [x]).set vs.length x = vs ++ [x] := by
    have : nth (vs ++ [x]) vs.length = x := by unfold nth; simp
    conv => lhs; rw [← this]
    rw [this]
    have := set_nth (vs := vs ++ [x]) (i := vs.length)
    rwa [‹nth (vs ++ [x]) vs.length = x›] at this
  rw [e]
theorem desc_zero : ∀ p : Nat, Desc 0 p := by
  intro p
  induction p using Nat.strongRecOn with
  | _ p ih =>
    rw [desc_iff]
    by_cases h : p = 0
    · exact .inl h
    · exact .inr ⟨by (first | lia | omega), ih _ (by (first | lia | omega))⟩
theorem nth_append_left {vs ws : List α} {i : Nat} (h : i < vs.length) : nth (vs ++ ws) i = nth vs i := by
  unfold nth; rw [List.getElem?_append_left h]
theorem hpush_heap (O : SWO P lt) {vs : List α} {x : α} (hP : ∀ a ∈ vs, P a) (hx : P x) (hh : HeapFrom lt 0 vs) : HeapFrom lt 0 (hpush lt vs x) := by
  unfold hpush
  refine sd_heap O x 0 hx _ _ ?_ ⟨?_, ?_, desc_zero _, by simp⟩ ?_
  · intro a ha
    rcases List.mem_append.mp ha with h | h
    · exact hP a h
    · rw [List.mem_singleton.mp h]; exact hx
  · intro j h0 hl hs hj hp
    have hl' : j < vs.length := by simp at hl; (first | lia | omega)
    rw [nth_append_left hl', nth_append_left (by (first | lia | omega))]
    exact hh j h0 hl' hs
  · intro h j h0 hl hp
    simp at hl; (first | lia | omega)
  · intro j h0 hl hp
    simp at hl; (first | lia | omega)

/-- pop -/
noncomputable def hpop (lt : α → α → Bool) (vs : List α) : α × List α :=
  if vs.length ≤ 1 then (nth vs 0, []) else (nth vs 0, su lt ((vs.eraseIdx (vs.length - 1)).set 0 (nth vs (vs.length - 1))) 0)
theorem eraseLast_append {vs : List α} (h : 0 < vs.length) : vs.eraseIdx (vs.length - 1) ++ [nth vs (vs.length - 1)] = vs := by
  rw [List.eraseIdx_eq_take_drop_succ, List.drop_eq_nil_of_le (by (first | lia | omega)), List.append_nil, nth_getElem (by (first | lia | omega))]
  have := List.take_append_getElem (l := vs) (i := vs.length - 1) (by (first | lia | omega))
  rw [this, List.take_of_length_le (by (first | lia | omega))]
theorem hpop_perm (lt : α → α → Bool) {vs : List α} (h : 0 < vs.length) : ((hpop lt vs).1 :: (hpop lt vs).2).Perm vs := by
  unfold hpop
  split
  · rename_i h1
    match vs, h with
    | [a], _ => exact List.Perm.refl _
    | _ :: _ :: _, _ => simp at h1
  · rename_i h1
    have hlen : (vs.eraseIdx (vs.length - 1)).length = vs.length - 1 := by rw [List.length_eraseIdx]; simp; (first | lia | omega)
    dsimp only
    refine (List.Perm.cons _ (su_perm lt _ 0 (by rw [List.length_set]; (first | lia | omega)))).trans ?_
    have h2 := eraseLast_append h
    generalize hL : nth vs (vs.length - 1) = lst at h2 ⊢
    generalize hE : vs.eraseIdx (vs.length - 1) = es at h2 hlen ⊢
    have h3 : nth vs 0 = nth es 0 := by rw [← h2, nth_append_left (by (first | lia | omega))]
    rw [h3, ← h2]
    match es, hlen with
    | [], hlen => simp at hlen; (first | lia | omega)
    | e :: es, _ =>
      show (e :: lst :: es).Perm (e :: es ++ [lst])
      exact List.Perm.cons _ (List.perm_append_singleton lst es).symm
theorem hpop_heap (O : SWO P lt) {vs : List α} (hP : ∀ a ∈ vs, P a) (h : 0 < vs.length) (hh : HeapFrom lt 0 vs) : HeapFrom lt 0 (hpop lt vs).2 := by
  unfold hpop
  split
  · intro j h0 hl; simp at hl
  · rename_i h1
    have hlen : (vs.eraseIdx (vs.length - 1)).length = vs.length - 1 := by rw [List.length_eraseIdx]; simp; (first | lia | omega)
    dsimp only
    have h2 := eraseLast_append h
    have hn : ∀ j, j < vs.length - 1 → nth (vs.eraseIdx (vs.length - 1)) j = nth vs j := by
      intro j hj
      conv => rhs; rw [← h2]
      rw [nth_append_left (by (first | lia | omega))]
    refine su_heap O _ 0 (all_set (fun a ha => hP a ?_) (hP _ (nth_mem (by (first | lia | omega))))) (by rw [List.length_set]; (first | lia | omega)) ?_
    · exact List.mem_of_mem_eraseIdx ha
    · intro j h0 hl hs
      rw [List.length_set, hlen] at hl
      rw [nth_set_ne (by (first | lia | omega)), nth_set_ne (by (first | lia | omega)), hn j hl, hn _ (by (first | lia | omega))]
      exact hh j h0 (by (first | lia | omega)) (by (first | lia | omega))
end

end Mine


/-! part Q1 -/
set_option autoImplicit false
set_option maxRecDepth 100000
set_option linter.unusedVariables false
open PySem PySem.W PyProof.Rows
namespace Mine


/-! _siftdown -/
noncomputable def siftdown_w1_c : M Bool := (do let a ← (getv "pos"); let b ← (getv "startpos"); let c ← gtV a b; truV c)
noncomputable def siftdown_w1_b : M Fl := (seqM (do let v ← (do let a ← (do let a ← (getv "pos"); let b ← (pure (V.int 1) : M V); subV a b); let b ← (pure (V.int 1) : M V); shrV a b); (fun v => setv "parentpos" v) v; pure .next : M Fl) (seqM (do let v ← (do let o ← (getv "heap"); let i ← (getv "parentpos"); getI o i); (fun v => setv "parent" v) v; pure .next : M Fl) (seqM (do if (← (do let a ← (getv "newitem"); let b ← (getv "parent"); let c ← ltX a b; truV c)) = true then (seqM (do let v ← (getv "parent"); (fun v => do let a ← (getv "heap"); let b ← (getv "pos"); setI a b v) v; pure .next : M Fl) (seqM (do let v ← (getv "parentpos"); (fun v => setv "pos" v) v; pure .next : M Fl) (pure .cont : M Fl))) else (pure .next : M Fl) : M Fl) (pure .brk : M Fl))))
noncomputable def siftdown_m : M Fl := (seqM (do let v ← (do let o ← (getv "heap"); let i ← (getv "pos"); getI o i); (fun v => setv "newitem" v) v; pure .next : M Fl) (seqM (whileM siftdown_w1_c siftdown_w1_b 4096) (do let v ← (getv "newitem"); (fun v => do let a ← (getv "heap"); let b ← (getv "pos"); setI a b v) v; pure .next : M Fl)))
noncomputable def f_siftdown : Fun := funM ["heap", "startpos", "pos"] siftdown_m

/-! _siftup -/
noncomputable def siftup_w1_c : M Bool := (do let a ← (getv "childpos"); let b ← (getv "endpos"); let c ← ltV a b; truV c)
noncomputable def siftup_w1_b : M Fl := (seqM (do let v ← (do let a ← (getv "childpos"); let b ← (pure (V.int 1) : M V); addV a b); (fun v => setv "rightpos" v) v; pure .next : M Fl) (seqM (do if (← (do if (← (do let a ← (getv "rightpos"); let b ← (getv "endpos"); let c ← ltV a b; truV c)) = true then (do if (← (do let b ← (do let a ← (do let o ← (getv "heap"); let i ← (getv "childpos"); getI o i); let b ← (do let o ← (getv "heap"); let i ← (getv "rightpos"); getI o i); let c ← ltX a b; truV c); pure (!b))) = true then (pure true : M Bool) else pure false) else pure false)) = true then (do let v ← (getv "rightpos"); (fun v => setv "childpos" v) v; pure .next : M Fl) else (pure .next : M Fl) : M Fl) (seqM (do let v ← (do let o ← (getv "heap"); let i ← (getv "childpos"); getI o i); (fun v => do let a ← (getv "heap"); let b ← (getv "pos"); setI a b v) v; pure .next : M Fl) (seqM (do let v ← (getv "childpos"); (fun v => setv "pos" v) v; pure .next : M Fl) (do let v ← (do let a ← (do let a ← (pure (V.int 2) : M V); let b ← (getv "pos"); mulV a b); let b ← (pure (V.int 1) : M V); addV a b); (fun v => setv "childpos" v) v; pure .next : M Fl)))))
noncomputable def siftup_m : M Fl := (seqM (do let v ← (do let vs ← (do let v ← (getv "heap"); let vs ← (pure [] : M (List V)); pure (v :: vs)); lenB vs); (fun v => setv "endpos" v) v; pure .next : M Fl) (seqM (do let v ← (getv "pos"); (fun v => setv "startpos" v) v; pure .next : M Fl) (seqM (do let v ← (do let o ← (getv "heap"); let i ← (getv "pos"); getI o i); (fun v => setv "newitem" v) v; pure .next : M Fl) (seqM (do let v ← (do let a ← (do let a ← (pure (V.int 2) : M V); let b ← (getv "pos"); mulV a b); let b ← (pure (V.int 1) : M V); addV a b); (fun v => setv "childpos" v) v; pure .next : M Fl) (seqM (whileM siftup_w1_c siftup_w1_b 4096) (seqM (do let v ← (getv "newitem"); (fun v => do let a ← (getv "heap"); let b ← (getv "pos"); setI a b v) v; pure .next : M Fl) (do let _ ← (do let vs ← (do let v ← (getv "heap"); let vs ← (do let v ← (getv "startpos"); let vs ← (do let v ← (getv "pos"); let vs ← (pure [] : M (List V)); pure (v :: vs)); pure (v :: vs)); pure (v :: vs)); callF f_siftdown vs); pure .next : M Fl)))))))
noncomputable def f_siftup : Fun := funM ["heap", "pos"] siftup_m

end Mine


/-! part H2 -/
set_option autoImplicit false
set_option maxRecDepth 100000
set_option linter.unusedVariables false
open PySem PySem.W PyProof.Rows
namespace Mine

/-! ### what M-programs do -/
noncomputable def MW {α : Type} (m : M α) (σ : S) (Q : α → S → Prop) : Prop := ∃ a σ', m σ = .ok a σ' ∧ Q a σ'
section
variable {α β : Type} {σ : S}
theorem MW.mono {m : M α} {Q Q' : α → S → Prop} (h : MW m σ Q) (k : ∀ a σ', Q a σ' → Q' a σ') : MW m σ Q' := by
  obtain ⟨a, σ', e, q⟩ := h; exact ⟨a, σ', e, k _ _ q⟩
theorem MW_fun_ok {m : S → Res S α} {Q : α → S → Prop} {a : α} {σ' : S} (e : m σ = .ok a σ') : MW m σ Q ↔ Q a σ' := by
  constructor
  · rintro ⟨a', σ'', e', q⟩; rw [e] at e'; cases e'; exact q
  · exact fun q => ⟨a, σ', e, q⟩
theorem MW_pure {a : α} {Q : α → S → Prop} : MW (pure a : M α) σ Q ↔ Q a σ := MW_fun_ok rfl
theorem MW_bind {m : M α} {f : α → M β} {Q : β → S → Prop} : MW (m >>= f) σ Q ↔ MW m σ (fun a σ' => MW (f a) σ' Q) := by
  constructor
  · rintro ⟨b, σ', e, q⟩
    rw [M.bind_def] at e
    cases em : m σ with
    | ok a σ₁ => rw [em] at e; exact ⟨a, σ₁, em, b, σ', e, q⟩
    | exc x y => rw [em] at e; cases e
    | stuck => rw [em] at e; cases e
  · rintro ⟨a, σ₁, em, b, σ', e, q⟩
    exact ⟨b, σ', by rw [M.bind_def, em]; exact e, q⟩
theorem MW_seq {a b : M Fl} {Q : Fl → S → Prop} : MW (seqM a b) σ Q ↔ MW a σ (fun f σ' => match f with | .next => MW b σ' Q | .brk => Q .brk σ' | .cont => Q .cont σ' | .ret v => Q (.ret v) σ') := by
  unfold seqM
  rw [MW_bind]
  constructor
  · rintro ⟨f, σ', e, q⟩
    refine ⟨f, σ', e, ?_⟩
    cases f <;> first | exact q | exact MW_pure.mp q
  · rintro ⟨f, σ', e, q⟩
    refine ⟨f, σ', e, ?_⟩
    cases f <;> first | exact q | exact MW_pure.mpr q
theorem MW_getv {x : String} {Q : V → S → Prop} : MW (getv x) σ Q ↔ ∃ v, σ.lo x = some v ∧ Q v σ := by
  constructor
  · rintro ⟨a, σ', e, q⟩
    unfold getv at e
    cases h : σ.lo x with
    | none => rw [h] at e; cases e
    | some v => rw [h] at e; cases e; exact ⟨_, rfl, q⟩
  · rintro ⟨v, e, q⟩
    exact ⟨v, σ, by unfold getv; rw [e], q⟩
theorem MW_setv {x : String} {v : V} {Q : Unit → S → Prop} : MW (setv x v) σ Q ↔ Q () (σ.put x v) := MW_fun_ok rfl
theorem MW_tru {b : Bool} {Q : Bool → S → Prop} : MW (truV (.bool b)) σ Q ↔ Q b σ := MW_fun_ok rfl
theorem MW_lt_int {a b : Int} {Q : V → S → Prop} : MW (ltV (.int a) (.int b)) σ Q ↔ Q (.bool (decide (a < b))) σ := by
  refine MW_fun_ok ?_
  unfold ltV
  simp only [toD, ltD]
theorem MW_shr {a : Int} {Q : V → S → Prop} : MW (shrV (.int a) (.int 1)) σ Q ↔ 0 ≤ a ∧ Q (.int (a / 2)) σ := by
  by_cases h : 0 ≤ a
  · rw [MW_fun_ok (a := .int (a / 2)) (σ' := σ) (by simp [shrV, h])]; simp [h]
  · constructor
    · rintro ⟨_, _, e, _⟩; simp [shrV, h] at e
    · exact fun q => absurd q.1 h
theorem MW_mul {a b : Int} {Q : V → S → Prop} : MW (mulV (.int a) (.int b)) σ Q ↔ (-1000000000 < a ∧ a < 1000000000) ∧ Q (.int (a * b)) σ := by
  by_cases h : -1000000000 < a ∧ a < 1000000000
  · rw [MW_fun_ok (a := .int (a * b)) (σ' := σ) (by simp only [mulV, if_pos h])]; simp [h]
  · constructor
    · rintro ⟨_, _, e, _⟩; simp only [mulV, if_neg h] at e; cases e
    · exact fun q => absurd q.1 h
theorem MW_fdiv {a b : Int} {Q : V → S → Prop} : MW (fdivV (.int a) (.int b)) σ Q ↔ (0 < b ∧ b < 1000000000) ∧ Q (.int (a / b)) σ := by
  by_cases h : 0 < b ∧ b < 1000000000
  · rw [MW_fun_ok (a := .int (a / b)) (σ' := σ) (by simp only [fdivV, if_pos h])]; simp [h]
  · constructor
    · rintro ⟨_, _, e, _⟩; simp only [fdivV, if_neg h] at e; cases e
    · exact fun q => absurd q.1 h
theorem MW_fmod {a b : Int} {Q : V → S → Prop} : MW (fmodV (.int a) (.int b)) σ Q ↔ (0 < b ∧ b < 1000000000) ∧ Q (.int (a % b)) σ := by
  by_cases h : 0 < b ∧ b < 1000000000
  · rw [MW_fun_ok (a := .int (a % b)) (σ' := σ) (by simp only [fmodV, if_pos h])]; simp [h]
  · constructor
    · rintro ⟨_, _, e, _⟩; simp only [fmodV, if_neg h] at e; cases e
    · exact fun q => absurd q.1 h
theorem ix_nat {n j : Nat} : ix n (j : Int) = if j < n then some j else none := by
  unfold ix; rw [if_pos (by (first | lia | omega))]; simp
theorem MW_getI {l : Nat} {k : Int} {vs : List V} {j : Nat} {v : V} {Q : V → S → Prop} (h : σ.st[l]? = some (.lst vs)) (hk : ix vs.length k = some j) (hv : vs[j]? = some v) : MW (getI (.obj l) (.int k)) σ Q ↔ Q v σ := by
  refine MW_fun_ok ?_
  simp only [getI, h, hk, hv]
theorem MW_getT {vs : List V} {k : Int} {j : Nat} {v : V} {Q : V → S → Prop} (hk : ix vs.length k = some j) (hv : vs[j]? = some v) : MW (getI (.tup vs) (.int k)) σ Q ↔ Q v σ := by
  refine MW_fun_ok ?_
  simp only [getI, hk, hv]
theorem MW_setI {l : Nat} {k : Int} {vs : List V} {v : V} {j : Nat} {Q : Unit → S → Prop} (h : σ.st[l]? = some (.lst vs)) (hl : l ≠ 0) (hk : k = j) (hj : j < vs.length) :
    MW (setI (.obj l) (.int k) v) σ Q ↔ Q () { σ with st := σ.st.set l (.lst (vs.set j v)) } := by
  refine MW_fun_ok ?_
  subst hk
  simp [setI, h, hl, hj]
theorem MW_len {l : Nat} {vs : List V} {Q : V → S → Prop} (h : σ.st[l]? = some (.lst vs)) : MW (lenB [.obj l]) σ Q ↔ Q (.int vs.length) σ := by
  refine MW_fun_ok ?_
  simp only [lenB, h]
theorem MW_chkL {l : Nat} {vs : List V} {Q : Unit → S → Prop} (h : σ.st[l]? = some (.lst vs)) : MW (chkL (.obj l)) σ Q ↔ Q () σ := MW_fun_ok (chkL_ok h)
theorem MW_append {l : Nat} {vs : List V} {v : V} {Q : V → S → Prop} (h : σ.st[l]? = some (.lst vs)) (hl : l ≠ 0) (hn : vs.length < 1000000) : MW (appendG (.obj l) [v]) σ Q ↔ Q .none { σ with st := σ.st.set l (.lst (vs ++ [v])) } := by
  refine MW_fun_ok ?_
  simp [appendG, h, hl, hn]
theorem MW_newL {vs : List V} {Q : V → S → Prop} (hn : vs.length ≤ 1000000) : MW (newL vs) σ Q ↔ Q (.obj σ.st.length) { σ with st := σ.st ++ [.lst vs] } := by
  refine MW_fun_ok ?_
  simp only [newL, if_pos hn]
theorem MW_mkT {vs : List V} {Q : V → S → Prop} (hn : vs.length ≤ 1000000) : MW (mkT vs) σ Q ↔ Q (.tup vs) σ := by
  refine MW_fun_ok ?_
  simp only [mkT, if_pos hn]
theorem MW_callF {g : Fun} {vs : List V} {v : V} {st' : Store} {Q : V → S → Prop} (h : g vs σ.st = .ok v st') : MW (callF g vs) σ Q ↔ Q v { σ with st := st' } := by
  refine MW_fun_ok ?_
  simp only [callF, h]

theorem MW_while {c : M Bool} {b : M Fl} {Q : Fl → S → Prop} (I : Nat → S → Prop)
    (h : ∀ k σ, I k σ → MW c σ (fun t σ₁ => if t = true then MW b σ₁ (fun f σ₂ => match f with | .next => ∃ j, j < k ∧ I j σ₂ | .cont => ∃ j, j < k ∧ I j σ₂ | .brk => Q .next σ₂ | .ret v => Q (.ret v) σ₂) else Q .next σ₁)) :
    ∀ (n k : Nat) (σ : S), k < n → I k σ → MW (whileM c b n) σ Q := by
  intro n
  induction n with
  | zero => intro k σ hk; (first | lia | omega)
  | succ n ih =>
    intro k σ hk hI
    unfold whileM
    rw [MW_bind]
    refine (h k σ hI).mono fun t σ₁ ht => ?_
    cases t with
    | false => simp only [Bool.false_eq_true, if_false] at ht ⊢; exact MW_pure.mpr ht
    | true =>
      simp only [if_true] at ht ⊢
      rw [MW_bind]
      refine ht.mono fun f σ₂ hf => ?_
      cases f with
      | next => obtain ⟨j, hj, hI'⟩ := hf; exact ih j σ₂ (by (first | lia | omega)) hI'
      | cont => obtain ⟨j, hj, hI'⟩ := hf; exact ih j σ₂ (by (first | lia | omega)) hI'
      | brk => exact MW_pure.mpr hf
      | ret v => exact MW_pure.mpr hf

theorem MW_for {nxt : S → Nat → Option (Option V)} {t : V → M Unit} {b : M Fl} {Q : Fl → S → Prop} (N : Nat) (I : Nat → S → Prop)
    (hend : ∀ σ, I N σ → nxt σ N = some none ∧ Q .next σ)
    (h : ∀ i σ, i < N → I i σ → ∃ v, nxt σ i = some (some v) ∧ MW (t v) σ (fun _ σ₁ => MW b σ₁ (fun f σ₂ => match f with | .next => I (i + 1) σ₂ | .cont => I (i + 1) σ₂ | .brk => Q .next σ₂ | .ret v => Q (.ret v) σ₂))) :
    ∀ (n i : Nat) (σ : S), i ≤ N → N - i < n → I i σ → MW (forG nxt t b n i) σ Q := by
  intro n
  induction n with
  | zero => intro i σ _ hk; (first | lia | omega)
  | succ n ih =>
    intro i σ hi hk hI
    by_cases hN : i = N
    · subst hN
      obtain ⟨e, q⟩ := hend σ hI
      refine ⟨.next, σ, ?_, q⟩
      rw [forG]; dsimp only; rw [e]
    · obtain ⟨v, e, hw⟩ := h i σ (by (first | lia | omega)) hI
      have key : MW (do
        t v
        match ← b with
        | .next => forG nxt t b n (i + 1)
        | .cont => forG nxt t b n (i + 1)
        | .brk => pure .next
        | .ret v => pure (.ret v)) σ Q := by
        rw [MW_bind]
        refine hw.mono fun _ σ₁ h1 => ?_
        rw [MW_bind]
        refine h1.mono fun f σ₂ hf => ?_
        cases f with
        | next => exact ih (i + 1) σ₂ (by (first | lia | omega)) (by (first | lia | omega)) hf
        | cont => exact ih (i + 1) σ₂ (by (first | lia | omega)) (by (first | lia | omega)) hf
        | brk => exact MW_pure.mpr hf
        | ret v => exact MW_pure.mpr hf
      obtain ⟨a, σ', e2, q⟩ := key
      refine ⟨a, σ', ?_, q⟩
      rw [forG]; dsimp only; rw [e]; exact e2
end

/-! steps -/
section
variable {α β γ : Type} {σ : S}
theorem w_as {m : M α} {f : α → M β} {g : β → M γ} {Q : γ → S → Prop} (k : MW (m >>= fun a => f a >>= g) σ Q) : MW ((m >>= f) >>= g) σ Q :=
  MW_bind.mpr (MW_bind.mpr ((MW_bind.mp k).mono fun _ _ h => MW_bind.mp h))
theorem w_pure {a : α} {f : α → M β} {Q : β → S → Prop} (k : MW (f a) σ Q) : MW ((pure a : M α) >>= f) σ Q := k
theorem w_if {c : Prop} [Decidable c] {a b : M α} {f : α → M β} {Q : β → S → Prop} (k : MW (if c then a >>= f else b >>= f) σ Q) : MW ((if c then a else b) >>= f) σ Q := by
  split at k
  · rename_i h; rw [if_pos h]; exact k
  · rename_i h; rw [if_neg h]; exact k
theorem w_t {a b : M α} {Q : α → S → Prop} (k : MW a σ Q) : MW (if true = true then a else b) σ Q := k
theorem w_f {a b : M α} {Q : α → S → Prop} (k : MW b σ Q) : MW (if false = true then a else b) σ Q := k
theorem w_get {x : String} {v : V} {f : V → M β} {Q : β → S → Prop} (h : σ.lo x = some v) (k : MW (f v) σ Q) : MW (getv x >>= f) σ Q := MW_bind.mpr (MW_getv.mpr ⟨v, h, k⟩)
theorem w_set {x : String} {v : V} {f : Unit → M β} {Q : β → S → Prop} (k : MW (f ()) (σ.put x v) Q) : MW (setv x v >>= f) σ Q := k
theorem w_add {a b : Int} {f : V → M β} {Q : β → S → Prop} (k : MW (f (.int (a + b))) σ Q) : MW (addV (.int a) (.int b) >>= f) σ Q := k
theorem w_sub {a b : Int} {f : V → M β} {Q : β → S → Prop} (k : MW (f (.int (a - b))) σ Q) : MW (subV (.int a) (.int b) >>= f) σ Q := k
theorem w_neg {a : Int} {f : V → M β} {Q : β → S → Prop} (k : MW (f (.int (-a))) σ Q) : MW (negV (.int a) >>= f) σ Q := k
theorem w_tru {b : Bool} {f : Bool → M β} {Q : β → S → Prop} (k : MW (f b) σ Q) : MW (truV (.bool b) >>= f) σ Q := k
theorem w_lt {a b : Int} {f : V → M β} {Q : β → S → Prop} (k : MW (f (.bool (decide (a < b)))) σ Q) : MW (ltV (.int a) (.int b) >>= f) σ Q := MW_bind.mpr (MW_lt_int.mpr k)
theorem w_gt {a b : Int} {f : V → M β} {Q : β → S → Prop} (k : MW (f (.bool (decide (b < a)))) σ Q) : MW (gtV (.int a) (.int b) >>= f) σ Q := k
theorem w_ge {a b : Int} {f : V → M β} {Q : β → S → Prop} (k : MW (f (.bool (decide (b ≤ a)))) σ Q) : MW (geV (.int a) (.int b) >>= f) σ Q := k
theorem w_le {a b : Int} {f : V → M β} {Q : β → S → Prop} (k : MW (f (.bool (decide (a ≤ b)))) σ Q) : MW (leV (.int a) (.int b) >>= f) σ Q := k
theorem w_end {m : M α} {f : α → M β} {Q : β → S → Prop} (k : MW m σ (fun a σ' => MW (f a) σ' Q)) : MW (m >>= f) σ Q := MW_bind.mpr k
theorem w_seq {a b : M Fl} {Q : Fl → S → Prop} (k : MW a σ (fun f σ' => match f with | .next => MW b σ' Q | .brk => Q .brk σ' | .cont => Q .cont σ' | .ret v => Q (.ret v) σ')) : MW (seqM a b) σ Q := MW_seq.mpr k
theorem e_pure {a : α} {Q : α → S → Prop} (k : Q a σ) : MW (pure a : M α) σ Q := ⟨a, σ, rfl, k⟩
theorem e_set {x : String} {v : V} {Q : Unit → S → Prop} (k : Q () (σ.put x v)) : MW (setv x v) σ Q := MW_setv.mpr k
theorem e_tru {b : Bool} {Q : Bool → S → Prop} (k : Q b σ) : MW (truV (.bool b)) σ Q := MW_tru.mpr k
theorem e_get {x : String} {v : V} {Q : V → S → Prop} (h : σ.lo x = some v) (k : Q v σ) : MW (getv x) σ Q := MW_getv.mpr ⟨v, h, k⟩
end

theorem funM_of {params : List String} {body : M Fl} {vs : List V} {st st' : Store} {v : V} (hl : vs.length = params.length)
    (h : MW body ⟨st, bindP params vs⟩ (fun f σ' => (match f with | .ret u => u | _ => .none) = v ∧ σ'.st = st')) : funM params body vs st = .ok v st' := by
  obtain ⟨f, σ', e, h1, h2⟩ := h
  unfold funM
  rw [if_pos hl, e]
  subst h1 h2
  cases f <;> rfl

/-! ### the heap functions -/
/-- a < b, whatever stands at place l -/
noncomputable def LtAtL (st : Store) (l : Nat) (P : V → Prop) (lt : V → V → Bool) : Prop :=
  ∀ ws : List V, ∀ a b, P a → P b → ∀ lo, ltV a b ⟨st.set l (.lst ws), lo⟩ = .ok (.bool (lt a b)) ⟨st.set l (.lst ws), lo⟩

end Mine


/-! part H3 -/
set_option autoImplicit false
set_option maxRecDepth 100000
set_option linter.unusedVariables false
set_option linter.unusedSimpArgs false
open PySem PySem.W PyProof.Rows
namespace Mine

variable {P : V → Prop} {lt : V → V → Bool}

theorem set_get {st : Store} {l : Nat} {ws : List V} {c : Cel} (h : st[l]? = some c) : (st.set l (.lst ws))[l]? = some (.lst ws) := by
  rw [List.getElem?_set_self]; exact (List.getElem?_eq_some_iff.mp h).1
theorem set_id {st : Store} {l : Nat} {ws : List V} (h : st[l]? = some (.lst ws)) : st.set l (.lst ws) = st := by
  obtain ⟨h1, h2⟩ := List.getElem?_eq_some_iff.mp h
  rw [← h2]; exact List.set_getElem_self h1
theorem MW_ltP {st : Store} {l : Nat} {σ : S} {ws : List V} {a b : V} {Q : V → S → Prop} (h : LtAtL st l P lt) (hs : σ.st = st.set l (.lst ws)) (ha : P a) (hb : P b) : MW (ltX a b) σ Q ↔ Q (.bool (lt a b)) σ := by
  refine MW_fun_ok (ltX_ok ?_)
  obtain ⟨s1, lo⟩ := σ
  dsimp only at hs
  subst hs
  exact h ws a b ha hb lo
theorem w_getN {l j : Nat} {k : Int} {vs : List V} {σ : S} {Q : V → S → Prop} (h : σ.st[l]? = some (.lst vs)) (hk : k = j) (hj : j < vs.length) (q : Q (nth vs j) σ) : MW (getI (.obj l) (.int k)) σ Q := by
  subst hk
  exact (MW_getI h (by rw [ix_nat, if_pos hj]) (nth_eq hj)).mpr q

theorem LtAtL.set {st : Store} {l : Nat} (h : LtAtL st l P lt) (ws : List V) : LtAtL (st.set l (.lst ws)) l P lt := by
  intro us a b ha hb lo
  rw [List.set_set]
  exact h us a b ha hb lo

end Mine


/-! part H4 -/
set_option autoImplicit false
set_option maxRecDepth 100000
set_option linter.unusedVariables false
set_option linter.unusedSimpArgs false
open PySem PySem.W PyProof.Rows
namespace Mine

variable {P : V → Prop} {lt : V → V → Bool}
theorem nxt_rng (a b c : Int) (σ : S) (i : Nat) : nxtOf (.rng a b c) σ i = some (if i < rngLen a b c then some (.int (a + i * c)) else none) := rfl

end Mine


/-! part H5 -/
set_option autoImplicit false
set_option maxRecDepth 100000
set_option linter.unusedVariables false
set_option linter.unusedSimpArgs false
open PySem PySem.W PyProof.Rows
namespace Mine

/-! ### lists of ints -/
section
variable {σ : S}

theorem toD_int {st : Store} {n : Nat} {i : Int} : toD st (n + 1) (.int i) = some (.int i) := by simp only [toD]
theorem mapO_ints {st : Store} {n : Nat} : ∀ ns : List Int, mapO (toD st (n + 1)) (ns.map V.int) = some (ns.map PyData.int)
  | [] => rfl
  | a :: ns => by
    show mapO (toD st (n + 1)) (V.int a :: ns.map V.int) = _
    unfold mapO
    rw [toD_int, mapO_ints ns]
    rfl
theorem toD_intL {st : Store} {n l : Nat} {ns : List Int} (h : st[l]? = some (.lst (ns.map V.int))) : toD st (n + 2) (.obj l) = some (.list (ns.map PyData.int)) := by
  rw [toD]
  simp only [h]
  rw [mapO_ints]; rfl
theorem eqvAll_ints : ∀ as bs : List Int, PyData.eqvAll (as.map PyData.int) (bs.map PyData.int) = decide (as = bs)
  | [], [] => by simp [PyData.eqvAll]
  | [], _ :: _ => by simp [PyData.eqvAll]
  | _ :: _, [] => by simp [PyData.eqvAll]
  | a :: as, b :: bs => by
    simp only [List.map_cons, PyData.eqvAll, eqvAll_ints as bs, PyData.eqv]
    by_cases h : a = b
    · subst h; simp
    · simp [h]
theorem MW_eqL {l k : Nat} {as bs : List Int} {Q : V → S → Prop} (h1 : σ.st[l]? = some (.lst (as.map V.int))) (h2 : σ.st[k]? = some (.lst (bs.map V.int))) : MW (eqV (.obj l) (.obj k)) σ Q ↔ Q (.bool (decide (as = bs))) σ := by
  refine MW_fun_ok ?_
  unfold eqV
  rw [toD_intL h1, toD_intL h2]
  simp only [PyData.eqv, eqvAll_ints]
theorem MW_neL {l k : Nat} {as bs : List Int} {Q : V → S → Prop} (h1 : σ.st[l]? = some (.lst (as.map V.int))) (h2 : σ.st[k]? = some (.lst (bs.map V.int))) : MW (neV (.obj l) (.obj k)) σ Q ↔ Q (.bool (!decide (as = bs))) σ := by
  refine MW_fun_ok ?_
  unfold neV
  rw [toD_intL h1, toD_intL h2]
  simp only [PyData.eqv, eqvAll_ints]
theorem MW_eqI {a b : Int} {Q : V → S → Prop} : MW (eqV (.int a) (.int b)) σ Q ↔ Q (.bool (decide (a = b))) σ := by
  refine MW_fun_ok ?_
  unfold eqV
  rw [toD_int, toD_int]
  simp only [PyData.eqv]
  rfl
theorem MW_isNotNone {v : V} {Q : V → S → Prop} : MW (isNotV v .none) σ Q ↔ Q (.bool (!v.isNone)) σ := by
  refine MW_fun_ok ?_
  cases v <;> rfl
theorem intsOf_map : ∀ ns : List Int, intsOf (ns.map V.int) = some ns
  | [] => rfl
  | a :: ns => by simp only [List.map_cons, intsOf, intsOf_map ns]; rfl
theorem MW_addL {l k : Nat} {as bs : List V} {Q : V → S → Prop} (h1 : σ.st[l]? = some (.lst as)) (h2 : σ.st[k]? = some (.lst bs)) (hn : (as ++ bs).length ≤ 1000000) :
    MW (addV (.obj l) (.obj k)) σ Q ↔ Q (.obj σ.st.length) { σ with st := σ.st ++ [.lst (as ++ bs)] } := by
  refine MW_fun_ok ?_
  simp only [addV, h1, h2, newL, if_pos hn]
theorem MW_abs {a : Int} {Q : V → S → Prop} : MW (absB [.int a]) σ Q ↔ Q (.int (if a < 0 then -a else a)) σ := MW_fun_ok rfl
theorem pick_plain {α : Type} (vs : List α) (lo hi : Option Int) : pickV vs lo hi none = (vs.drop (lo.elim 0 (clipAt vs.length))).take (hi.elim vs.length (clipAt vs.length) - lo.elim 0 (clipAt vs.length)) := by
  unfold pickV
  rw [sliceBounds_plain]
  dsimp only
  rw [sliceRange_one]
  generalize lo.elim 0 (clipAt vs.length) = a
  generalize hi.elim vs.length (clipAt vs.length) - a = n
  induction n generalizing a with
  | zero => simp
  | succ n ih =>
    rw [List.range_succ, List.map_append, List.filterMap_append, ih]
    simp only [List.map_cons, List.map_nil, List.filterMap_cons, List.filterMap_nil]
    rw [List.take_add_one, List.getElem?_drop]
    cases vs[a + n]? <;> rfl
theorem MW_slice {l : Nat} {vs : List V} {a b : V} {lo hi : Option Int} {Q : V → S → Prop} (h : σ.st[l]? = some (.lst vs)) (ha : partO a = some lo) (hb : partO b = some hi) :
    MW (sliceV (.obj l) (a, b, .none)) σ Q ↔ Q (.obj σ.st.length) { σ with st := σ.st ++ [.lst ((vs.drop (lo.elim 0 (clipAt vs.length))).take (hi.elim vs.length (clipAt vs.length) - lo.elim 0 (clipAt vs.length)))] } := by
  refine MW_fun_ok ?_
  have hn : partO V.none = some none := rfl
  simp only [sliceV, h, ha, hb, hn]
  rw [if_neg (by simp), pick_plain]
end
end Mine


/-! part H6 -/
set_option autoImplicit false
set_option maxRecDepth 100000
set_option linter.unusedVariables false
set_option linter.unusedSimpArgs false
open PySem PySem.W PyProof.Rows
namespace Mine

/-! ### stores: all stays but the places L -/
noncomputable def Pres (L : List Nat) (st st' : Store) : Prop := st.length ≤ st'.length ∧ ∀ k, k < st.length → k ∉ L → st'[k]? = st[k]?
theorem lt_of_get {st : Store} {l : Nat} {c : Cel} (h : st[l]? = some c) : l < st.length := (List.getElem?_eq_some_iff.mp h).1
theorem Pres.refl (L : List Nat) (st : Store) : Pres L st st := ⟨Nat.le_refl _, fun _ _ _ => rfl⟩
theorem Pres.trans {L : List Nat} {a b c : Store} (x : Pres L a b) (y : Pres L b c) : Pres L a c :=
  ⟨Nat.le_trans x.1 y.1, fun k hk hl => (y.2 k (Nat.lt_of_lt_of_le hk x.1) hl).trans (x.2 k hk hl)⟩
theorem Pres.get {L : List Nat} {a b : Store} {k : Nat} {c : Cel} (x : Pres L a b) (h : a[k]? = some c) (hk : k ∉ L) : b[k]? = some c := (x.2 k (lt_of_get h) hk).trans h
theorem Pres.get0 {a b : Store} {k : Nat} {c : Cel} (x : Pres [] a b) (h : a[k]? = some c) : b[k]? = some c := x.get h (by simp)
theorem Pres.app (L : List Nat) (st xs : Store) : Pres L st (st ++ xs) := ⟨by simp, fun k hk _ => List.getElem?_append_left hk⟩
theorem set_self {st : Store} {l : Nat} {c : Cel} (h : l < st.length) : (st.set l c)[l]? = some c := List.getElem?_set_self h

section
variable {σ : S}
theorem MW_newL' {vs : List V} {Q : V → S → Prop} (hn : vs.length ≤ 1000000) (h : ∀ k st', Pres [] σ.st st' → σ.st.length ≤ k → st'[k]? = some (.lst vs) → Q (.obj k) ⟨st', σ.lo⟩) : MW (newL vs) σ Q :=
  (MW_newL hn).mpr (h _ _ (Pres.app ..) (Nat.le_refl _) List.getElem?_concat_length)
theorem MW_addL' {l k : Nat} {as bs : List V} {Q : V → S → Prop} (h1 : σ.st[l]? = some (.lst as)) (h2 : σ.st[k]? = some (.lst bs)) (hn : (as ++ bs).length ≤ 1000000)
    (h : ∀ k st', Pres [] σ.st st' → σ.st.length ≤ k → st'[k]? = some (.lst (as ++ bs)) → Q (.obj k) ⟨st', σ.lo⟩) : MW (addV (.obj l) (.obj k)) σ Q :=
  (MW_addL h1 h2 hn).mpr (h _ _ (Pres.app ..) (Nat.le_refl _) List.getElem?_concat_length)
theorem MW_slice' {l : Nat} {vs : List V} {a b : V} {lo hi : Option Int} {ws : List V} {Q : V → S → Prop} (hl : σ.st[l]? = some (.lst vs)) (ha : partO a = some lo) (hb : partO b = some hi)
    (he : (vs.drop (lo.elim 0 (clipAt vs.length))).take (hi.elim vs.length (clipAt vs.length) - lo.elim 0 (clipAt vs.length)) = ws)
    (h : ∀ k st', Pres [] σ.st st' → σ.st.length ≤ k → st'[k]? = some (.lst ws) → Q (.obj k) ⟨st', σ.lo⟩) : MW (sliceV (.obj l) (a, b, .none)) σ Q := by
  subst he
  exact (MW_slice hl ha hb).mpr (h _ _ (Pres.app ..) (Nat.le_refl _) List.getElem?_concat_length)
theorem MW_callF' {g : Fun} {vs : List V} {v : V} {st' : Store} {Q : V → S → Prop} (h : g vs σ.st = .ok v st') (q : Q v ⟨st', σ.lo⟩) : MW (callF g vs) σ Q := (MW_callF h).mpr q
end
theorem funM_ex {params : List String} {body : M Fl} {vs : List V} {st : Store} {R : V → Store → Prop} (hl : vs.length = params.length)
    (h : MW body ⟨st, bindP params vs⟩ (fun f σ' => R (match f with | .ret u => u | _ => .none) σ'.st)) : ∃ v st', funM params body vs st = .ok v st' ∧ R v st' := by
  obtain ⟨f, σ', e, h1⟩ := h
  exact ⟨_, _, funM_of hl ⟨f, σ', e, rfl, rfl⟩, h1⟩

theorem clip_nat {n k : Nat} : clipAt n (k : Int) = min k n := by
  unfold clipAt; rw [if_neg (by (first | lia | omega))]; (first | lia | omega)

theorem slice_nat {α : Type} (vs : List α) (a b : Nat) : (vs.drop (min a vs.length)).take (min b vs.length - min a vs.length) = (vs.drop a).take (b - a) := by
  by_cases h : a ≤ vs.length
  · rw [Nat.min_eq_left h]
    conv => rhs; rw [List.take_eq_take_min]
    rw [List.length_drop]
    congr 1; (first | lia | omega)
  · rw [List.drop_eq_nil_of_le (show vs.length ≤ min a vs.length by (first | lia | omega)), List.drop_eq_nil_of_le (show vs.length ≤ a by (first | lia | omega))]; simp
theorem slice_from {α : Type} (vs : List α) (a : Nat) : (vs.drop (min a vs.length)).take (vs.length - min a vs.length) = vs.drop a := by
  have := slice_nat vs a vs.length
  rw [Nat.min_self] at this
  rw [this, List.take_of_length_le (by simp)]
section
variable {σ : S}
theorem MW_sl1 {l : Nat} {vs : List V} {x : Int} {Q : V → S → Prop} (a : Nat) (hl : σ.st[l]? = some (.lst vs)) (hx : x = a)
    (h : ∀ k st', Pres [] σ.st st' → σ.st.length ≤ k → st'[k]? = some (.lst (vs.drop a)) → Q (.obj k) ⟨st', σ.lo⟩) : MW (sliceV (.obj l) (.int x, .none, .none)) σ Q := by
  subst hx
  refine MW_slice' (lo := some (a : Int)) (hi := none) hl rfl rfl ?_ h
  simp only [Option.elim, clip_nat]
  exact slice_from vs a
theorem MW_sl0 {l : Nat} {vs : List V} {y : Int} {Q : V → S → Prop} (b : Nat) (hl : σ.st[l]? = some (.lst vs)) (hy : y = b)
    (h : ∀ k st', Pres [] σ.st st' → σ.st.length ≤ k → st'[k]? = some (.lst (vs.take b)) → Q (.obj k) ⟨st', σ.lo⟩) : MW (sliceV (.obj l) (.none, .int y, .none)) σ Q := by
  subst hy
  refine MW_slice' (lo := none) (hi := some (b : Int)) hl rfl rfl ?_ h
  simp only [Option.elim, clip_nat]
  simp
end
theorem nthV {ns : List Int} {i : Nat} (h : i < ns.length) : nth (ns.map V.int) i = .int (nth ns i) := by
  rw [nth_getElem (by simpa using h), nth_getElem h]; simp
section
variable {σ : S}
end

end Mine


/-! part H7 -/
set_option autoImplicit false
set_option maxRecDepth 100000
set_option linter.unusedVariables false
set_option linter.unusedSimpArgs false
open PySem PySem.W PyProof.Rows
namespace Mine

theorem MW_loopC {nxt : S → Nat → Option (Option V)} {t : V → M Unit} {c : M Bool} {mi : M Unit} {Q : Unit → S → Prop} (N : Nat) (I : Nat → S → Prop)
    (hend : ∀ σ, I N σ → nxt σ N = some none ∧ Q () σ)
    (h : ∀ i σ, i < N → I i σ → ∃ v, nxt σ i = some (some v) ∧ MW (t v) σ (fun _ σ₁ => MW c σ₁ (fun b σ₂ => if b = true then MW mi σ₂ (fun _ σ₃ => I (i + 1) σ₃) else I (i + 1) σ₂)))
    (n : Nat) (σ : S) (hn : N < n) (h0 : I 0 σ) : MW (loopC n t c mi nxt) σ Q := by
  unfold loopC
  rw [MW_bind]
  refine MW_for (Q := fun _ σ' => MW (pure ()) σ' Q) N I (fun σ hI => ⟨(hend σ hI).1, MW_pure.mpr (hend σ hI).2⟩) ?_ n 0 σ (Nat.zero_le _) (by (first | lia | omega)) h0
  intro i σ hi hI
  obtain ⟨v, e, hw⟩ := h i σ hi hI
  refine ⟨v, e, hw.mono fun _ σ₁ h1 => ?_⟩
  unfold compB
  rw [MW_bind]
  refine h1.mono fun b σ₂ h2 => ?_
  cases b with
  | true =>
    simp only [if_true] at h2 ⊢
    rw [MW_bind]
    exact h2.mono fun _ σ₃ h3 => MW_pure.mpr h3
  | false =>
    simp only [Bool.false_eq_true, if_false] at h2 ⊢
    exact MW_pure.mpr h2

theorem MW_compTail {free : List String} {mc : Nat → (S → Nat → Option (Option V)) → M Unit} {v : V} {σ : S} {Q : V → S → Prop} (hok : okIter v σ = .ok () σ)
    (h : MW (mc σ.st.length (nxtOf v)) ⟨σ.st ++ [.lst []], restr free σ.lo⟩ (fun _ σ' => Q (.obj σ.st.length) ⟨σ'.st, σ.lo⟩)) : MW (compTail free mc v) σ Q := by
  obtain ⟨u, σ', e, q⟩ := h
  refine ⟨.obj σ.st.length, ⟨σ'.st, σ.lo⟩, ?_, q⟩
  unfold compTail
  rw [hok]
  dsimp only
  rw [e]

noncomputable def Agree (st st' : Store) : Prop := ∀ k, k < st.length → st'[k]? = st[k]?

theorem MW_appendAt {l : Nat} {vs : List V} {v : V} {σ : S} {Q : Unit → S → Prop} (h : σ.st[l]? = some (.lst vs)) (hl : l ≠ 0) (hn : vs.length < 1000000) (q : Q () ⟨σ.st.set l (.lst (vs ++ [v])), σ.lo⟩) : MW (appendAt l v) σ Q := by
  unfold appendAt
  rw [MW_bind]
  exact (MW_append h hl hn).mpr (MW_pure.mpr q)

/-- a comprehension whose tests and items leave the store alone -/
theorem MW_compPure {free : List String} {mc : Nat → (S → Nat → Option (Option V)) → M Unit} {t : V → M Unit} {c : M Bool} {e : M V} {n : Nat} {v0 : V} {us : List V} {σ : S} {Q : V → S → Prop} (g : V → Option V)
    (hmc : ∀ l nxt, mc l nxt = loopC n t c (do let v ← e; appendAt l v) nxt)
    (hok : okIter v0 σ = .ok () σ) (h0 : 0 < σ.st.length) (hnx : ∀ σ' i, Agree σ.st σ'.st → nxtOf v0 σ' i = some us[i]?) (hn : us.length < n) (hn2 : us.length < 1000000)
    (h : ∀ v ∈ us, ∀ σ', Agree σ.st σ'.st → (∀ x ∈ free, σ'.lo x = σ.lo x) → MW (t v) σ' (fun _ σ₁ => σ₁.st = σ'.st ∧ (∀ x ∈ free, σ₁.lo x = σ'.lo x) ∧
      MW c σ₁ (fun b σ₂ => σ₂ = σ₁ ∧ (match g v with | none => b = false | some w => b = true ∧ MW e σ₁ (fun u σ₃ => u = w ∧ σ₃ = σ₁)))))
    (q : ∀ k st', Pres [] σ.st st' → σ.st.length ≤ k → st'[k]? = some (.lst (us.filterMap g)) → Q (.obj k) ⟨st', σ.lo⟩) : MW (compTail free mc v0) σ Q := by
  refine MW_compTail hok ?_
  rw [hmc]
  refine MW_loopC us.length (fun i σ' => σ'.st = σ.st ++ [.lst ((us.take i).filterMap g)] ∧ ∀ x ∈ free, σ'.lo x = σ.lo x) ?_ ?_ n _ hn ⟨by simp, fun x hx => by simp only [restr, if_pos hx]⟩
  · rintro σ' ⟨e1, _⟩
    refine ⟨?_, ?_⟩
    · rw [hnx σ' _ (by rw [e1]; intro k hk; exact List.getElem?_append_left hk)]; simp
    · rw [e1, List.take_length]
      exact q _ _ (Pres.app ..) (Nat.le_refl _) List.getElem?_concat_length
  · rintro i σ' hi ⟨e1, e2⟩
    have hag : Agree σ.st σ'.st := by rw [e1]; intro k hk; exact List.getElem?_append_left hk
    refine ⟨us[i], by rw [hnx σ' i hag, List.getElem?_eq_getElem hi], ?_⟩
    refine (h us[i] (List.getElem_mem hi) σ' hag e2).mono fun _ σ₁ h1 => ?_
    obtain ⟨e3, e4, h2⟩ := h1
    refine h2.mono fun b σ₂ h3 => ?_
    obtain ⟨rfl, h3⟩ := h3
    have htake : us.take (i + 1) = us.take i ++ [us[i]] := by rw [List.take_add_one, List.getElem?_eq_getElem hi]; rfl
    cases hg : g us[i] with
    | none =>
      rw [hg] at h3
      simp only at h3
      subst h3
      simp only [Bool.false_eq_true, if_false]
      refine ⟨?_, fun x hx => (e4 x hx).trans (e2 x hx)⟩
      rw [e3, e1, htake, List.filterMap_append]
      simp [hg]
    | some w =>
      rw [hg] at h3
      obtain ⟨rfl, h4⟩ := h3
      simp only [if_true]
      rw [MW_bind]
      refine h4.mono fun u σ₃ h5 => ?_
      obtain ⟨rfl, rfl⟩ := h5
      have hlt : ((us.take i).filterMap g).length < 1000000 := by
        have h6 := List.length_filterMap_le g (us.take i)
        rw [List.length_take] at h6
        (first | lia | omega)
      have hst : σ₃.st = σ.st ++ [.lst ((us.take i).filterMap g)] := e3.trans e1
      refine MW_appendAt (by rw [hst]; exact List.getElem?_concat_length) (by (first | lia | omega)) hlt ⟨?_, fun x hx => (e4 x hx).trans (e2 x hx)⟩
      dsimp only
      rw [hst, htake, List.filterMap_append, List.set_append_right _ _ (Nat.le_refl _)]
      simp [hg]

theorem nxt_obj {l : Nat} {vs : List V} {st : Store} (h : st[l]? = some (.lst vs)) : ∀ (σ' : S) i, Agree st σ'.st → nxtOf (.obj l) σ' i = some vs[i]? := by
  intro σ' i hag
  have : σ'.st[l]? = some (.lst vs) := (hag l (lt_of_get h)).trans h
  show (match σ'.st[l]? with | some (.lst vs) => some vs[i]? | _ => none) = _
  rw [this]
theorem ok_rng {a b c : Int} {σ : S} (h : Builtin.Range.small a b c = true) : okIter (.rng a b c) σ = .ok () σ := by simp only [okIter, h, if_true]
theorem ok_obj {l : Nat} {vs : List V} {σ : S} (h : σ.st[l]? = some (.lst vs)) : okIter (.obj l) σ = .ok () σ := chkL_ok h

end Mine


/-! part H8 -/
set_option autoImplicit false
set_option maxRecDepth 100000
set_option linter.unusedVariables false
set_option linter.unusedSimpArgs false
open PySem PySem.W PyProof.Rows
namespace Mine

section
variable {σ : S}
theorem MW_unpack {n : Nat} {m : List V → M Unit} {vs : List V} {Q : Unit → S → Prop} (h : vs.length = n) : MW (unpackT n m (.tup vs)) σ Q ↔ MW (m vs) σ Q := by
  unfold unpackT; dsimp only; rw [if_pos h]
theorem MW_consT {m : V → M Unit} {ms : List V → M Unit} {v : V} {vs : List V} {Q : Unit → S → Prop} : MW (consT m ms (v :: vs)) σ Q ↔ MW (m v) σ (fun _ σ' => MW (ms vs) σ' Q) := by
  show MW (m v >>= fun _ => ms vs) σ Q ↔ _
  rw [MW_bind]
theorem MW_sum {l : Nat} {ns : List Int} {Q : V → S → Prop} (h : σ.st[l]? = some (.lst (ns.map V.int))) : MW (sumB [.obj l]) σ Q ↔ Q (.int ns.sum) σ := by
  refine MW_fun_ok ?_
  simp only [sumB, h, intsOf_map]
theorem MW_mulL' {l : Nat} {k : Int} {vs : List V} {Q : V → S → Prop} (h : σ.st[l]? = some (.lst vs)) (hk : 0 ≤ k ∧ k < 1000 ∧ vs.length < 1000)
    (q : ∀ j st', Pres [] σ.st st' → σ.st.length ≤ j → st'[j]? = some (.lst (List.replicate k.toNat vs).flatten) → Q (.obj j) ⟨st', σ.lo⟩) : MW (mulLV (.obj l) (.int k)) σ Q := by
  refine (MW_fun_ok (a := .obj σ.st.length) (σ' := { σ with st := σ.st ++ [.lst (List.replicate k.toNat vs).flatten] }) ?_).mpr (q _ _ (Pres.app ..) (Nat.le_refl _) List.getElem?_concat_length)
  simp only [mulLV, h, if_pos hk]
theorem nxt_objI {l : Nat} {vs : List V} (h : σ.st[l]? = some (.lst vs)) (i : Nat) : nxtOf (.obj l) σ i = some vs[i]? := by
  show (match σ.st[l]? with | some (.lst vs) => some vs[i]? | _ => none) = _
  rw [h]
theorem MW_okL {l : Nat} {vs : List V} {Q : Unit → S → Prop} (h : σ.st[l]? = some (.lst vs)) : MW (okIter (.obj l)) σ Q ↔ Q () σ := MW_fun_ok (ok_obj h)
end

/-! ### ranges -/
theorem rngS_pos {a b c : Int} (hc : 0 < c) : Builtin.Range.rangeSize a b c = if a < b then (b - a - 1) / c + 1 else 0 := by
  unfold Builtin.Range.rangeSize; rw [if_pos hc]
theorem rngU_small {a b c : Int} (ha : -100000 ≤ a ∧ a ≤ 100000) (hb : -100000 ≤ b ∧ b ≤ 100000) (hc : 0 < c ∧ c ≤ 100000) : Builtin.Range.small a b c = true := by
  have hz : 0 ≤ Builtin.Range.rangeSize a b c ∧ Builtin.Range.rangeSize a b c ≤ 300000 := by
    refine ⟨rangeSize_nonneg a b c, ?_⟩
    rw [rngS_pos hc.1]
    split
    · have := Int.ediv_le_self (a := b - a - 1) c (by (first | lia | omega))
      (first | lia | omega)
    · (first | lia | omega)
  unfold Builtin.Range.small
  simp only [Bool.and_eq_true]
  refine ⟨⟨⟨⟨fits_of (by (first | lia | omega)), fits_of (by (first | lia | omega))⟩, fits_of (by (first | lia | omega))⟩, fits_of (by (first | lia | omega))⟩, ?_⟩
  simp only [Bool.or_eq_true]
  right
  rw [if_pos (by (first | lia | omega))]
  exact fits_of (by (first | lia | omega))
/-- range(a, b) as a list -/
theorem nxt_rngU {a b : Int} {n : Nat} (σ : S) (i : Nat) (hn : n = (b - a).toNat) : nxtOf (.rng a b 1) σ i = some ((List.range n).map fun (j : Nat) => V.int (a + j))[i]? := by
  rw [nxt_rng]
  have h1 := rngLen_eq a b 1
  rw [rngS_pos (by (first | lia | omega))] at h1
  have : rngLen a b 1 = n := by split at h1 <;> (first | lia | omega)
  rw [this]
  by_cases hi : i < n
  · rw [if_pos hi]; simp [hi]
  · rw [if_neg hi, List.getElem?_eq_none (by simp; (first | lia | omega))]

/-! ### sorted of tuples of ints -/
theorem map_getD {α : Type} (d : α) (xs : List α) : (List.range xs.length).map (fun i => xs.getD i d) = xs := by
  apply List.ext_getElem
  · simp
  · intro i h1 h2
    simp [List.getD_eq_getElem?_getD, List.getElem?_eq_getElem h2]
theorem sortTup_ix (rev : Bool) (ts : List (List Int)) (us : List V) (hl : ts.length = us.length) : ∃ is : List Nat, is.Perm (List.range us.length) ∧ sortTup rev ts us = is.map (fun i => us.getD i .none) ∧
    is.Pairwise (fun i j => if rev = true then lexB (ts.getD i []) (ts.getD j []) = false else lexB (ts.getD j []) (ts.getD i []) = false) := by
  by_cases h2 : us.length < 2
  · refine ⟨List.range us.length, List.Perm.refl _, ?_, ?_⟩
    · unfold sortTup; rw [if_pos h2, map_getD]
    · match hu : us.length, h2 with
      | 0, _ => simp
      | 1, _ => simp [List.range_succ]
  · unfold sortTup
    rw [if_neg h2]
    cases rev with
    | false =>
      have hA := askT_ok ts us.length
      obtain ⟨a1, a2, a3⟩ := sort_ok hA (by (first | lia | omega))
      refine ⟨(krun (askT ts) (kas_sort us.length)).toList, a2, by simp [sortV], ?_⟩
      have hlt := sort_lt hA (by (first | lia | omega))
      refine (List.Pairwise.and_mem.mp a3).imp ?_
      rintro i j ⟨hi, hj, h⟩
      simp only [Bool.false_eq_true, if_false]
      exact bf.not hA (hlt i hi) (hlt j hj) h
    | true =>
      have hA := askT_ok ts.reverse us.length
      obtain ⟨a1, a2, a3⟩ := sort_ok hA (by (first | lia | omega))
      have hlt := sort_lt hA (by (first | lia | omega))
      rw [if_pos rfl]
      refine ⟨((krun (askT ts.reverse) (kas_sort us.length)).toList.map (fun i => us.length - 1 - i)).reverse, ?_, ?_, ?_⟩
      · refine (List.reverse_perm _).trans ((a2.map _).trans ?_)
        have : (List.range us.length).map (fun i => us.length - 1 - i) = (List.range us.length).reverse := by
          apply List.ext_getElem
          · simp
          · intro i h1 h2; simp
        rw [this]; exact List.reverse_perm _
      · unfold sortV
        rw [List.length_reverse, List.map_reverse, List.map_map]
        congr 1
        refine List.map_congr_left fun i hi => ?_
        exact getD_rev (hlt i hi)
      · rw [List.pairwise_reverse, List.pairwise_map]
        refine (List.Pairwise.and_mem.mp a3).imp ?_
        rintro i j ⟨hi, hj, h⟩
        simp only [if_true]
        have := bf.not hA (hlt i hi) (hlt j hj) h
        unfold askT at this
        rw [getD_rev (by rw [hl]; exact hlt j hj), getD_rev (by rw [hl]; exact hlt i hi), hl] at this
        exact this
theorem sortTup_map {α : Type} (d : α) (rev : Bool) (f : α → V) (g : α → List Int) (ws : List α) : ∃ ws' : List α, sortTup rev (ws.map g) (ws.map f) = ws'.map f ∧ ws'.Perm ws ∧
    ws'.Pairwise (fun a b => if rev = true then lexB (g a) (g b) = false else lexB (g b) (g a) = false) := by
  obtain ⟨is, p, e, s⟩ := sortTup_ix rev (ws.map g) (ws.map f) (by simp)
  have hlt : ∀ i ∈ is, i < ws.length := by
    intro i hi
    have := p.mem_iff.mp hi
    simpa using this
  have hg : ∀ {β : Type} (h : α → β) (d' : β) i, i < ws.length → (ws.map h).getD i d' = h (ws.getD i d) := by
    intro β h d' i hi
    simp [List.getD_eq_getElem?_getD, List.getElem?_eq_getElem hi]
  refine ⟨is.map fun i => ws.getD i d, ?_, ?_, ?_⟩
  · rw [e, List.map_map]
    exact List.map_congr_left fun i hi => hg f _ i (hlt i hi)
  · have := p.map (fun i => ws.getD i d)
    rw [List.length_map, map_getD] at this
    exact this
  · rw [List.pairwise_map]
    refine (List.Pairwise.and_mem.mp s).imp ?_
    rintro i j ⟨hi, hj, h⟩
    rw [hg g _ i (hlt i hi), hg g _ j (hlt j hj)] at h
    exact h
section
variable {σ : S}
theorem MW_sorted2T {l : Nat} {vs : List V} {ts : List (List Int)} {Q : V → S → Prop} (h : σ.st[l]? = some (.lst vs)) (ht : tupsOf vs = some ts) (hn : vs.length < 64)
    (q : ∀ j st', Pres [] σ.st st' → σ.st.length ≤ j → st'[j]? = some (.lst (sortTup false ts vs)) → Q (.obj j) ⟨st', σ.lo⟩) : MW (sortedB2 [.obj l]) σ Q := by
  cases vs with
  | nil =>
    refine (MW_fun_ok (a := .obj σ.st.length) (σ' := { σ with st := σ.st ++ [.lst []] }) ?_).mpr ?_
    · have hnil : sortI [] = [] := List.eq_nil_of_length_eq_zero ((sortI_perm []).length_eq)
      simp [sortedB2, orB, sortedB, h, intsOf, hnil]
    · have : sortTup false ts [] = [] := by unfold sortTup; rfl
      rw [this] at q
      exact q _ _ (Pres.app ..) (Nat.le_refl _) List.getElem?_concat_length
  | cons v vs =>
    refine (MW_fun_ok (a := .obj σ.st.length) (σ' := { σ with st := σ.st ++ [.lst (sortTup false ts (v :: vs))] }) ?_).mpr (q _ _ (Pres.app ..) (Nat.le_refl _) List.getElem?_concat_length)
    have : intsOf (v :: vs) = none := by
      cases v with
      | int i => simp [tupsOf, mapO, tupInts] at ht
      | _ => rfl
    simp only [sortedB2, orB, sortedB, h, this, sortedX, ht, if_pos hn]
end
theorem tupsOf_map {α : Type} (f : α → V) (g : α → List Int) (h : ∀ a, tupInts (f a) = some (g a)) : ∀ ws : List α, tupsOf (ws.map f) = some (ws.map g)
  | [] => rfl
  | a :: ws => by
    show mapO tupInts (f a :: ws.map f) = _
    unfold mapO
    have ih := tupsOf_map f g h ws
    unfold tupsOf at ih
    rw [h, ih]; rfl

end Mine


/-! part H9 -/
set_option autoImplicit false
set_option maxRecDepth 100000
set_option linter.unusedVariables false
set_option linter.unusedSimpArgs false
open PySem PySem.W PyProof.Rows
namespace Mine

/-! ### tuples of ints -/
noncomputable def tI (ns : List Int) : V := .tup (ns.map V.int)
theorem toD_tI {st : Store} {n : Nat} (ns : List Int) : toD st (n + 2) (tI ns) = some (.tuple (ns.map PyData.int)) := by
  unfold tI
  rw [toD]
  rw [mapO_ints]; rfl
theorem mapO_tI {st : Store} {n : Nat} : ∀ ts : List (List Int), mapO (toD st (n + 2)) (ts.map tI) = some (ts.map fun t => PyData.tuple (t.map PyData.int))
  | [] => rfl
  | t :: ts => by
    show mapO (toD st (n + 2)) (tI t :: ts.map tI) = _
    unfold mapO
    rw [toD_tI, mapO_tI ts]; rfl
theorem eqv_int (a b : Int) : PyData.eqv (.int a) (.int b) = decide (a = b) := by
  simp only [PyData.eqv]; rfl
theorem eqv_tI (as bs : List Int) : PyData.eqv (.tuple (as.map .int)) (.tuple (bs.map .int)) = decide (as = bs) := by
  simp only [PyData.eqv, eqvAll_ints]
theorem ltAll_ints : ∀ as bs : List Int, ltAll (as.map .int) (bs.map .int) = some (lexB as bs)
  | [], [] => by simp [ltAll, lexB]
  | [], _ :: _ => by simp [ltAll, lexB]
  | _ :: _, [] => by simp [ltAll, lexB]
  | a :: as, b :: bs => by
    simp only [List.map_cons, ltAll, eqv_int, lexB, ltAll_ints as bs]
    by_cases h : a = b
    · subst h; simp
    · simp [h, ltD]
theorem ltD_tI (as bs : List Int) : ltD (.tuple (as.map .int)) (.tuple (bs.map .int)) = some (lexB as bs) := by simp only [ltD, ltAll_ints]
section
variable {σ : S}
theorem MW_ltT {as bs : List Int} {Q : V → S → Prop} : MW (ltV (tI as) (tI bs)) σ Q ↔ Q (.bool (lexB as bs)) σ := by
  refine MW_fun_ok ?_
  unfold ltV
  rw [toD_tI, toD_tI]
  simp only [ltD_tI]
theorem MW_neT {as bs : List Int} {Q : V → S → Prop} : MW (neV (tI as) (tI bs)) σ Q ↔ Q (.bool (!decide (as = bs))) σ := by
  refine MW_fun_ok ?_
  unfold neV
  rw [toD_tI, toD_tI]
  simp only [eqv_tI]
theorem MW_eqTL {l k : Nat} {as bs : List (List Int)} {Q : V → S → Prop} (h1 : σ.st[l]? = some (.lst (as.map tI))) (h2 : σ.st[k]? = some (.lst (bs.map tI))) : MW (eqV (.obj l) (.obj k)) σ Q ↔ Q (.bool (decide (as = bs))) σ := by
  refine MW_fun_ok ?_
  have e : ∀ {l : Nat} {ts : List (List Int)}, σ.st[l]? = some (.lst (ts.map tI)) → toD σ.st 6 (.obj l) = some (.list (ts.map fun t => PyData.tuple (t.map PyData.int))) := by
    intro l ts h
    rw [toD]
    simp only [h]
    rw [mapO_tI]; rfl
  unfold eqV
  rw [e h1, e h2]
  have : ∀ as bs : List (List Int), PyData.eqvAll (as.map fun t => PyData.tuple (t.map PyData.int)) (bs.map fun t => PyData.tuple (t.map PyData.int)) = decide (as = bs) := by
    intro as
    induction as with
    | nil => intro bs; cases bs <;> simp [PyData.eqvAll]
    | cons a as ih =>
      intro bs
      cases bs with
      | nil => simp [PyData.eqvAll]
      | cons b bs =>
        simp only [List.map_cons, PyData.eqvAll, eqv_tI, ih]
        by_cases h : a = b
        · subst h; simp
        · simp [h]
  simp only [PyData.eqv, this]
theorem MW_min2I {a b : Int} {Q : V → S → Prop} : MW (minD [.int a, .int b]) σ Q ↔ Q (.int (if b < a then b else a)) σ := by
  refine MW_fun_ok ?_
  have e : minD [.int a, .int b] σ = minL [.int a, .int b] σ := rfl
  rw [e]
  unfold minL
  have hm := mapO_ints (st := σ.st) (n := 5) [a, b]
  simp only [List.map_cons, List.map_nil] at hm
  rw [hm]
  dsimp only
  rw [if_pos]
  · congr 1
    simp only [List.length_cons, List.length_nil, Nat.add_one_sub_one, argBest, btOf, List.getElem?_cons_zero, List.getElem?_cons_succ, ltD, Option.getD_some, decide_eq_true_eq]
    split <;> rfl
  · simp [allCmp, ltD]
end
/-- the best of a row -/
theorem argBest_best (bt : Nat → Nat → Bool) (n : Nat) (tr : ∀ i j k, i ≤ n → j ≤ n → k ≤ n → bt i j = false → bt j k = false → bt i k = false) (as : ∀ i j, i ≤ n → j ≤ n → bt i j = true → bt j i = false) :
    ∀ k, k ≤ n → argBest bt k ≤ k ∧ ∀ i, i ≤ k → bt i (argBest bt k) = false := by
  intro k
  induction k with
  | zero =>
    intro _
    refine ⟨Nat.le_refl _, fun i hi => ?_⟩
    have : i = 0 := by (first | lia | omega)
    subst this
    show bt 0 0 = false
    cases h : bt 0 0 with
    | false => rfl
    | true => have := as 0 0 (by (first | lia | omega)) (by (first | lia | omega)) h; rw [h] at this; cases this
  | succ k ih =>
    intro hk
    obtain ⟨h1, h2⟩ := ih (by (first | lia | omega))
    have irr : ∀ i, i ≤ n → bt i i = false := by
      intro i hi
      cases h : bt i i with
      | false => rfl
      | true => have := as i i hi hi h; rw [h] at this; cases this
    unfold argBest
    split
    · rename_i hb
      refine ⟨Nat.le_refl _, fun i hi => ?_⟩
      rcases Nat.lt_or_ge i (k + 1) with h3 | h3
      · exact tr i (argBest bt k) (k + 1) (by (first | lia | omega)) (by (first | lia | omega)) (by (first | lia | omega)) (h2 i (by (first | lia | omega))) (as _ _ (by (first | lia | omega)) (by (first | lia | omega)) hb)
      · have : i = k + 1 := by (first | lia | omega)
        subst this; exact irr _ (by (first | lia | omega))
    · rename_i hb
      refine ⟨by (first | lia | omega), fun i hi => ?_⟩
      rcases Nat.lt_or_ge i (k + 1) with h3 | h3
      · exact h2 i (by (first | lia | omega))
      · have : i = k + 1 := by (first | lia | omega)
        subst this; simpa using hb
section
variable {σ : S}
theorem MW_minLI {l : Nat} {ns : List Int} {Q : V → S → Prop} (h : σ.st[l]? = some (.lst (ns.map V.int))) (h0 : 0 < ns.length) (q : ∀ t ∈ ns, (∀ u ∈ ns, t ≤ u) → Q (.int t) σ) : MW (minD [.obj l]) σ Q := by
  have e : minD [.obj l] σ = minL (ns.map V.int) σ := by
    show (match σ.st[l]? with | some (.lst vs) => minL vs σ | _ => .stuck) = _
    rw [h]
  generalize hds : ns.map PyData.int = ds
  have hget : ∀ i (hi : i < ns.length), ds[i]? = some (PyData.int ns[i]) := by
    intro i hi; rw [← hds, List.getElem?_map, List.getElem?_eq_getElem hi]; rfl
  have hbt : ∀ i j (hi : i < ns.length) (hj : j < ns.length), btOf ltD ds i j = decide (ns[i] < ns[j]) := by
    intro i j hi hj
    unfold btOf
    rw [hget i hi, hget j hj]
    simp [ltD]
  have hb := argBest_best (btOf ltD ds) (ns.length - 1)
    (fun i j k hi hj hk h1 h2 => by
      rw [hbt i j (by (first | lia | omega)) (by (first | lia | omega))] at h1
      rw [hbt j k (by (first | lia | omega)) (by (first | lia | omega))] at h2
      rw [hbt i k (by (first | lia | omega)) (by (first | lia | omega))]
      simp only [decide_eq_false_iff_not] at h1 h2 ⊢; (first | lia | omega))
    (fun i j hi hj h1 => by
      rw [hbt i j (by (first | lia | omega)) (by (first | lia | omega))] at h1
      rw [hbt j i (by (first | lia | omega)) (by (first | lia | omega))]
      simp only [decide_eq_false_iff_not, decide_eq_true_eq] at h1 ⊢; (first | lia | omega)) (ns.length - 1) (Nat.le_refl _)
  have hlt : argBest (btOf ltD ds) (ns.length - 1) < ns.length := by (first | lia | omega)
  refine (MW_fun_ok (a := .int ns[argBest (btOf ltD ds) (ns.length - 1)]) (σ' := σ) ?_).mpr (q _ (List.getElem_mem hlt) ?_)
  · rw [e]
    unfold minL
    rw [mapO_ints, hds]
    dsimp only
    rw [List.length_map, if_pos]
    · congr 1
      rw [List.getD_eq_getElem?_getD, List.getElem?_map, List.getElem?_eq_getElem hlt]; rfl
    · refine ⟨h0, ?_⟩
      unfold allCmp
      rw [← hds]
      simp [List.all_map, ltD]
  · intro u hu
    obtain ⟨i, hi, rfl⟩ := List.mem_iff_getElem.mp hu
    have := hb.2 i (by (first | lia | omega))
    rw [hbt i _ hi hlt] at this
    simp only [decide_eq_false_iff_not] at this; (first | lia | omega)
theorem MW_getTI {ns : List Int} {j : Nat} {k : Int} {Q : V → S → Prop} (hk : k = j) (hj : j < ns.length) : MW (getI (tI ns) (.int k)) σ Q ↔ Q (.int (nth ns j)) σ := by
  subst hk
  unfold tI
  refine MW_getT (j := j) (by rw [ix_nat, if_pos (by simpa using hj)]) ?_
  rw [nth_eq (by simpa using hj), nthV hj]
end
noncomputable def ltT (a b : V) : Bool := match tupInts a, tupInts b with
  | some x, some y => lexB x y
  | _, _ => false
noncomputable def IsT1 (v : V) : Prop := ∃ ns, ns ≠ [] ∧ v = tI ns
theorem tupInts_tI {ns : List Int} (h : ns ≠ []) : tupInts (tI ns) = some ns := by
  unfold tI
  cases ns with
  | nil => exact absurd rfl h
  | cons a r => simp [tupInts, intsOf, intsOf_map]
theorem ltT_tI {as bs : List Int} (ha : as ≠ []) (hb : bs ≠ []) : ltT (tI as) (tI bs) = lexB as bs := by
  unfold ltT
  rw [tupInts_tI ha, tupInts_tI hb]
theorem ltAt_tup (st : Store) (l : Nat) : LtAtL st l IsT1 ltT := by
  rintro ws _ _ ⟨a, ha, rfl⟩ ⟨b, hb, rfl⟩ lo
  unfold ltV
  rw [toD_tI, toD_tI]
  simp only [ltD_tI, ltT_tI ha hb]
theorem swo_tup : SWO IsT1 ltT where
  asymm := by
    rintro _ _ ⟨a, ha, rfl⟩ ⟨b, hb, rfl⟩ h
    rw [ltT_tI ha hb] at h
    rw [ltT_tI hb ha]
    exact lexB_asymm _ _ h
  trans := by
    rintro _ _ _ ⟨a, ha, rfl⟩ ⟨b, hb, rfl⟩ ⟨c, hc, rfl⟩ h1 h2
    first
    | (rw [ltT_tI ha hb] at h1; rw [ltT_tI hb hc] at h2; rw [ltT_tI ha hc]; exact lexB_trans _ _ _ h2 h1)
    | (rw [ltT_tI hb ha] at h1; rw [ltT_tI hc hb] at h2; rw [ltT_tI hc ha]; exact lexB_trans _ _ _ h1 h2)
end Mine


/-! part H10 -/
set_option autoImplicit false
set_option maxRecDepth 100000
set_option linter.unusedVariables false
set_option linter.unusedSimpArgs false
open PySem PySem.W PyProof.Rows
namespace Mine
/-- a comprehension whose items may make new lists -/
theorem MW_compGrow {free : List String} {mc : Nat → (S → Nat → Option (Option V)) → M Unit} {t : V → M Unit} {c : M Bool} {e : M V} {n : Nat} {v0 : V} {us : List V} {σ : S} {Q : V → S → Prop} (g : V → Option V)
    (hmc : ∀ l nxt, mc l nxt = loopC n t c (do let v ← e; appendAt l v) nxt)
    (hok : okIter v0 σ = .ok () σ) (h0 : 0 < σ.st.length) (hnx : ∀ σ' i, Agree σ.st σ'.st → nxtOf v0 σ' i = some us[i]?) (hn : us.length < n) (hn2 : us.length < 1000000)
    (h : ∀ v ∈ us, ∀ σ', Agree σ.st σ'.st → (∀ x ∈ free, σ'.lo x = σ.lo x) → MW (t v) σ' (fun _ σ₁ => σ₁.st = σ'.st ∧ (∀ x ∈ free, σ₁.lo x = σ'.lo x) ∧
      MW c σ₁ (fun b σ₂ => σ₂ = σ₁ ∧ (match g v with | none => b = false | some w => b = true ∧ MW e σ₁ (fun u σ₃ => u = w ∧ Pres [] σ₁.st σ₃.st ∧ ∀ x ∈ free, σ₃.lo x = σ₁.lo x)))))
    (q : ∀ k st', Pres [] σ.st st' → σ.st.length ≤ k → st'[k]? = some (.lst (us.filterMap g)) → Q (.obj k) ⟨st', σ.lo⟩) : MW (compTail free mc v0) σ Q := by
  refine MW_compTail hok ?_
  rw [hmc]
  refine MW_loopC us.length (fun i σ' => Pres [] σ.st σ'.st ∧ σ'.st[σ.st.length]? = some (.lst ((us.take i).filterMap g)) ∧ ∀ x ∈ free, σ'.lo x = σ.lo x) ?_ ?_ n _ hn ⟨Pres.app .., by simp, fun x hx => by simp only [restr, if_pos hx]⟩
  · rintro σ' ⟨e1, e2, _⟩
    have hag : Agree σ.st σ'.st := fun k hk => e1.2 k hk (by simp)
    refine ⟨?_, ?_⟩
    · rw [hnx σ' _ hag]; simp
    · rw [List.take_length] at e2
      exact q _ _ e1 (Nat.le_refl _) e2
  · rintro i σ' hi ⟨e0, e1, e2⟩
    have hag : Agree σ.st σ'.st := fun k hk => e0.2 k hk (by simp)
    refine ⟨us[i], by rw [hnx σ' i hag, List.getElem?_eq_getElem hi], ?_⟩
    refine (h us[i] (List.getElem_mem hi) σ' hag e2).mono fun _ σ₁ h1 => ?_
    obtain ⟨e3, e4, h2⟩ := h1
    refine h2.mono fun b σ₂ h3 => ?_
    obtain ⟨rfl, h3⟩ := h3
    have htake : us.take (i + 1) = us.take i ++ [us[i]] := by rw [List.take_add_one, List.getElem?_eq_getElem hi]; rfl
    cases hg : g us[i] with
    | none =>
      rw [hg] at h3
      simp only at h3
      subst h3
      simp only [Bool.false_eq_true, if_false]
      refine ⟨by rw [e3]; exact e0, ?_, fun x hx => (e4 x hx).trans (e2 x hx)⟩
      rw [e3, e1, htake, List.filterMap_append]
      simp [hg]
    | some w =>
      rw [hg] at h3
      obtain ⟨rfl, h4⟩ := h3
      simp only [if_true]
      rw [MW_bind]
      refine h4.mono fun u σ₃ h5 => ?_
      obtain ⟨rfl, h6, h7⟩ := h5
      have hlt : ((us.take i).filterMap g).length < 1000000 := by
        have h6 := List.length_filterMap_le g (us.take i)
        rw [List.length_take] at h6
        (first | lia | omega)
      have hst : σ₃.st[σ.st.length]? = some (.lst ((us.take i).filterMap g)) := h6.get0 (by rw [e3]; exact e1)
      refine MW_appendAt hst (by (first | lia | omega)) hlt ⟨?_, ?_, fun x hx => (h7 x hx).trans ((e4 x hx).trans (e2 x hx))⟩
      · have p3 : Pres [] σ.st σ₃.st := e0.trans (by rw [e3] at h6; exact h6)
        exact ⟨by rw [List.length_set]; exact p3.1, fun k hk _ => by rw [List.getElem?_set_ne (by (first | lia | omega))]; exact p3.2 k hk (by simp)⟩
      · dsimp only
        rw [set_self (lt_of_get hst), htake, List.filterMap_append]
        simp [hg]

theorem pickV_map {α β : Type} (f : α → β) (vs : List α) (lo hi st : Option Int) : pickV (vs.map f) lo hi st = (pickV vs lo hi st).map f := by
  unfold pickV
  rw [List.length_map, List.map_filterMap]
  congr 1
  funext i
  simp
theorem MW_sliceS {l : Nat} {vs : List V} {a b c : V} {lo hi st : Option Int} {σ : S} {Q : V → S → Prop} (hl : σ.st[l]? = some (.lst vs)) (ha : partO a = some lo) (hb : partO b = some hi) (hc : partO c = some st) (h0 : st ≠ some 0)
    (h : ∀ k st', Pres [] σ.st st' → σ.st.length ≤ k → st'[k]? = some (.lst (pickV vs lo hi st)) → Q (.obj k) ⟨st', σ.lo⟩) : MW (sliceV (.obj l) (a, b, c)) σ Q := by
  refine (MW_fun_ok (a := .obj σ.st.length) (σ' := { σ with st := σ.st ++ [.lst (pickV vs lo hi st)] }) ?_).mpr (h _ _ (Pres.app ..) (Nat.le_refl _) List.getElem?_concat_length)
  simp only [sliceV, hl, ha, hb, hc, if_neg h0]
end Mine


/-! part G01 -/
set_option autoImplicit false
set_option maxRecDepth 100000
set_option linter.unusedVariables false
set_option Elab.async false
set_option maxHeartbeats 2000000
open PySem PySem.W PyProof.Rows
namespace Mine

noncomputable abbrev prg : Program := PySem.Challenge.pw_dm0136_01
noncomputable def bltNames : List String := ["TypeError", "abs", "len", "list", "min", "range", "sorted", "str", "sum"]
noncomputable def siftdown_r : DefRec := recAt prg 1
theorem has_f_siftdown {K : Glo} (hp : ∀ d ∈ recsOf prg, d ∈ recsOf K.p) (hfree : ∀ x ∈ bltNames, K.mg (Str.ofString x) = none) : HasF K "_siftdown" 1 f_siftdown := by
  refine hasF_of (d := siftdown_r) (lvl := 0) (hp _ (List.mem_iff_getElem?.mpr ⟨0, by kernel_rfl⟩)) (by kernel_rfl) (by kernel_rfl) (by kernel_rfl) (by kernel_rfl) (by decide) ?_ ?_ ?_
  · intro pm code doc ws h
    match ws, h with
    | [a0, a1, a2], _ => rfl
  · intro n y hy
    simp only [List.mem_cons, List.not_mem_nil, or_false] at hy
    rcases hy with rfl | rfl | rfl
    · exact .inl (by kernel_rfl)
    · exact .inl (by kernel_rfl)
    · exact .inl (by kernel_rfl)
  · intro pm code doc L fa A hr fk
    show SimSs K _ _ siftdown_m
    exact (simSs_cons (simS_assign _ (simT_local "newitem" _ fk (by kernel_rfl)) (simE_sub fk _ (simE_name fk "heap" _) (simE_name fk "pos" _))) (simSs_cons (simS_while _ 4096 (simB_cmp fk cmp_gt tru_ok _ (simE_name fk "pos" _) (simE_name fk "startpos" _)) (simSs_cons (simS_assign _ (simT_local "parentpos" _ fk (by kernel_rfl)) (simE_bin fk bin_shr _ (simE_bin fk bin_sub _ (simE_name fk "pos" _) (simE_int 1 _ _)) (simE_int 1 _ _))) (simSs_cons (simS_assign _ (simT_local "parent" _ fk (by kernel_rfl)) (simE_sub fk _ (simE_name fk "heap" _) (simE_name fk "parentpos" _))) (simSs_cons (simS_if _ (simB_cmpX fk cmp_ltX tru_ok _ (simE_name fk "newitem" _) (simE_name fk "parent" _)) (simSs_cons (simS_assign _ (simT_sub fk _ (simE_name fk "heap" _) (simE_name fk "pos" _)) (simE_name fk "parent" _)) (simSs_cons (simS_assign _ (simT_local "pos" _ fk (by kernel_rfl)) (simE_name fk "parentpos" _)) (simSs_one (simS_continue _)))) simSs_nil) (simSs_one (simS_break _)))))) (simSs_one (simS_assign _ (simT_sub fk _ (simE_name fk "heap" _) (simE_name fk "pos" _)) (simE_name fk "newitem" _)))))
noncomputable def siftup_r : DefRec := recAt prg 2
theorem has_f_siftup {K : Glo} (hp : ∀ d ∈ recsOf prg, d ∈ recsOf K.p) (hfree : ∀ x ∈ bltNames, K.mg (Str.ofString x) = none) (h_siftdown : HasF K "_siftdown" 1 f_siftdown) : HasF K "_siftup" 2 f_siftup := by
  refine hasF_of (d := siftup_r) (lvl := 1) (hp _ (List.mem_iff_getElem?.mpr ⟨1, by kernel_rfl⟩)) (by kernel_rfl) (by kernel_rfl) (by kernel_rfl) (by kernel_rfl) (by decide) ?_ ?_ ?_
  · intro pm code doc ws h
    match ws, h with
    | [a0, a1], _ => rfl
  · intro n y hy
    simp only [List.mem_cons, List.not_mem_nil, or_false] at hy
    rcases hy with rfl | rfl
    · exact .inl (by kernel_rfl)
    · exact .inl (by kernel_rfl)
  · intro pm code doc L fa A hr fk
    show SimSs K _ _ siftup_m
    exact (simSs_cons (simS_assign _ (simT_local "endpos" _ fk (by kernel_rfl)) (simE_callB fk rfl (by kernel_rfl) (hfree "len" (by decide)) (by kernel_rfl) built_len (simEs_cons (simE_name fk "heap" _) simEs_nil))) (simSs_cons (simS_assign _ (simT_local "startpos" _ fk (by kernel_rfl)) (simE_name fk "pos" _)) (simSs_cons (simS_assign _ (simT_local "newitem" _ fk (by kernel_rfl)) (simE_sub fk _ (simE_name fk "heap" _) (simE_name fk "pos" _))) (simSs_cons (simS_assign _ (simT_local "childpos" _ fk (by kernel_rfl)) (simE_bin fk bin_add _ (simE_bin fk bin_mul _ (simE_int 2 _ _) (simE_name fk "pos" _)) (simE_int 1 _ _))) (simSs_cons (simS_while _ 4096 (simB_cmp fk cmp_lt tru_ok _ (simE_name fk "childpos" _) (simE_name fk "endpos" _)) (simSs_cons (simS_assign _ (simT_local "rightpos" _ fk (by kernel_rfl)) (simE_bin fk bin_add _ (simE_name fk "childpos" _) (simE_int 1 _ _))) (simSs_cons (simS_if _ (simB_boolop _ (simAll_and (simB_cmp fk cmp_lt tru_ok _ (simE_name fk "rightpos" _) (simE_name fk "endpos" _)) (simAll_and (simB_not _ (simB_cmpX fk cmp_ltX tru_ok _ (simE_sub fk _ (simE_name fk "heap" _) (simE_name fk "childpos" _)) (simE_sub fk _ (simE_name fk "heap" _) (simE_name fk "rightpos" _)))) simAll_and_nil))) (simSs_one (simS_assign _ (simT_local "childpos" _ fk (by kernel_rfl)) (simE_name fk "rightpos" _))) simSs_nil) (simSs_cons (simS_assign _ (simT_sub fk _ (simE_name fk "heap" _) (simE_name fk "pos" _)) (simE_sub fk _ (simE_name fk "heap" _) (simE_name fk "childpos" _))) (simSs_cons (simS_assign _ (simT_local "pos" _ fk (by kernel_rfl)) (simE_name fk "childpos" _)) (simSs_one (simS_assign _ (simT_local "childpos" _ fk (by kernel_rfl)) (simE_bin fk bin_add _ (simE_bin fk bin_mul _ (simE_int 2 _ _) (simE_name fk "pos" _)) (simE_int 1 _ _))))))))) (simSs_cons (simS_assign _ (simT_sub fk _ (simE_name fk "heap" _) (simE_name fk "pos" _)) (simE_name fk "newitem" _)) (simSs_one (simS_expr fk _ (simE_callF fk h_siftdown (hr.le (by decide)) (simEs_cons (simE_name fk "heap" _) (simEs_cons (simE_name fk "startpos" _) (simEs_cons (simE_name fk "pos" _) simEs_nil))))))))))))

/-! _law_holds -/
noncomputable def law_holds_c1_t : V → M Unit := (fun v => setv "k" v)
noncomputable def law_holds_c1_i : M Bool := (do let a ← (do let o ← (getv "held"); let i ← (getv "k"); getI o i); let b ← (do let o ← (getv "held"); let i ← (do let a ← (do let a ← (getv "k"); let b ← (pure (V.int 1) : M V); subV a b); let b ← (pure (V.int 2) : M V); fdivV a b); getI o i); let c ← ltV a b; truV c)
noncomputable def law_holds_c1_e (l : Nat) : M Unit := (do let v ← (getv "k"); appendAt l v)
noncomputable def law_holds_c1 (l : Nat) (nxt : S → Nat → Option (Option V)) : M Unit := loopC 4096 law_holds_c1_t law_holds_c1_i (law_holds_c1_e l) nxt
noncomputable def law_holds_c2_t : V → M Unit := (fun v => setv "number" v)
noncomputable def law_holds_c2_i : M Bool := (pure true : M Bool)
noncomputable def law_holds_c2_e (l : Nat) : M Unit := (do let v ← (do let vs ← (do let v ← (pure (V.int 0) : M V); let vs ← (do let v ← (getv "number"); let vs ← (pure [] : M (List V)); pure (v :: vs)); pure (v :: vs)); mkT vs); appendAt l v)
noncomputable def law_holds_c2 (l : Nat) (nxt : S → Nat → Option (Option V)) : M Unit := loopC 4096 law_holds_c2_t law_holds_c2_i (law_holds_c2_e l) nxt
noncomputable def law_holds_s3 : M Fl := (do let v ← (do let a ← ((do let vs ← (do let v ← (pure (V.int 1) : M V); let vs ← (do let v ← (do let vs ← (do let v ← (getv "mine"); let vs ← (pure [] : M (List V)); pure (v :: vs)); lenB vs); let vs ← (pure [] : M (List V)); pure (v :: vs)); pure (v :: vs)); rangeB vs) >>= compTail ["held"] law_holds_c1); let b ← (do let vs ← (pure [] : M (List V)); newL vs); eqV a b); pure (.ret v) : M Fl)
noncomputable def law_holds_s4 : M Fl := (seqM (do if (← (do let a ← (do let vs ← (do let v ← (do let o ← (getv "held"); let i ← (do let a ← (pure V.none : M V); let b ← (do let vs ← (do let v ← (getv "mine"); let vs ← (pure [] : M (List V)); pure (v :: vs)); lenB vs); let c ← (pure V.none : M V); pure (a, b, c)); sliceV o i); let vs ← (pure [] : M (List V)); pure (v :: vs)); sortedB2 vs); let b ← (do let vs ← (do let v ← ((getv "mine") >>= compTail [] law_holds_c2); let vs ← (pure [] : M (List V)); pure (v :: vs)); sortedB2 vs); let c ← neV a b; truV c)) = true then (do let v ← (pure (V.bool false) : M V); pure (.ret v) : M Fl) else (pure .next : M Fl) : M Fl) law_holds_s3)
noncomputable def law_holds_c5_t : V → M Unit := (fun v => setv "at" v)
noncomputable def law_holds_c5_i : M Bool := (pure true : M Bool)
noncomputable def law_holds_c5_e (l : Nat) : M Unit := (do let v ← (do let o ← (getv "row"); let i ← (getv "at"); getI o i); appendAt l v)
noncomputable def law_holds_c5 (l : Nat) (nxt : S → Nat → Option (Option V)) : M Unit := loopC 4096 law_holds_c5_t law_holds_c5_i (law_holds_c5_e l) nxt
noncomputable def law_holds_s6 : M Fl := (seqM (do if (← (do let a ← (do let o ← (getv "held"); let i ← (do let a ← (do let vs ← (do let v ← (getv "mine"); let vs ← (pure [] : M (List V)); pure (v :: vs)); lenB vs); let b ← (pure V.none : M V); let c ← (pure V.none : M V); pure (a, b, c)); sliceV o i); let b ← (do let a ← (do let vs ← (do let v ← (do let vs ← (do let v ← (pure (V.int 1) : M V); let vs ← (pure [] : M (List V)); pure (v :: vs)); mkT vs); let vs ← (pure [] : M (List V)); pure (v :: vs)); newL vs); let b ← (do let a ← (pure (V.int 15) : M V); let b ← (do let vs ← (do let v ← (getv "mine"); let vs ← (pure [] : M (List V)); pure (v :: vs)); lenB vs); subV a b); mulLV a b); let c ← neV a b; truV c)) = true then (do let v ← (pure (V.bool false) : M V); pure (.ret v) : M Fl) else (pure .next : M Fl) : M Fl) law_holds_s4)
noncomputable def law_holds_m : M Fl := (seqM (do let v ← ((getv "own") >>= compTail ["row"] law_holds_c5); (fun v => setv "held" v) v; pure .next : M Fl) law_holds_s6)
noncomputable def f_law_holds : Fun := funM ["row", "own", "mine"] law_holds_m
noncomputable def law_holds_r : DefRec := recAt prg 4
theorem has_f_law_holds {K : Glo} (hp : ∀ d ∈ recsOf prg, d ∈ recsOf K.p) (hfree : ∀ x ∈ bltNames, K.mg (Str.ofString x) = none) : HasF K "_law_holds" 1 f_law_holds := by
  refine hasF_of (d := law_holds_r) (lvl := 0) (hp _ (List.mem_iff_getElem?.mpr ⟨2, by kernel_rfl⟩)) (by kernel_rfl) (by kernel_rfl) (by kernel_rfl) (by kernel_rfl) (by decide) ?_ ?_ ?_
  · intro pm code doc ws h
    match ws, h with
    | [a0, a1, a2], _ => rfl
  · intro n y hy
    simp only [List.mem_cons, List.not_mem_nil, or_false] at hy
    rcases hy with rfl | rfl | rfl
    · exact .inr ⟨by kernel_rfl, rfl⟩
    · exact .inl (by kernel_rfl)
    · exact .inl (by kernel_rfl)
  · intro pm code doc L fa A hr fk
    show SimSs K _ _ law_holds_m
    exact (simSs_cons (simS_assign _ (simT_cellD "held" _ fk (by kernel_rfl) rfl) (simE_listcomp fk ⟨rfl, rfl, by decide +kernel, by decide +kernel, (by intro x hx; simp only [List.mem_cons, List.not_mem_nil, or_false] at hx; rcases hx with rfl <;> exact ⟨by first | exact .inl (by rfl) | exact .inr (by rfl), kne_cell (by kernel_rfl), fun c h => h⟩), (ck_cells (ck_cons rfl ck_nil))⟩ (simE_name fk "own" _) (fun C => clauses_of 4096 rfl (fun acc => turn_end rfl rfl (test := none) rfl) (simT_local "at" _ (FOk.comp fk rfl) (by kernel_rfl)) simTest_none (fun l a => simA_emit (FOk.comp fk rfl) (simE_sub (FOk.comp fk rfl) _ (simE_name (FOk.comp fk rfl) "row" _) (simE_name (FOk.comp fk rfl) "at" _)) l a)))) (simSs_cons (simS_if _ (simB_cmp fk cmp_ne tru_ok _ (simE_slice fk _ _ (simE_name fk "held" _) (simO_some (simE_callB fk rfl (by kernel_rfl) (hfree "len" (by decide)) (by kernel_rfl) built_len (simEs_cons (simE_name fk "mine" _) simEs_nil))) simO_none simO_none) (simE_bin fk bin_mulL _ (simE_list _ (simEs_cons (simE_tuple _ _ (simEs_cons (simE_int 1 _ _) simEs_nil)) simEs_nil)) (simE_bin fk bin_sub _ (simE_int 15 _ _) (simE_callB fk rfl (by kernel_rfl) (hfree "len" (by decide)) (by kernel_rfl) built_len (simEs_cons (simE_name fk "mine" _) simEs_nil))))) (simSs_one (simS_return _ (simE_bool false _ _))) simSs_nil) (simSs_cons (simS_if _ (simB_cmp fk cmp_ne tru_ok _ (simE_callB fk rfl (by kernel_rfl) (hfree "sorted" (by decide)) (by kernel_rfl) built_sorted2 (simEs_cons (simE_slice fk _ _ (simE_name fk "held" _) simO_none (simO_some (simE_callB fk rfl (by kernel_rfl) (hfree "len" (by decide)) (by kernel_rfl) built_len (simEs_cons (simE_name fk "mine" _) simEs_nil))) simO_none) simEs_nil)) (simE_callB fk rfl (by kernel_rfl) (hfree "sorted" (by decide)) (by kernel_rfl) built_sorted2 (simEs_cons (simE_listcomp fk ⟨rfl, rfl, by decide +kernel, by decide +kernel, (by intro x hx; cases hx), (by intro x c h; cases h)⟩ (simE_name fk "mine" _) (fun C => clauses_of 4096 rfl (fun acc => turn_end rfl rfl (test := none) rfl) (simT_local "number" _ (FOk.comp fk rfl) (by kernel_rfl)) simTest_none (fun l a => simA_emit (FOk.comp fk rfl) (simE_tuple _ _ (simEs_cons (simE_int 0 _ _) (simEs_cons (simE_name (FOk.comp fk rfl) "number" _) simEs_nil))) l a))) simEs_nil))) (simSs_one (simS_return _ (simE_bool false _ _))) simSs_nil) (simSs_one (simS_return _ (simE_cmp fk cmp_eq _ (simE_listcomp fk ⟨rfl, rfl, by decide +kernel, by decide +kernel, (by intro x hx; simp only [List.mem_cons, List.not_mem_nil, or_false] at hx; rcases hx with rfl <;> exact ⟨by first | exact .inl (by rfl) | exact .inr (by rfl), kne_cell (by kernel_rfl), fun c h => h⟩), (ck_cells (ck_cons rfl ck_nil))⟩ (simE_callB fk rfl (by kernel_rfl) (hfree "range" (by decide)) (by kernel_rfl) built_range (simEs_cons (simE_int 1 _ _) (simEs_cons (simE_callB fk rfl (by kernel_rfl) (hfree "len" (by decide)) (by kernel_rfl) built_len (simEs_cons (simE_name fk "mine" _) simEs_nil)) simEs_nil))) (fun C => clauses_of 4096 rfl (fun acc => turn_end rfl rfl (test := (some _)) rfl) (simT_local "k" _ (FOk.comp fk rfl) (by kernel_rfl)) (simTest_some (simB_cmp (FOk.comp fk rfl) cmp_lt tru_ok _ (simE_sub (FOk.comp fk rfl) _ (simE_name (FOk.comp fk rfl) "held" _) (simE_name (FOk.comp fk rfl) "k" _)) (simE_sub (FOk.comp fk rfl) _ (simE_name (FOk.comp fk rfl) "held" _) (simE_bin (FOk.comp fk rfl) bin_fdiv _ (simE_bin (FOk.comp fk rfl) bin_sub _ (simE_name (FOk.comp fk rfl) "k" _) (simE_int 1 _ _)) (simE_int 2 _ _))))) (fun l a => simA_emit (FOk.comp fk rfl) (simE_name (FOk.comp fk rfl) "k" _) l a))) (simE_list _ simEs_nil)))))))

/-! law -/
noncomputable def law_c1_t : V → M Unit := (fun v => setv "q" v)
noncomputable def law_c1_i : M Bool := (do let b ← (do let v ← (do let vs ← (do let v ← (getv "row"); let vs ← (do let v ← (do let o ← (getv "slots"); let i ← (getv "q"); getI o i); let vs ← (do let v ← (do let o ← (getv "kept"); let i ← (getv "q"); getI o i); let vs ← (pure [] : M (List V)); pure (v :: vs)); pure (v :: vs)); pure (v :: vs)); callF f_law_holds vs); truV v); pure (!b))
noncomputable def law_c1_e (l : Nat) : M Unit := (do let v ← (getv "q"); appendAt l v)
noncomputable def law_c1 (l : Nat) (nxt : S → Nat → Option (Option V)) : M Unit := loopC 4096 law_c1_t law_c1_i (law_c1_e l) nxt
noncomputable def law_s2 : M Fl := (do let _ ← (do let ov ← (getv "mine"); chkL ov; let vs ← (do let v ← (do let o ← (getv "told"); let i ← (pure (V.int 1) : M V); getI o i); let vs ← (pure [] : M (List V)); pure (v :: vs)); removeG ov vs); pure .next : M Fl)
noncomputable def law_s3 : M Fl := (do let _ ← (do let vs ← (do let v ← (getv "row"); let vs ← (do let v ← (do let o ← (getv "own"); let i ← (pure (V.int 0) : M V); getI o i); let vs ← (pure [] : M (List V)); pure (v :: vs)); pure (v :: vs)); callF f_siftup vs); pure .next : M Fl)
noncomputable def law_s4 : M Fl := (seqM (do let v ← (getv "last"); (fun v => do let a ← (getv "row"); let b ← (do let o ← (getv "own"); let i ← (pure (V.int 0) : M V); getI o i); setI a b v) v; pure .next : M Fl) law_s3)
noncomputable def law_s5 : M Fl := (seqM (do if (← (do let a ← (getv "told"); let b ← (do let vs ← (do let v ← (pure (V.int 0) : M V); let vs ← (do let v ← (do let vs ← (do let v ← (getv "mine"); let vs ← (pure [] : M (List V)); pure (v :: vs)); minD vs); let vs ← (pure [] : M (List V)); pure (v :: vs)); pure (v :: vs)); mkT vs); let c ← neV a b; truV c)) = true then (do let v ← (pure (V.bool false) : M V); pure (.ret v) : M Fl) else (pure .next : M Fl) : M Fl) law_s2)
noncomputable def law_s6 : M Fl := (seqM (do if (← (do let a ← (do let vs ← (do let v ← (getv "mine"); let vs ← (pure [] : M (List V)); pure (v :: vs)); lenB vs); let b ← (pure (V.int 1) : M V); let c ← gtV a b; truV c)) = true then (seqM (do let v ← (do let o ← (getv "row"); let i ← (do let o ← (getv "own"); let i ← (pure (V.int 0) : M V); getI o i); getI o i); (fun v => setv "told" v) v; pure .next : M Fl) law_s4) else (pure .next : M Fl) : M Fl) law_s5)
noncomputable def law_s7 : M Fl := (seqM (do let v ← (getv "last"); (fun v => setv "told" v) v; pure .next : M Fl) law_s6)
noncomputable def law_s8 : M Fl := (seqM (do let v ← (do let vs ← (do let v ← (pure (V.int 1) : M V); let vs ← (pure [] : M (List V)); pure (v :: vs)); mkT vs); (fun v => do let a ← (getv "row"); let b ← (do let o ← (getv "own"); let i ← (do let a ← (do let vs ← (do let v ← (getv "mine"); let vs ← (pure [] : M (List V)); pure (v :: vs)); lenB vs); let b ← (pure (V.int 1) : M V); subV a b); getI o i); setI a b v) v; pure .next : M Fl) law_s7)
noncomputable def law_s9 : M Fl := (do if (← (do if (← (do let a ← (do let vs ← (do let v ← (getv "row"); let vs ← (do let v ← (do let o ← (getv "own"); let i ← (pure (V.int 0) : M V); getI o i); let vs ← (do let v ← (do let o ← (getv "own"); let i ← (getv "at"); getI o i); let vs ← (pure [] : M (List V)); pure (v :: vs)); pure (v :: vs)); pure (v :: vs)); callF f_siftdown vs); let b ← (pure V.none : M V); let c ← isNotV a b; truV c)) = true then pure true else (do if (← (do let a ← (getv "copy"); let b ← (getv "row"); let c ← neV a b; truV c)) = true then pure true else (pure false : M Bool)))) = true then (do let v ← (pure (V.bool false) : M V); pure (.ret v) : M Fl) else (pure .next : M Fl) : M Fl)
noncomputable def law_t10_b : M Fl := (do let v ← (do let vs ← (do let v ← (getv "copy"); let vs ← (do let v ← (pure (V.int 0) : M V); let vs ← (do let v ← (do let o ← (getv "own"); let i ← (getv "at"); getI o i); let vs ← (pure [] : M (List V)); pure (v :: vs)); pure (v :: vs)); pure (v :: vs)); callF f_siftdown vs); (fun v => setv "told" v) v; pure .next : M Fl)
noncomputable def law_s11 : M Fl := (do let v ← (do let vs ← (do let v ← (pure (V.int 0) : M V); let vs ← (do let v ← (getv "number"); let vs ← (pure [] : M (List V)); pure (v :: vs)); pure (v :: vs)); mkT vs); (fun v => do let a ← (getv "copy"); let b ← (do let o ← (getv "own"); let i ← (pure (V.int 0) : M V); getI o i); setI a b v) v; pure .next : M Fl)
noncomputable def law_h12 (msg : Str) : M Fl := (seqM (do let v ← (pure (V.str msg) : M V); (fun v => setv "told" v) v; pure .next : M Fl) (seqM (do if (← (do let a ← (do let o ← (getv "copy"); let i ← (do let o ← (getv "own"); let i ← (pure (V.int 0) : M V); getI o i); getI o i); let b ← (getv "former"); let c ← neV a b; truV c)) = true then (do let v ← (pure (V.bool false) : M V); pure (.ret v) : M Fl) else (pure .next : M Fl) : M Fl) law_s11))
noncomputable def law_s13 : M Fl := (seqM (do if (← (do let a ← (getv "told"); let b ← (do if (← (do let v ← (getv "first"); truV v)) = true then (getv "words") else (pure V.none : M V)); let c ← neV a b; truV c)) = true then (do let v ← (pure (V.bool false) : M V); pure (.ret v) : M Fl) else (pure .next : M Fl) : M Fl) law_s9)
noncomputable def law_s14 : M Fl := (seqM (tryM law_t10_b (hndM "TypeError" "fault" law_h12 noH)) law_s13)
noncomputable def law_s15 : M Fl := (seqM (do let v ← (do let vs ← (do let v ← (do let vs ← (do let v ← (getv "row"); let vs ← (pure [] : M (List V)); pure (v :: vs)); listB vs); let vs ← (do let v ← (do let o ← (getv "row"); let i ← (do let o ← (getv "own"); let i ← (pure (V.int 0) : M V); getI o i); getI o i); let vs ← (pure [] : M (List V)); pure (v :: vs)); pure (v :: vs)); mkT vs); swapT ["copy", "former"] v; pure .next : M Fl) law_s14)
noncomputable def law_s16 : M Fl := (seqM (do let v ← (do let vs ← (do let v ← (pure (V.int 0) : M V); let vs ← (do let v ← (getv "number"); let vs ← (pure [] : M (List V)); pure (v :: vs)); pure (v :: vs)); mkT vs); (fun v => do let a ← (getv "row"); let b ← (do let o ← (getv "own"); let i ← (getv "at"); getI o i); setI a b v) v; pure .next : M Fl) law_s15)
noncomputable def law_s17 : M Fl := (seqM (do let _ ← (do let ov ← (getv "mine"); chkL ov; let vs ← (do let v ← (getv "number"); let vs ← (pure [] : M (List V)); pure (v :: vs)); appendG ov vs); pure .next : M Fl) law_s16)
noncomputable def law_s18 : M Fl := (seqM (do if (← (do let a ← (getv "at"); let b ← (do let vs ← (do let v ← (getv "mine"); let vs ← (pure [] : M (List V)); pure (v :: vs)); lenB vs); let c ← ltV a b; truV c)) = true then (do let _ ← (do let ov ← (getv "mine"); chkL ov; let vs ← (do let v ← (do let o ← (do let o ← (getv "row"); let i ← (do let o ← (getv "own"); let i ← (getv "at"); getI o i); getI o i); let i ← (pure (V.int 1) : M V); getI o i); let vs ← (pure [] : M (List V)); pure (v :: vs)); removeG ov vs); pure .next : M Fl) else (pure .next : M Fl) : M Fl) law_s17)
noncomputable def law_s19 : M Fl := (do let v ← (do let a ← (do let o ← (do let o ← (getv "row"); let i ← (do let o ← (getv "own"); let i ← (getv "at"); getI o i); getI o i); let i ← (pure (V.int 1) : M V); getI o i); let b ← (do let vs ← (do let v ← (getv "n"); let vs ← (pure [] : M (List V)); pure (v :: vs)); absB vs); subV a b); (fun v => setv "number" v) v; pure .next : M Fl)
noncomputable def law_s20 : M Fl := (seqM (do let v ← (do let v ← (do let a ← (getv "at"); let b ← (pure (V.int 0) : M V); eqV a b); if (← truV v) = true then pure v else (do let a ← (getv "number"); let b ← (do let vs ← (do let v ← (getv "mine"); let vs ← (pure [] : M (List V)); pure (v :: vs)); minD vs); ltV a b)); (fun v => setv "first" v) v; pure .next : M Fl) law_s18)
noncomputable def law_s21 : M Fl := (seqM (do if (← (do if (← (do let a ← (getv "kind"); let b ← (pure (V.int 3) : M V); let c ← eqV a b; truV c)) = true then (do if (← (do let a ← (getv "mine"); let b ← (do let vs ← (pure [] : M (List V)); newL vs); let c ← neV a b; truV c)) = true then (pure true : M Bool) else pure false) else pure false)) = true then (seqM (do let v ← (do let a ← (getv "n"); let b ← (do let vs ← (do let v ← (getv "mine"); let vs ← (pure [] : M (List V)); pure (v :: vs)); lenB vs); fmodV a b); (fun v => setv "at" v) v; pure .next : M Fl) law_s19) else (pure .next : M Fl) : M Fl) law_s20)
noncomputable def law_s22 : M Fl := (do if (← (do let b ← (do let v ← (do let vs ← (do let v ← (getv "row"); let vs ← (do let v ← (getv "own"); let vs ← (do let v ← (getv "mine"); let vs ← (pure [] : M (List V)); pure (v :: vs)); pure (v :: vs)); pure (v :: vs)); callF f_law_holds vs); truV v); pure (!b))) = true then (do let v ← (pure (V.bool false) : M V); pure (.ret v) : M Fl) else (pure .next : M Fl) : M Fl)
noncomputable def law_s23 : M Fl := (seqM (do if (← (do if (← (do if (← (do let a ← (getv "kind"); let b ← (pure (V.int 2) : M V); let c ← eqV a b; truV c)) = true then (do if (← (do let a ← (getv "mine"); let b ← (do let vs ← (pure [] : M (List V)); newL vs); let c ← neV a b; truV c)) = true then (pure true : M Bool) else pure false) else pure false)) = true then pure true else (do if (← (do if (← (do let a ← (getv "kind"); let b ← (pure (V.int 2) : M V); let c ← ltV a b; truV c)) = true then (do if (← (do let a ← (do let vs ← (do let v ← (getv "mine"); let vs ← (pure [] : M (List V)); pure (v :: vs)); lenB vs); let b ← (pure (V.int 15) : M V); let c ← eqV a b; truV c)) = true then (pure true : M Bool) else pure false) else pure false)) = true then pure true else (pure false : M Bool)))) = true then (seqM (do let v ← (do let o ← (getv "row"); let i ← (do let o ← (getv "own"); let i ← (do let a ← (do let vs ← (do let v ← (getv "mine"); let vs ← (pure [] : M (List V)); pure (v :: vs)); lenB vs); let b ← (pure (V.int 1) : M V); subV a b); getI o i); getI o i); (fun v => setv "last" v) v; pure .next : M Fl) law_s8) else (seqM (do let v ← (do let vs ← (do let v ← (do let vs ← (do let v ← (getv "mine"); let vs ← (pure [] : M (List V)); pure (v :: vs)); lenB vs); let vs ← (do let v ← (getv "n"); let vs ← (pure [] : M (List V)); pure (v :: vs)); pure (v :: vs)); mkT vs); swapT ["at", "number"] v; pure .next : M Fl) law_s21) : M Fl) law_s22)
noncomputable def law_l24_t : V → M Unit := (fun v => setv "x" v)
noncomputable def law_l24_b : M Fl := (seqM (do let v ← (do let vs ← (do let v ← (do let o ← (getv "slots"); let i ← (do let a ← (getv "x"); let b ← (pure (V.int 4) : M V); fmodV a b); getI o i); let vs ← (do let v ← (do let o ← (getv "kept"); let i ← (do let a ← (getv "x"); let b ← (pure (V.int 4) : M V); fmodV a b); getI o i); let vs ← (do let v ← (do let a ← (do let a ← (getv "x"); let b ← (pure (V.int 4) : M V); fdivV a b); let b ← (pure (V.int 4) : M V); fmodV a b); let vs ← (do let v ← (do let a ← (getv "x"); let b ← (pure (V.int 16) : M V); fdivV a b); let vs ← (pure [] : M (List V)); pure (v :: vs)); pure (v :: vs)); pure (v :: vs)); pure (v :: vs)); mkT vs); (unpackT 4 (consT (fun v => setv "own" v) (consT (fun v => setv "mine" v) (consT (fun v => setv "kind" v) (consT (fun v => setv "n" v) (fun _ => pure ())))))) v; pure .next : M Fl) law_s23)
noncomputable def law_s25 : M Fl := (do let v ← (do let v ← (do let a ← (do let o ← (getv "row"); let i ← (do let a ← (pure V.none : M V); let b ← (pure (V.int 3) : M V); let c ← (pure V.none : M V); pure (a, b, c)); sliceV o i); let b ← (do let a ← (do let vs ← (do let v ← (pure V.none : M V); let vs ← (pure [] : M (List V)); pure (v :: vs)); newL vs); let b ← (pure (V.int 3) : M V); mulLV a b); eqV a b); if (← truV v) = true then (do let a ← ((do let vs ← (do let v ← (pure (V.int 4) : M V); let vs ← (pure [] : M (List V)); pure (v :: vs)); rangeB vs) >>= compTail ["kept", "row", "slots"] law_c1); let b ← (do let vs ← (pure [] : M (List V)); newL vs); eqV a b) else pure v); pure (.ret v) : M Fl)
noncomputable def law_c26_t : V → M Unit := (fun v => setv "k" v)
noncomputable def law_c26_i : M Bool := (pure true : M Bool)
noncomputable def law_c26_e (l : Nat) : M Unit := (do let v ← (do let vs ← (do let v ← (do let o ← (getv "script"); let i ← (do let a ← (getv "k"); let b ← (pure V.none : M V); let c ← (pure (V.int 16) : M V); pure (a, b, c)); sliceV o i); let vs ← (pure [] : M (List V)); pure (v :: vs)); sumB vs); appendAt l v)
noncomputable def law_c26 (l : Nat) (nxt : S → Nat → Option (Option V)) : M Unit := loopC 4096 law_c26_t law_c26_i (law_c26_e l) nxt
noncomputable def law_s27 : M Fl := (seqM (do let v ← (getv "drawn"); okIter v; forG (nxtOf v) law_l24_t law_l24_b 4096 0) law_s25)
noncomputable def law_s28 : M Fl := (seqM (do let v ← (do let a ← (do let vs ← (do let v ← (pure (V.int 81) : M V); let vs ← (do let v ← (pure (V.int 53) : M V); let vs ← (do let v ← (pure (V.int 65) : M V); let vs ← (do let v ← (pure (V.int 17) : M V); let vs ← (do let v ← (pure (V.int 109) : M V); let vs ← (do let v ← (pure (V.int 9) : M V); let vs ← (do let v ← (pure (V.int 114) : M V); let vs ← (do let v ← (pure (V.int 114) : M V); let vs ← (pure [] : M (List V)); pure (v :: vs)); pure (v :: vs)); pure (v :: vs)); pure (v :: vs)); pure (v :: vs)); pure (v :: vs)); pure (v :: vs)); pure (v :: vs)); newL vs); let b ← ((do let vs ← (do let v ← (do let vs ← (do let v ← (pure (V.int 16) : M V); let vs ← (do let v ← (do let vs ← (do let v ← (getv "script"); let vs ← (pure [] : M (List V)); pure (v :: vs)); lenB vs); let vs ← (pure [] : M (List V)); pure (v :: vs)); pure (v :: vs)); minD vs); let vs ← (pure [] : M (List V)); pure (v :: vs)); rangeB vs) >>= compTail ["script"] law_c26); addV a b); (fun v => setv "drawn" v) v; pure .next : M Fl) law_s27)
noncomputable def law_s29 : M Fl := (seqM (do let v ← (do let vs ← (do let v ← (do let vs ← (pure [] : M (List V)); newL vs); let vs ← (do let v ← (do let vs ← (pure [] : M (List V)); newL vs); let vs ← (do let v ← (do let vs ← (pure [] : M (List V)); newL vs); let vs ← (do let v ← (do let vs ← (pure [] : M (List V)); newL vs); let vs ← (pure [] : M (List V)); pure (v :: vs)); pure (v :: vs)); pure (v :: vs)); pure (v :: vs)); newL vs); (fun v => setv "kept" v) v; pure .next : M Fl) law_s28)
noncomputable def law_c31_1_t : V → M Unit := (fun v => setv "o" v)
noncomputable def law_c31_1_i : M Bool := (pure true : M Bool)
noncomputable def law_c31_1_e (l : Nat) : M Unit := (do let v ← (do let a ← (do let a ← (do let a ← (do let a ← (getv "q"); let b ← (pure (V.int 4) : M V); addV a b); let b ← (do let a ← (pure (V.int 2) : M V); let b ← (getv "d"); powV a b); mulV a b); let b ← (getv "o"); addV a b); let b ← (pure (V.int 1) : M V); subV a b); appendAt l v)
noncomputable def law_c31_1 (l : Nat) (nxt : S → Nat → Option (Option V)) : M Unit := loopC 4096 law_c31_1_t law_c31_1_i (law_c31_1_e l) nxt
noncomputable def law_c31_t : V → M Unit := (fun v => setv "d" v)
noncomputable def law_c31_i : M Bool := (pure true : M Bool)
noncomputable def law_c31_e (l : Nat) : M Unit := ((do let vs ← (do let v ← (do let a ← (pure (V.int 2) : M V); let b ← (getv "d"); powV a b); let vs ← (pure [] : M (List V)); pure (v :: vs)); rangeB vs) >>= nestT law_c31_1 l)
noncomputable def law_c31 (l : Nat) (nxt : S → Nat → Option (Option V)) : M Unit := loopC 4096 law_c31_t law_c31_i (law_c31_e l) nxt
noncomputable def law_c30_t : V → M Unit := (fun v => setv "q" v)
noncomputable def law_c30_i : M Bool := (pure true : M Bool)
noncomputable def law_c30_e (l : Nat) : M Unit := (do let v ← ((do let vs ← (do let v ← (pure (V.int 4) : M V); let vs ← (pure [] : M (List V)); pure (v :: vs)); rangeB vs) >>= compTail ["q"] law_c31); appendAt l v)
noncomputable def law_c30 (l : Nat) (nxt : S → Nat → Option (Option V)) : M Unit := loopC 4096 law_c30_t law_c30_i (law_c30_e l) nxt
noncomputable def law_s32 : M Fl := (seqM (do let v ← (do let a ← (do let a ← (do let vs ← (do let v ← (pure V.none : M V); let vs ← (pure [] : M (List V)); pure (v :: vs)); newL vs); let b ← (pure (V.int 3) : M V); mulLV a b); let b ← (do let a ← (do let vs ← (do let v ← (do let vs ← (do let v ← (pure (V.int 1) : M V); let vs ← (pure [] : M (List V)); pure (v :: vs)); mkT vs); let vs ← (pure [] : M (List V)); pure (v :: vs)); newL vs); let b ← (pure (V.int 60) : M V); mulLV a b); addV a b); (fun v => setv "row" v) v; pure .next : M Fl) law_s29)
noncomputable def law_s33 : M Fl := (seqM (do let v ← ((do let vs ← (do let v ← (pure (V.int 4) : M V); let vs ← (pure [] : M (List V)); pure (v :: vs)); rangeB vs) >>= compTail [] law_c30); (fun v => setv "slots" v) v; pure .next : M Fl) law_s32)
noncomputable def law_m : M Fl := (seqM (do let v ← (pure (V.str (Str.ofString "'<' not supported between instances of 'tuple' and 'NoneType'")) : M V); (fun v => setv "words" v) v; pure .next : M Fl) law_s33)
noncomputable def f_law : Fun := funM ["script"] law_m
noncomputable def law_r : DefRec := recAt prg 5
theorem has_f_law {K : Glo} (hp : ∀ d ∈ recsOf prg, d ∈ recsOf K.p) (hfree : ∀ x ∈ bltNames, K.mg (Str.ofString x) = none) (h_law_holds : HasF K "_law_holds" 1 f_law_holds) (h_siftdown : HasF K "_siftdown" 1 f_siftdown) (h_siftup : HasF K "_siftup" 2 f_siftup) : HasF K "law" 3 f_law := by
  refine hasF_of (d := law_r) (lvl := 2) (hp _ (List.mem_iff_getElem?.mpr ⟨3, by kernel_rfl⟩)) (by kernel_rfl) (by kernel_rfl) (by kernel_rfl) (by kernel_rfl) (by decide) ?_ ?_ ?_
  · intro pm code doc ws h
    match ws, h with
    | [a0], _ => rfl
  · intro n y hy
    simp only [List.mem_cons, List.not_mem_nil, or_false] at hy
    subst hy
    · exact .inr ⟨by kernel_rfl, rfl⟩
  · intro pm code doc L fa A hr fk
    show SimSs K _ _ law_m
    exact (simSs_cons (simS_assign _ (simT_local "words" _ fk (by kernel_rfl)) (simE_str _ _ _)) (simSs_cons (simS_assign _ (simT_cellD "slots" _ fk (by kernel_rfl) rfl) (simE_listcompY fk (y := "q") ⟨rfl, rfl, by decide +kernel, fun _ => rfl, fun _ => rfl⟩ (simE_callB fk rfl (by kernel_rfl) (hfree "range" (by decide)) (by kernel_rfl) built_range (simEs_cons (simE_int 4 _ _) simEs_nil)) (fun C => clauses_of 4096 rfl (fun acc => turn_end rfl rfl (test := none) rfl) (simT_cellY _ (FOk.compY fk rfl) (by kernel_rfl)) simTest_none (fun l a => simA_emit (FOk.compY fk rfl) (simE_listcomp (FOk.compY fk rfl) ⟨rfl, rfl, by decide +kernel, by decide +kernel, (by intro x hx; simp only [List.mem_cons, List.not_mem_nil, or_false] at hx; rcases hx with rfl <;> exact ⟨by first | exact .inl (by rfl) | exact .inr (by rfl), kne_cell (by kernel_rfl), fun c h => h⟩), (ck_cells (ck_cons rfl ck_nil))⟩ (simE_callB (FOk.compY fk rfl) rfl (by kernel_rfl) (hfree "range" (by decide)) (by kernel_rfl) built_range (simEs_cons (simE_int 4 _ _) simEs_nil)) (fun C => clauses_of 4096 rfl (fun acc => turn_nest rfl rfl (test := none) rfl) (simT_local "d" _ (FOk.comp (FOk.compY fk rfl) rfl) (by kernel_rfl)) simTest_none (fun l a => simA_nest (FOk.comp (FOk.compY fk rfl) rfl) (simE_callB (FOk.comp (FOk.compY fk rfl) rfl) rfl (by kernel_rfl) (hfree "range" (by decide)) (by kernel_rfl) built_range (simEs_cons (simE_bin (FOk.comp (FOk.compY fk rfl) rfl) bin_pow _ (simE_int 2 _ _) (simE_name (FOk.comp (FOk.compY fk rfl) rfl) "d" _)) simEs_nil)) (clauses_of 4096 rfl (fun acc => turn_end rfl rfl (test := none) rfl) (simT_local "o" _ (FOk.comp (FOk.compY fk rfl) rfl) (by kernel_rfl)) simTest_none (fun l a => simA_emit (FOk.comp (FOk.compY fk rfl) rfl) (simE_bin (FOk.comp (FOk.compY fk rfl) rfl) bin_sub _ (simE_bin (FOk.comp (FOk.compY fk rfl) rfl) bin_add _ (simE_bin (FOk.comp (FOk.compY fk rfl) rfl) bin_mul _ (simE_bin (FOk.comp (FOk.compY fk rfl) rfl) bin_add _ (simE_name (FOk.comp (FOk.compY fk rfl) rfl) "q" _) (simE_int 4 _ _)) (simE_bin (FOk.comp (FOk.compY fk rfl) rfl) bin_pow _ (simE_int 2 _ _) (simE_name (FOk.comp (FOk.compY fk rfl) rfl) "d" _))) (simE_name (FOk.comp (FOk.compY fk rfl) rfl) "o" _)) (simE_int 1 _ _)) l a)) l a))) l a)))) (simSs_cons (simS_assign _ (simT_cellD "row" _ fk (by kernel_rfl) rfl) (simE_bin fk bin_add _ (simE_bin fk bin_mulL _ (simE_list _ (simEs_cons (simE_none _ _) simEs_nil)) (simE_int 3 _ _)) (simE_bin fk bin_mulL _ (simE_list _ (simEs_cons (simE_tuple _ _ (simEs_cons (simE_int 1 _ _) simEs_nil)) simEs_nil)) (simE_int 60 _ _)))) (simSs_cons (simS_assign _ (simT_cellD "kept" _ fk (by kernel_rfl) rfl) (simE_list _ (simEs_cons (simE_list _ simEs_nil) (simEs_cons (simE_list _ simEs_nil) (simEs_cons (simE_list _ simEs_nil) (simEs_cons (simE_list _ simEs_nil) simEs_nil)))))) (simSs_cons (simS_assign _ (simT_local "drawn" _ fk (by kernel_rfl)) (simE_bin fk bin_add _ (simE_list _ (simEs_cons (simE_int 81 _ _) (simEs_cons (simE_int 53 _ _) (simEs_cons (simE_int 65 _ _) (simEs_cons (simE_int 17 _ _) (simEs_cons (simE_int 109 _ _) (simEs_cons (simE_int 9 _ _) (simEs_cons (simE_int 114 _ _) (simEs_cons (simE_int 114 _ _) simEs_nil))))))))) (simE_listcomp fk ⟨rfl, rfl, by decide +kernel, by decide +kernel, (by intro x hx; simp only [List.mem_cons, List.not_mem_nil, or_false] at hx; rcases hx with rfl <;> exact ⟨by first | exact .inl (by rfl) | exact .inr (by rfl), kne_cell (by kernel_rfl), fun c h => h⟩), (ck_cells (ck_cons rfl ck_nil))⟩ (simE_callB fk rfl (by kernel_rfl) (hfree "range" (by decide)) (by kernel_rfl) built_range (simEs_cons (simE_callB fk rfl (by kernel_rfl) (hfree "min" (by decide)) (by kernel_rfl) built_minD (simEs_cons (simE_int 16 _ _) (simEs_cons (simE_callB fk rfl (by kernel_rfl) (hfree "len" (by decide)) (by kernel_rfl) built_len (simEs_cons (simE_name fk "script" _) simEs_nil)) simEs_nil))) simEs_nil)) (fun C => clauses_of 4096 rfl (fun acc => turn_end rfl rfl (test := none) rfl) (simT_local "k" _ (FOk.comp fk rfl) (by kernel_rfl)) simTest_none (fun l a => simA_emit (FOk.comp fk rfl) (simE_callB (FOk.comp fk rfl) rfl (by kernel_rfl) (hfree "sum" (by decide)) (by kernel_rfl) built_sum (simEs_cons (simE_slice (FOk.comp fk rfl) _ _ (simE_name (FOk.comp fk rfl) "script" _) (simO_some (simE_name (FOk.comp fk rfl) "k" _)) simO_none (simO_some (simE_int 16 _ _))) simEs_nil)) l a))))) (simSs_cons (simS_for fk _ 4096 (simE_name fk "drawn" _) (simT_local "x" _ fk (by kernel_rfl)) (simSs_cons (simS_assign _ (simT_tuple fk _ _ (simTs_cons (simT_local "own" _ fk (by kernel_rfl)) (simTs_cons (simT_local "mine" _ fk (by kernel_rfl)) (simTs_cons (simT_local "kind" _ fk (by kernel_rfl)) (simTs_cons (simT_local "n" _ fk (by kernel_rfl)) simTs_nil))))) (simE_tuple _ _ (simEs_cons (simE_sub fk _ (simE_name fk "slots" _) (simE_bin fk bin_fmod _ (simE_name fk "x" _) (simE_int 4 _ _))) (simEs_cons (simE_sub fk _ (simE_name fk "kept" _) (simE_bin fk bin_fmod _ (simE_name fk "x" _) (simE_int 4 _ _))) (simEs_cons (simE_bin fk bin_fmod _ (simE_bin fk bin_fdiv _ (simE_name fk "x" _) (simE_int 4 _ _)) (simE_int 4 _ _)) (simEs_cons (simE_bin fk bin_fdiv _ (simE_name fk "x" _) (simE_int 16 _ _)) simEs_nil)))))) (simSs_cons (simS_if _ (simB_boolop _ (simAll_or (simB_boolop _ (simAll_and (simB_cmp fk cmp_eq tru_ok _ (simE_name fk "kind" _) (simE_int 2 _ _)) (simAll_and (simB_cmp fk cmp_ne tru_ok _ (simE_name fk "mine" _) (simE_list _ simEs_nil)) simAll_and_nil))) (simAll_or (simB_boolop _ (simAll_and (simB_cmp fk cmp_lt tru_ok _ (simE_name fk "kind" _) (simE_int 2 _ _)) (simAll_and (simB_cmp fk cmp_eq tru_ok _ (simE_callB fk rfl (by kernel_rfl) (hfree "len" (by decide)) (by kernel_rfl) built_len (simEs_cons (simE_name fk "mine" _) simEs_nil)) (simE_int 15 _ _)) simAll_and_nil))) simAll_or_nil))) (simSs_cons (simS_assign _ (simT_local "last" _ fk (by kernel_rfl)) (simE_sub fk _ (simE_name fk "row" _) (simE_sub fk _ (simE_name fk "own" _) (simE_bin fk bin_sub _ (simE_callB fk rfl (by kernel_rfl) (hfree "len" (by decide)) (by kernel_rfl) built_len (simEs_cons (simE_name fk "mine" _) simEs_nil)) (simE_int 1 _ _))))) (simSs_cons (simS_assign _ (simT_sub fk _ (simE_name fk "row" _) (simE_sub fk _ (simE_name fk "own" _) (simE_bin fk bin_sub _ (simE_callB fk rfl (by kernel_rfl) (hfree "len" (by decide)) (by kernel_rfl) built_len (simEs_cons (simE_name fk "mine" _) simEs_nil)) (simE_int 1 _ _)))) (simE_tuple _ _ (simEs_cons (simE_int 1 _ _) simEs_nil))) (simSs_cons (simS_assign _ (simT_local "told" _ fk (by kernel_rfl)) (simE_name fk "last" _)) (simSs_cons (simS_if _ (simB_cmp fk cmp_gt tru_ok _ (simE_callB fk rfl (by kernel_rfl) (hfree "len" (by decide)) (by kernel_rfl) built_len (simEs_cons (simE_name fk "mine" _) simEs_nil)) (simE_int 1 _ _)) (simSs_cons (simS_assign _ (simT_local "told" _ fk (by kernel_rfl)) (simE_sub fk _ (simE_name fk "row" _) (simE_sub fk _ (simE_name fk "own" _) (simE_int 0 _ _)))) (simSs_cons (simS_assign _ (simT_sub fk _ (simE_name fk "row" _) (simE_sub fk _ (simE_name fk "own" _) (simE_int 0 _ _))) (simE_name fk "last" _)) (simSs_one (simS_expr fk _ (simE_callF fk h_siftup (hr.le (by decide)) (simEs_cons (simE_name fk "row" _) (simEs_cons (simE_sub fk _ (simE_name fk "own" _) (simE_int 0 _ _)) simEs_nil))))))) simSs_nil) (simSs_cons (simS_if _ (simB_cmp fk cmp_ne tru_ok _ (simE_name fk "told" _) (simE_tuple _ _ (simEs_cons (simE_int 0 _ _) (simEs_cons (simE_callB fk rfl (by kernel_rfl) (hfree "min" (by decide)) (by kernel_rfl) built_minD (simEs_cons (simE_name fk "mine" _) simEs_nil)) simEs_nil)))) (simSs_one (simS_return _ (simE_bool false _ _))) simSs_nil) (simSs_one (simS_expr fk _ (simE_meth fk PySem.F.slot_list_remove PySem.F.type_list_remove (simE_name fk "mine" _) (simEs_cons (simE_sub fk _ (simE_name fk "told" _) (simE_int 1 _ _)) simEs_nil) meth_remove)))))))) (simSs_cons (simS_assign_swap fk _ ["at", "number"] (simE_tuple _ _ (simEs_cons (simE_callB fk rfl (by kernel_rfl) (hfree "len" (by decide)) (by kernel_rfl) built_len (simEs_cons (simE_name fk "mine" _) simEs_nil)) (simEs_cons (simE_name fk "n" _) simEs_nil))) (by intro x hx; simp only [List.mem_cons, List.not_mem_nil, or_false] at hx; rcases hx with rfl | rfl <;> kernel_rfl)) (simSs_cons (simS_if _ (simB_boolop _ (simAll_and (simB_cmp fk cmp_eq tru_ok _ (simE_name fk "kind" _) (simE_int 3 _ _)) (simAll_and (simB_cmp fk cmp_ne tru_ok _ (simE_name fk "mine" _) (simE_list _ simEs_nil)) simAll_and_nil))) (simSs_cons (simS_assign _ (simT_local "at" _ fk (by kernel_rfl)) (simE_bin fk bin_fmod _ (simE_name fk "n" _) (simE_callB fk rfl (by kernel_rfl) (hfree "len" (by decide)) (by kernel_rfl) built_len (simEs_cons (simE_name fk "mine" _) simEs_nil)))) (simSs_one (simS_assign _ (simT_local "number" _ fk (by kernel_rfl)) (simE_bin fk bin_sub _ (simE_sub fk _ (simE_sub fk _ (simE_name fk "row" _) (simE_sub fk _ (simE_name fk "own" _) (simE_name fk "at" _))) (simE_int 1 _ _)) (simE_callB fk rfl (by kernel_rfl) (hfree "abs" (by decide)) (by kernel_rfl) built_abs (simEs_cons (simE_name fk "n" _) simEs_nil)))))) simSs_nil) (simSs_cons (simS_assign _ (simT_local "first" _ fk (by kernel_rfl)) (simE_boolop (simBo_or fk tru_ok (simE_cmp fk cmp_eq _ (simE_name fk "at" _) (simE_int 0 _ _)) (simBo_one (simE_cmp fk cmp_lt _ (simE_name fk "number" _) (simE_callB fk rfl (by kernel_rfl) (hfree "min" (by decide)) (by kernel_rfl) built_minD (simEs_cons (simE_name fk "mine" _) simEs_nil))))))) (simSs_cons (simS_if _ (simB_cmp fk cmp_lt tru_ok _ (simE_name fk "at" _) (simE_callB fk rfl (by kernel_rfl) (hfree "len" (by decide)) (by kernel_rfl) built_len (simEs_cons (simE_name fk "mine" _) simEs_nil))) (simSs_one (simS_expr fk _ (simE_meth fk PySem.F.slot_list_remove PySem.F.type_list_remove (simE_name fk "mine" _) (simEs_cons (simE_sub fk _ (simE_sub fk _ (simE_name fk "row" _) (simE_sub fk _ (simE_name fk "own" _) (simE_name fk "at" _))) (simE_int 1 _ _)) simEs_nil) meth_remove))) simSs_nil) (simSs_cons (simS_expr fk _ (simE_meth fk PySem.F.slot_list_append PySem.F.type_list_append (simE_name fk "mine" _) (simEs_cons (simE_name fk "number" _) simEs_nil) meth_append)) (simSs_cons (simS_assign _ (simT_sub fk _ (simE_name fk "row" _) (simE_sub fk _ (simE_name fk "own" _) (simE_name fk "at" _))) (simE_tuple _ _ (simEs_cons (simE_int 0 _ _) (simEs_cons (simE_name fk "number" _) simEs_nil)))) (simSs_cons (simS_assign_swap fk _ ["copy", "former"] (simE_tuple _ _ (simEs_cons (simE_callB fk rfl (by kernel_rfl) (hfree "list" (by decide)) (by kernel_rfl) built_list (simEs_cons (simE_name fk "row" _) simEs_nil)) (simEs_cons (simE_sub fk _ (simE_name fk "row" _) (simE_sub fk _ (simE_name fk "own" _) (simE_int 0 _ _))) simEs_nil))) (by intro x hx; simp only [List.mem_cons, List.not_mem_nil, or_false] at hx; rcases hx with rfl | rfl <;> kernel_rfl)) (simSs_cons (simS_try fk (simSs_one (simS_assign _ (simT_local "told" _ fk (by kernel_rfl)) (simE_callF fk h_siftdown (hr.le (by decide)) (simEs_cons (simE_name fk "copy" _) (simEs_cons (simE_int 0 _ _) (simEs_cons (simE_sub fk _ (simE_name fk "own" _) (simE_name fk "at" _)) simEs_nil)))))) (simHs_as fk excT_TypeError (by kernel_rfl) (hfree "TypeError" (by decide)) (by kernel_rfl) (by kernel_rfl) (fun v msg => (simSsX_cons (simSX_assign _ (simT_local "told" _ (fk.h v) (by kernel_rfl)) (simEX_strOf (fk.h v) PySem.F.excStr_TypeError (by kernel_rfl) (hfree "str" (by decide)) (by kernel_rfl))) (simSs_cons (simS_if _ (simB_cmp (fk.h v) cmp_ne tru_ok _ (simE_sub (fk.h v) _ (simE_name (fk.h v) "copy" _) (simE_sub (fk.h v) _ (simE_name (fk.h v) "own" _) (simE_int 0 _ _))) (simE_name (fk.h v) "former" _)) (simSs_one (simS_return _ (simE_bool false _ _))) simSs_nil) (simSs_one (simS_assign _ (simT_sub (fk.h v) _ (simE_name (fk.h v) "copy" _) (simE_sub (fk.h v) _ (simE_name (fk.h v) "own" _) (simE_int 0 _ _))) (simE_tuple _ _ (simEs_cons (simE_int 0 _ _) (simEs_cons (simE_name (fk.h v) "number" _) simEs_nil)))))))) simHs_nil)) (simSs_cons (simS_if _ (simB_cmp fk cmp_ne tru_ok _ (simE_name fk "told" _) (simE_ite _ (simB_val fk tru_ok (simE_name fk "first" _)) (simE_name fk "words" _) (simE_none _ _))) (simSs_one (simS_return _ (simE_bool false _ _))) simSs_nil) (simSs_one (simS_if _ (simB_boolop _ (simAll_or (simB_cmp fk cmp_isNot tru_ok _ (simE_callF fk h_siftdown (hr.le (by decide)) (simEs_cons (simE_name fk "row" _) (simEs_cons (simE_sub fk _ (simE_name fk "own" _) (simE_int 0 _ _)) (simEs_cons (simE_sub fk _ (simE_name fk "own" _) (simE_name fk "at" _)) simEs_nil)))) (simE_none _ _)) (simAll_or (simB_cmp fk cmp_ne tru_ok _ (simE_name fk "copy" _) (simE_name fk "row" _)) simAll_or_nil))) (simSs_one (simS_return _ (simE_bool false _ _))) simSs_nil)))))))))))) (simSs_one (simS_if _ (simB_not _ (simB_val fk tru_ok (simE_callF fk h_law_holds (hr.le (by decide)) (simEs_cons (simE_name fk "row" _) (simEs_cons (simE_name fk "own" _) (simEs_cons (simE_name fk "mine" _) simEs_nil)))))) (simSs_one (simS_return _ (simE_bool false _ _))) simSs_nil))))) (simSs_one (simS_return _ (simE_boolop (simBo_and fk tru_ok (simE_cmp fk cmp_eq _ (simE_slice fk _ _ (simE_name fk "row" _) simO_none (simO_some (simE_int 3 _ _)) simO_none) (simE_bin fk bin_mulL _ (simE_list _ (simEs_cons (simE_none _ _) simEs_nil)) (simE_int 3 _ _))) (simBo_one (simE_cmp fk cmp_eq _ (simE_listcomp fk ⟨rfl, rfl, by decide +kernel, by decide +kernel, (by intro x hx; simp only [List.mem_cons, List.not_mem_nil, or_false] at hx; rcases hx with rfl | rfl | rfl <;> exact ⟨by first | exact .inl (by rfl) | exact .inr (by rfl), kne_cell (by kernel_rfl), fun c h => h⟩), (ck_cells (ck_cons rfl (ck_cons rfl (ck_cons rfl ck_nil))))⟩ (simE_callB fk rfl (by kernel_rfl) (hfree "range" (by decide)) (by kernel_rfl) built_range (simEs_cons (simE_int 4 _ _) simEs_nil)) (fun C => clauses_of 4096 rfl (fun acc => turn_end rfl rfl (test := (some _)) rfl) (simT_local "q" _ (FOk.comp fk rfl) (by kernel_rfl)) (simTest_some (simB_not _ (simB_val (FOk.comp fk rfl) tru_ok (simE_callF (FOk.comp fk rfl) h_law_holds (hr.le (by decide)) (simEs_cons (simE_name (FOk.comp fk rfl) "row" _) (simEs_cons (simE_sub (FOk.comp fk rfl) _ (simE_name (FOk.comp fk rfl) "slots" _) (simE_name (FOk.comp fk rfl) "q" _)) (simEs_cons (simE_sub (FOk.comp fk rfl) _ (simE_name (FOk.comp fk rfl) "kept" _) (simE_name (FOk.comp fk rfl) "q" _)) simEs_nil))))))) (fun l a => simA_emit (FOk.comp fk rfl) (simE_name (FOk.comp fk rfl) "q" _) l a))) (simE_list _ simEs_nil)))))))))))))

theorem has_all {K : Glo} (hp : ∀ d ∈ recsOf prg, d ∈ recsOf K.p) (hfree : ∀ x ∈ bltNames, K.mg (Str.ofString x) = none) : HasF K "law" 3 f_law := by
  have h_siftdown := has_f_siftdown hp hfree
  have h_siftup := has_f_siftup hp hfree h_siftdown
  have h_law_holds := has_f_law_holds hp hfree
  have hlaw := has_f_law hp hfree h_law_holds h_siftdown h_siftup
  exact hlaw

end Mine


/-! part P09 -/
set_option autoImplicit false
set_option linter.unusedVariables false
set_option linter.unusedSectionVars false
namespace Mine

/-! ### a heap's halves, level by level -/
noncomputable def pw (i : Nat) : Nat := 2 ^ (i + 1).log2
noncomputable def pos (q i : Nat) : Nat := pw i * q + i
theorem pw_pos (i : Nat) : 1 ≤ pw i := Nat.one_le_two_pow
theorem pw_left (i : Nat) : pw (2 * i + 1) = 2 * pw i := by
  unfold pw
  have : (2 * i + 1 + 1).log2 = (i + 1).log2 + 1 := by
    rw [Nat.log2_def, if_pos (by (first | lia | omega))]
    congr 2; (first | lia | omega)
  rw [this, Nat.pow_succ]; (first | lia | omega)
theorem pw_right (i : Nat) : pw (2 * i + 2) = 2 * pw i := by
  unfold pw
  have : (2 * i + 2 + 1).log2 = (i + 1).log2 + 1 := by
    rw [Nat.log2_def, if_pos (by (first | lia | omega))]
    congr 2; (first | lia | omega)
  rw [this, Nat.pow_succ]; (first | lia | omega)
theorem pos_zero (q : Nat) : pos q 0 = q := by
  unfold pos pw
  rw [show (0 + 1 : Nat).log2 = 0 by decide]; simp
theorem pos_left (q i : Nat) : pos q (2 * i + 1) = 2 * pos q i + 1 := by
  unfold pos; rw [pw_left, Nat.mul_assoc]; (first | lia | omega)
theorem pos_right (q i : Nat) : pos q (2 * i + 2) = 2 * pos q i + 2 := by
  unfold pos; rw [pw_right, Nat.mul_assoc]; (first | lia | omega)
theorem pos_ge (q i : Nat) : q + i ≤ pos q i := by
  unfold pos
  have := Nat.le_mul_of_pos_left q (pw_pos i)
  (first | lia | omega)
theorem pos_par (q i : Nat) (h : 0 < i) : (pos q i - 1) / 2 = pos q ((i - 1) / 2) := by
  rcases (show i = 2 * ((i - 1) / 2) + 1 ∨ i = 2 * ((i - 1) / 2) + 2 by (first | lia | omega)) with e | e
  · conv => lhs; rw [e, pos_left]
    (first | lia | omega)
  · conv => lhs; rw [e, pos_right]
    (first | lia | omega)
theorem pos_inj (q : Nat) : ∀ i j, pos q i = pos q j → i = j := by
  intro i
  induction i using Nat.strongRecOn with
  | _ i ih =>
    intro j h
    by_cases hi : i = 0
    · subst hi
      rw [pos_zero] at h
      have := pos_ge q j
      (first | lia | omega)
    · by_cases hj : j = 0
      · subst hj
        rw [pos_zero] at h
        have := pos_ge q i
        (first | lia | omega)
      · have h1 := pos_par q i (by (first | lia | omega))
        have h2 := pos_par q j (by (first | lia | omega))
        have h3 := ih ((i - 1) / 2) (by (first | lia | omega)) ((j - 1) / 2) (by rw [← h1, ← h2, h])
        rcases (show i = 2 * ((i - 1) / 2) + 1 ∨ i = 2 * ((i - 1) / 2) + 2 by (first | lia | omega)) with e | e <;>
          rcases (show j = 2 * ((j - 1) / 2) + 1 ∨ j = 2 * ((j - 1) / 2) + 2 by (first | lia | omega)) with e' | e'
        · (first | lia | omega)
        · rw [e, e', pos_left, pos_right, h3] at h; (first | lia | omega)
        · rw [e, e', pos_left, pos_right, h3] at h; (first | lia | omega)
        · (first | lia | omega)

section
variable {α : Type} [Inhabited α] {lt : α → α → Bool}

theorem ext_nth {xs ys : List α} (hl : xs.length = ys.length) (h : ∀ k, k < xs.length → nth xs k = nth ys k) : xs = ys := by
  apply List.ext_getElem hl
  intro k h1 h2
  have := h k h1
  rwa [nth_getElem h1, nth_getElem h2] at this

noncomputable def lay (q : Nat) (hs : List α) : Nat → List α → List α
  | 0, vs => vs
  | m + 1, vs => (lay q hs m vs).set (pos q m) (nth hs m)
theorem lay_length (q : Nat) (hs : List α) : ∀ (m : Nat) (vs : List α), (lay q hs m vs).length = vs.length
  | 0, _ => rfl
  | m + 1, vs => by rw [lay, List.length_set, lay_length q hs m vs]
theorem lay_in (q : Nat) (hs : List α) : ∀ (m : Nat) (vs : List α) (i : Nat), i < m → pos q i < vs.length → nth (lay q hs m vs) (pos q i) = nth hs i
  | 0, vs, i, h, _ => by (first | lia | omega)
  | m + 1, vs, i, h, hl => by
    rw [lay]
    by_cases e : i = m
    · subst e; rw [nth_set_self (by rw [lay_length]; exact hl)]
    · rw [nth_set_ne (fun x => e (pos_inj q _ _ x).symm)]
      exact lay_in q hs m vs i (by (first | lia | omega)) hl
theorem lay_out (q : Nat) (hs : List α) : ∀ (m : Nat) (vs : List α) (k : Nat), (∀ i, i < m → pos q i ≠ k) → nth (lay q hs m vs) k = nth vs k
  | 0, vs, k, _ => rfl
  | m + 1, vs, k, h => by
    rw [lay, nth_set_ne (h m (by (first | lia | omega)))]
    exact lay_out q hs m vs k fun i hi => h i (by (first | lia | omega))

/-- the half below q has m items -/
noncomputable def Half (n q m : Nat) : Prop := ∀ i, pos q i < n ↔ i < m

variable {n q m : Nat}
theorem lay_set {vs hs : List α} {i : Nat} {v : α} (hH : Half vs.length q m) (hl : hs.length = m) (hi : i < m) : (lay q hs m vs).set (pos q i) v = lay q (hs.set i v) m vs := by
  have hpi : pos q i < vs.length := (hH i).mpr hi
  apply ext_nth (by rw [List.length_set, lay_length, lay_length])
  intro k hk
  rw [List.length_set, lay_length] at hk
  by_cases hex : ∃ j, j < m ∧ pos q j = k
  · obtain ⟨j, hj, rfl⟩ := hex
    rw [lay_in q _ m vs j hj hk]
    by_cases e : i = j
    · subst e; rw [nth_set_self (by rw [lay_length]; exact hk), nth_set_self (by (first | lia | omega))]
    · rw [nth_set_ne (fun x => e (pos_inj q _ _ x)), lay_in q _ m vs j hj hk, nth_set_ne e]
  · have ho : ∀ j, j < m → pos q j ≠ k := fun j hj e => hex ⟨j, hj, e⟩
    rw [nth_set_ne (ho i hi), lay_out q _ m vs k ho, lay_out q _ m vs k ho]

theorem kid_lay {vs hs : List α} {i : Nat} (hH : Half vs.length q m) (hl : hs.length = m) (hi : 2 * i + 1 < m) : kid lt (lay q hs m vs) (pos q i) = pos q (kid lt hs i) := by
  have e1 := pos_left q i
  have e2 := pos_right q i
  have h1 := (hH (2 * i + 1)).mpr hi
  have h2 := hH (2 * i + 2)
  unfold kid
  rw [lay_length, hl]
  rw [e2] at h2
  by_cases hc : 2 * i + 2 < m
  · have h3 := h2.mpr hc
    have n1 : nth (lay q hs m vs) (2 * pos q i + 1) = nth hs (2 * i + 1) := by rw [← e1]; exact lay_in q hs m vs _ hi h1
    have n2 : nth (lay q hs m vs) (2 * pos q i + 2) = nth hs (2 * i + 2) := by rw [← e2]; exact lay_in q hs m vs _ hc (by rw [e2]; exact h3)
    rw [n1, n2]
    by_cases hb : lt (nth hs (2 * i + 1)) (nth hs (2 * i + 2)) = false
    · rw [if_pos ⟨h3, hb⟩, if_pos ⟨hc, hb⟩, e2]
    · rw [if_neg (fun x => hb x.2), if_neg (fun x => hb x.2), e1]
  · rw [if_neg (fun x => hc (h2.mp x.1)), if_neg (fun x => hc x.1), e1]

theorem down_lay (vs : List α) (hH : Half vs.length q m) : ∀ (k : Nat) (hs : List α) (i : Nat), hs.length = m → hs.length - i ≤ k → i < m →
    down lt (lay q hs m vs) (pos q i) = (lay q (down lt hs i).1 m vs, pos q (down lt hs i).2) := by
  intro k
  induction k with
  | zero => intro hs i hl hk hi; (first | lia | omega)
  | succ k ih =>
    intro hs i hl hk hi
    have e1 := pos_left q i
    have h1 := hH (2 * i + 1)
    rw [e1] at h1
    rw [down]
    conv => rhs; rw [down]
    by_cases hc : 2 * i + 1 < m
    · rw [dif_pos (by rw [lay_length]; exact h1.mpr hc), dif_pos (by rw [hl]; exact hc)]
      have hk1 := kid_gt lt hs i
      have hk2 : kid lt hs i < m := by rw [← hl]; exact kid_lt (by rw [hl]; exact hc)
      rw [kid_lay hH hl hc, lay_in q hs m vs _ hk2 ((hH _).mpr hk2), lay_set hH hl hi]
      exact ih _ _ (by rw [List.length_set]; exact hl) (by rw [List.length_set]; (first | lia | omega)) hk2
    · rw [dif_neg (by rw [lay_length]; exact fun x => hc (h1.mp x)), dif_neg (by rw [hl]; exact hc)]

theorem sd_lay (vs : List α) (hH : Half vs.length q m) (x : α) : ∀ (i : Nat) (hs : List α), hs.length = m → i < m →
    sd lt x q (lay q hs m vs) (pos q i) = lay q (sd lt x 0 hs i) m vs := by
  intro i
  induction i using Nat.strongRecOn with
  | _ i ih =>
    intro hs hl hi
    rw [sd]
    conv => rhs; rw [sd]
    by_cases h0 : 0 < i
    · have hge := pos_ge q i
      rw [dif_pos (by (first | lia | omega)), dif_pos h0, pos_par q i h0]
      have hp : (i - 1) / 2 < m := by (first | lia | omega)
      rw [lay_in q hs m vs _ hp ((hH _).mpr hp)]
      by_cases hb : lt x (nth hs ((i - 1) / 2)) = true
      · rw [if_pos hb, if_pos hb, lay_set hH hl hi]
        exact ih _ (by (first | lia | omega)) _ (by rw [List.length_set]; exact hl) hp
      · rw [if_neg hb, if_neg hb, lay_set hH hl hi]
    · have : i = 0 := by (first | lia | omega)
      subst this
      rw [dif_neg (by rw [pos_zero]; (first | lia | omega)), dif_neg (by (first | lia | omega)), lay_set hH hl hi]

/-- what stands at the hole is of no account -/
theorem sd_hole (x y : α) (s pos : Nat) (ws : List α) : sd lt x s (ws.set pos y) pos = sd lt x s ws pos := by
  rw [sd]
  conv => rhs; rw [sd]
  split
  · rw [nth_set_ne (by (first | lia | omega)), List.set_set, List.set_set]
  · rw [List.set_set]

end

end Mine


/-! part P01 -/
set_option autoImplicit false
set_option maxRecDepth 100000
set_option linter.unusedVariables false
set_option linter.unusedSimpArgs false
namespace Mine
section
variable {α : Type} [Inhabited α] {lt : α → α → Bool}

/-! ### the way up, where it comes out -/
noncomputable def wk (lt : α → α → Bool) (x : α) (s : Nat) (vs : List α) (pos : Nat) : List α × Nat :=
  if h : s < pos then
    if lt x (nth vs ((pos - 1) / 2)) = true then wk lt x s (vs.set pos (nth vs ((pos - 1) / 2))) ((pos - 1) / 2)
    else (vs, pos)
  else (vs, pos)
termination_by pos
decreasing_by (first | lia | omega)
theorem sd_wk (x : α) (s : Nat) : ∀ (pos : Nat) (vs : List α), sd lt x s vs pos = (wk lt x s vs pos).1.set (wk lt x s vs pos).2 x := by
  intro pos
  induction pos using Nat.strongRecOn with
  | _ pos ih =>
    intro vs
    rw [sd, wk]
    split
    · split
      · exact ih _ (by (first | lia | omega)) _
      · rfl
    · rfl
/-- what stands at the top stays there till the end -/
theorem wk_keep (x : α) (s : Nat) : ∀ (pos : Nat) (vs : List α) (j : Nat), j ≤ s → nth (wk lt x s vs pos).1 j = nth vs j := by
  intro pos
  induction pos using Nat.strongRecOn with
  | _ pos ih =>
    intro vs j hj
    rw [wk]
    split
    · split
      · rw [ih _ (by (first | lia | omega)) _ j hj, nth_set_ne (by (first | lia | omega))]
      · rfl
    · rfl
theorem wk_length (x : α) (s : Nat) : ∀ (pos : Nat) (vs : List α), (wk lt x s vs pos).1.length = vs.length := by
  intro pos
  induction pos using Nat.strongRecOn with
  | _ pos ih =>
    intro vs
    rw [wk]
    split
    · split
      · rw [ih _ (by (first | lia | omega)) _, List.length_set]
      · rfl
    · rfl
/-- at the top only if less than what stands there -/
theorem wk_zero (x : α) : ∀ (pos : Nat) (vs : List α), 0 < pos → (wk lt x 0 vs pos).2 = 0 → lt x (nth vs 0) = true := by
  intro pos
  induction pos using Nat.strongRecOn with
  | _ pos ih =>
    intro vs h0 h
    rw [wk, dif_pos h0] at h
    split at h
    · rename_i hlt
      by_cases hp : (pos - 1) / 2 = 0
      · rw [hp] at hlt; exact hlt
      · have := ih _ (by (first | lia | omega)) _ (by (first | lia | omega)) h
        rwa [nth_set_ne (by (first | lia | omega))] at this
    · dsimp only at h; (first | lia | omega)
/-- at the top if less than all -/
theorem wk_less (x : α) : ∀ (pos : Nat) (vs : List α), (∀ j, j < pos → lt x (nth vs j) = true) → (wk lt x 0 vs pos).2 = 0 := by
  intro pos
  induction pos using Nat.strongRecOn with
  | _ pos ih =>
    intro vs h
    rw [wk]
    split
    · rename_i h0
      rw [if_pos (h _ (by (first | lia | omega)))]
      exact ih _ (by (first | lia | omega)) _ fun j hj => by rw [nth_set_ne (by (first | lia | omega))]; exact h j (by (first | lia | omega))
    · dsimp only; (first | lia | omega)
theorem wk_lay {q m : Nat} (vs : List α) (hH : Half vs.length q m) (x : α) : ∀ (i : Nat) (hs : List α), hs.length = m → i < m →
    wk lt x q (lay q hs m vs) (pos q i) = (lay q (wk lt x 0 hs i).1 m vs, pos q (wk lt x 0 hs i).2) := by
  intro i
  induction i using Nat.strongRecOn with
  | _ i ih =>
    intro hs hl hi
    by_cases h0 : 0 < i
    · have hq : q < pos q i := by have := pos_ge q i; (first | lia | omega)
      have hpar := pos_par q i h0
      have hin : (i - 1) / 2 < m := by (first | lia | omega)
      have hn : nth (lay q hs m vs) (pos q ((i - 1) / 2)) = nth hs ((i - 1) / 2) := lay_in q hs m vs _ hin ((hH _).mpr hin)
      rw [wk, dif_pos hq, hpar, hn]
      conv => rhs; rw [wk, dif_pos h0]
      by_cases hlt : lt x (nth hs ((i - 1) / 2)) = true
      · rw [if_pos hlt, if_pos hlt, lay_set hH hl hi]
        exact ih _ (by (first | lia | omega)) _ (by rw [List.length_set]; exact hl) hin
      · rw [if_neg hlt, if_neg hlt]
    · have : i = 0 := by (first | lia | omega)
      subst this
      rw [wk, dif_neg (by rw [pos_zero]; (first | lia | omega))]
      conv => rhs; rw [wk, dif_neg (by (first | lia | omega))]
theorem su_lay {q m : Nat} (vs : List α) (hH : Half vs.length q m) (hs : List α) (hl : hs.length = m) (hm : 0 < m) : su lt (lay q hs m vs) q = lay q (su lt hs 0) m vs := by
  have h0 : nth (lay q hs m vs) q = nth hs 0 := by have := lay_in q hs m vs 0 hm ((hH _).mpr hm); rwa [pos_zero] at this
  have hd := down_lay (lt := lt) vs hH _ hs 0 hl (Nat.le_refl _) hm
  rw [pos_zero] at hd
  have hlt := down_pos_lt lt _ hs 0 (Nat.le_refl _) (by (first | lia | omega))
  have hdl := down_length lt _ hs 0 (Nat.le_refl _)
  unfold su
  rw [hd, h0]
  dsimp only
  rw [lay_set hH (by (first | lia | omega)) (by (first | lia | omega)), sd_lay vs hH _ _ _ (by rw [List.length_set]; (first | lia | omega)) (by (first | lia | omega))]

/-! ### places of the greatest behind -/
theorem sd_append (x : α) (s : Nat) (R : List α) : ∀ (p : Nat) (A : List α), p < A.length → sd lt x s (A ++ R) p = sd lt x s A p ++ R := by
  intro p
  induction p using Nat.strongRecOn with
  | _ p ih =>
    intro A hp
    rw [sd, nth_append_left (by (first | lia | omega))]
    conv => rhs; rw [sd]
    split
    · split
      · rw [List.set_append_left _ _ hp]
        exact ih _ (by (first | lia | omega)) _ (by rw [List.length_set]; (first | lia | omega))
      · rw [List.set_append_left _ _ hp]
    · rw [List.set_append_left _ _ hp]
/-- below p there are but greatest ones -/
theorem down_inf {inf x : α} (hx : lt x inf = true) (s : Nat) : ∀ (k : Nat) (ws : List α) (p : Nat), ws.length - p ≤ k → s ≤ p → (∀ j, 2 * p + 1 ≤ j → j < ws.length → nth ws j = inf) →
    sd lt x s (down lt ws p).1 (down lt ws p).2 = sd lt x s ws p := by
  intro k
  induction k with
  | zero =>
    intro ws p hk hs h
    rw [down, dif_neg (by (first | lia | omega))]
  | succ k ih =>
    intro ws p hk hs h
    by_cases hc : 2 * p + 1 < ws.length
    · have hk1 := kid_gt lt ws p
      have hk2 := kid_lt (lt := lt) hc
      have hk3 := kid_par lt ws p
      rw [down, dif_pos hc]
      have hcin : nth ws (kid lt ws p) = inf := h _ (by (first | lia | omega)) hk2
      rw [hcin, ih _ _ (by rw [List.length_set]; (first | lia | omega)) (by (first | lia | omega)) (fun j hj hl => by
        rw [List.length_set] at hl
        rw [nth_set_ne (by (first | lia | omega))]
        exact h j (by (first | lia | omega)) hl)]
      rw [sd, dif_pos (by (first | lia | omega)), hk3, nth_set_self (by (first | lia | omega)), if_pos hx]
      have e : ((ws.set p inf).set (kid lt ws p) inf) = ws.set p inf := by
        have := set_nth (vs := ws.set p inf) (i := kid lt ws p)
        rwa [nth_set_ne (by (first | lia | omega)), hcin] at this
      rw [e, sd_hole]
    · rw [down, dif_neg hc]
theorem nth_inf {A : List α} {inf : α} {n j : Nat} (h1 : A.length ≤ j) (h2 : j < A.length + n) : nth (A ++ List.replicate n inf) j = inf := by
  unfold nth
  rw [List.getElem?_append_right h1, List.getElem?_replicate, if_pos (by (first | lia | omega))]; rfl
theorem kid_inf {A : List α} {inf : α} {n p : Nat} (hA : ∀ a ∈ A, lt a inf = true) (hc : 2 * p + 1 < A.length) : kid lt (A ++ List.replicate n inf) p = kid lt A p := by
  unfold kid
  rw [nth_append_left hc]
  by_cases h2 : 2 * p + 2 < A.length
  · rw [nth_append_left h2]
    simp only [h2, List.length_append, List.length_replicate, true_and, show 2 * p + 2 < A.length + n from by (first | lia | omega)]
  · by_cases h3 : 2 * p + 2 < A.length + n
    · rw [nth_inf (by (first | lia | omega)) h3, hA _ (nth_mem hc)]
      simp
      (first | lia | omega)
    · simp only [List.length_append, List.length_replicate]
      rw [if_neg (by (first | lia | omega)), if_neg (by (first | lia | omega))]
theorem down_append {inf x : α} {n : Nat} (hx : lt x inf = true) (s : Nat) : ∀ (k : Nat) (A : List α) (p : Nat), A.length - p ≤ k → p < A.length → s ≤ p → (∀ a ∈ A, lt a inf = true) →
    sd lt x s (down lt (A ++ List.replicate n inf) p).1 (down lt (A ++ List.replicate n inf) p).2 = sd lt x s (down lt A p).1 (down lt A p).2 ++ List.replicate n inf := by
  intro k
  induction k with
  | zero => intro A p hk hp; (first | lia | omega)
  | succ k ih =>
    intro A p hk hp hs hA
    by_cases hc : 2 * p + 1 < A.length
    · have hk1 := kid_gt lt A p
      have hk2 := kid_lt (lt := lt) hc
      rw [down, dif_pos (by rw [List.length_append]; (first | lia | omega)), kid_inf hA hc, nth_append_left hk2, List.set_append_left _ _ hp]
      conv => rhs; rw [down, dif_pos hc]
      exact ih _ _ (by rw [List.length_set]; (first | lia | omega)) (by rw [List.length_set]; exact hk2) (by (first | lia | omega)) (all_set hA (hA _ (nth_mem hk2)))
    · rw [down_inf hx s _ _ p (Nat.le_refl _) hs (fun j h1 h2 => nth_inf (by (first | lia | omega)) (by rwa [List.length_append, List.length_replicate] at h2)), sd_append x s _ p A hp]
      conv => rhs; rw [down, dif_neg hc]
theorem su_append {inf : α} {n p : Nat} {A : List α} (hp : p < A.length) (hA : ∀ a ∈ A, lt a inf = true) : su lt (A ++ List.replicate n inf) p = su lt A p ++ List.replicate n inf := by
  unfold su
  rw [nth_append_left hp, sd_hole, sd_hole]
  exact down_append (hA _ (nth_mem hp)) p _ A p (Nat.le_refl _) hp (Nat.le_refl _) hA
end
end Mine


/-! part P01b -/
set_option autoImplicit false
set_option maxRecDepth 100000
set_option linter.unusedVariables false
set_option linter.unusedSimpArgs false
open PySem PySem.W PyProof.Rows
namespace Mine

/-! ### queues in a row -/
noncomputable def itm (n : Int) : V := tI [0, n]
noncomputable def inf : V := tI [1]
noncomputable def num : V → Int
  | .tup [_, .int n] => n
  | _ => 0
theorem itm_t1 (n : Int) : IsT1 (itm n) := ⟨_, by simp, rfl⟩
theorem inf_t1 : IsT1 inf := ⟨_, by simp, rfl⟩
theorem lt_itm (a b : Int) : ltT (itm a) (itm b) = decide (a < b) := by
  unfold itm
  rw [ltT_tI (by simp) (by simp)]
  by_cases h : a < b
  · simp [lexB, h, show ¬ a = b from by (first | lia | omega)]
  · simp [lexB, h]
theorem lt_inf (a : Int) : ltT (itm a) inf = true := by
  unfold itm inf
  rw [ltT_tI (by simp) (by simp)]
  simp [lexB]
theorem items_of {vs : List V} {ns : List Int} (h : vs.Perm (ns.map itm)) : ∃ ms : List Int, vs = ms.map itm ∧ ms.Perm ns := by
  refine ⟨vs.map num, ?_, ?_⟩
  · rw [List.map_map]
    symm
    calc vs.map (itm ∘ num) = vs.map id := by
          apply List.map_congr_left
          intro v hv
          obtain ⟨n, _, rfl⟩ := List.mem_map.mp (h.mem_iff.mp hv)
          rfl
      _ = vs := List.map_id _
  · have := h.map num
    rw [List.map_map] at this
    rwa [show (num ∘ itm) = id from rfl, List.map_id] at this
theorem map_t1 {ms : List Int} : ∀ a ∈ ms.map itm, IsT1 a := by
  intro a ha
  obtain ⟨n, _, rfl⟩ := List.mem_map.mp ha
  exact itm_t1 n
theorem map_inf {ms : List Int} : ∀ a ∈ ms.map itm, ltT a inf = true := by
  intro a ha
  obtain ⟨n, _, rfl⟩ := List.mem_map.mp ha
  exact lt_inf n

/-- fifteen places: the numbers ms, a heap, then free ones -/
noncomputable def lad (ms : List Int) : List V := ms.map itm ++ List.replicate (15 - ms.length) inf
noncomputable def Hp (ms : List Int) : Prop := HeapFrom ltT 0 (ms.map itm)
structure QOk (hs : List V) (ks : List Int) (ms : List Int) : Prop where
  eq : hs = lad ms
  len : ms.length ≤ 15
  perm : ms.Perm ks
  hp : Hp ms
theorem lad_length {ms : List Int} (h : ms.length ≤ 15) : (lad ms).length = 15 := by simp [lad]; (first | lia | omega)
theorem nth_lad {ms : List Int} {j : Nat} (h : j < ms.length) : nth (lad ms) j = itm (nth ms j) := by
  unfold lad
  rw [nth_append_left (by simpa using h)]
  unfold nth
  rw [List.getElem?_map, List.getElem?_eq_getElem h]; rfl
theorem nth_lad_inf {ms : List Int} {j : Nat} (h : ms.length ≤ j) (h2 : j < 15) : nth (lad ms) j = inf := by
  unfold lad
  exact nth_inf (by simpa using h) (by simp; (first | lia | omega))
theorem lad_t1 {ms : List Int} : ∀ a ∈ lad ms, IsT1 a := by
  intro a ha
  rcases List.mem_append.mp ha with h | h
  · exact map_t1 a h
  · rw [(List.mem_replicate.mp h).2]; exact inf_t1
theorem Hp.min {ms : List Int} (h : Hp ms) : ∀ j, j < ms.length → nth ms 0 ≤ nth ms j := by
  intro j hj
  have := heap_min swo_tup map_t1 h j (by simpa using hj)
  unfold nth at this ⊢
  rw [List.getElem?_map, List.getElem?_map, List.getElem?_eq_getElem hj, List.getElem?_eq_getElem (by (first | lia | omega))] at this
  rw [List.getElem?_eq_getElem hj, List.getElem?_eq_getElem (by (first | lia | omega))]
  simp only [Option.map_some, Option.getD_some, lt_itm, decide_eq_false_iff_not] at this ⊢
  (first | lia | omega)
theorem Hp.pair {ms : List Int} (h : Hp ms) : ∀ j, 0 < j → j < ms.length → nth ms ((j - 1) / 2) ≤ nth ms j := by
  intro j h0 hj
  have := h j h0 (by simpa using hj) (by (first | lia | omega))
  unfold nth at this ⊢
  rw [List.getElem?_map, List.getElem?_map, List.getElem?_eq_getElem hj, List.getElem?_eq_getElem (by (first | lia | omega))] at this
  rw [List.getElem?_eq_getElem hj, List.getElem?_eq_getElem (by (first | lia | omega))]
  simp only [Option.map_some, Option.getD_some, lt_itm, decide_eq_false_iff_not] at this ⊢
  (first | lia | omega)

/-! a new one -/
theorem lad_push {ms : List Int} (n : Int) (h : ms.length < 15) : (lad ms).set ms.length (itm n) = (ms.map itm ++ [itm n]) ++ List.replicate (14 - ms.length) inf := by
  unfold lad
  rw [List.set_append_right _ _ (by simp), show 15 - ms.length = (14 - ms.length) + 1 by (first | lia | omega), List.replicate_succ]
  simp
theorem push_que {ms ks : List Int} {n : Int} (h : ms.length < 15) (hp : Hp ms) (pk : ms.Perm ks) : ∃ ms', QOk (sd ltT (itm n) 0 ((lad ms).set ms.length (itm n)) ms.length) (ks ++ [n]) ms' := by
  have e : sd ltT (itm n) 0 ((lad ms).set ms.length (itm n)) ms.length = hpush ltT (ms.map itm) (itm n) ++ List.replicate (14 - ms.length) inf := by
    rw [lad_push n h, sd_append _ _ _ _ _ (by simp)]
    unfold hpush
    rw [List.length_map]
  have p := hpush_perm ltT (ms.map itm) (itm n)
  rw [show ms.map itm ++ [itm n] = (ms ++ [n]).map itm by simp] at p
  obtain ⟨ms', e1, e2⟩ := items_of p
  have hl : ms'.length = ms.length + 1 := by rw [e2.length_eq]; simp
  refine ⟨ms', ?_, by (first | lia | omega), e2.trans (pk.append_right _), ?_⟩
  · rw [e, e1]; unfold lad; rw [show 15 - ms'.length = 14 - ms.length by (first | lia | omega)]
  · have := hpush_heap swo_tup map_t1 (itm_t1 n) hp
    unfold Hp; rwa [e1] at this
/-! a lower one -/
theorem lower_que {ms ks : List Int} {n : Int} {k : Nat} (hk : k < ms.length) (hl : ms.length ≤ 15) (hp : Hp ms) (hn : n ≤ nth ms k) (pk : (ms.set k n).Perm ks) : ∃ ms', QOk (sd ltT (itm n) 0 ((lad ms).set k (itm n)) k) ks ms' := by
  have e0 : (lad ms).set k (itm n) = (ms.map itm).set k (itm n) ++ List.replicate (15 - ms.length) inf := by
    unfold lad; rw [List.set_append_left _ _ (by simpa using hk)]
  have e : sd ltT (itm n) 0 ((lad ms).set k (itm n)) k = sd ltT (itm n) 0 ((ms.map itm).set k (itm n)) k ++ List.replicate (15 - ms.length) inf := by
    rw [e0, sd_append _ _ _ _ _ (by simpa using hk)]
  have p := sd_perm ltT (itm n) 0 k ((ms.map itm).set k (itm n)) (by simpa using hk)
  rw [List.set_set, show (ms.map itm).set k (itm n) = (ms.set k n).map itm by rw [List.map_set]] at p
  obtain ⟨ms', e1, e2⟩ := items_of p
  have hl' : ms'.length = ms.length := by rw [e2.length_eq]; simp
  refine ⟨ms', ?_, by (first | lia | omega), e2.trans pk, ?_⟩
  · rw [e, show (ms.map itm).set k (itm n) = (ms.set k n).map itm by rw [List.map_set], e1]; unfold lad; rw [hl']
  · have hk' : k < (ms.map itm).length := by simpa using hk
    have hnk : nth (ms.map itm) k = itm (nth ms k) := by unfold nth; rw [List.getElem?_map, List.getElem?_eq_getElem hk]; rfl
    have := sd_heap swo_tup (itm n) 0 (itm_t1 n) k ((ms.map itm).set k (itm n)) (all_set map_t1 (itm_t1 n)) ?_ ?_
    · unfold Hp; rwa [show (ms.map itm).set k (itm n) = (ms.set k n).map itm by rw [List.map_set], e1] at this
    · refine Hole.set ⟨?_, ?_, desc_zero _, hk'⟩ _
      · intro j h0 hl hs h1 h2
        exact hp j h0 hl (by (first | lia | omega))
      · intro hk0 j h0 hl hp'
        have h1 := hp j h0 hl (by (first | lia | omega))
        rw [hp'] at h1
        have h2 := hp k hk0 hk' (by (first | lia | omega))
        exact swo_tup.trans _ _ _ (map_t1 _ (nth_mem (by (first | lia | omega)))) (map_t1 _ (nth_mem hk')) (map_t1 _ (nth_mem hl)) h2 h1
    · intro j h0 hlj hp'
      rw [List.length_set] at hlj
      rw [nth_set_ne (by (first | lia | omega))]
      have h1 := hp j h0 hlj (by (first | lia | omega))
      rw [hp'] at h1
      refine swo_tup.trans _ _ _ (itm_t1 n) (map_t1 _ (nth_mem hk')) (map_t1 _ (nth_mem hlj)) ?_ h1
      rw [hnk, lt_itm]; simp; (first | lia | omega)
theorem pop_que {ms ks : List Int} (h1 : 1 < ms.length) (hl : ms.length ≤ 15) (hp : Hp ms) (pk : (ms.erase (nth ms 0)).Perm ks) : ∃ ms', QOk (su ltT (((lad ms).set (ms.length - 1) inf).set 0 (itm (nth ms (ms.length - 1)))) 0) ks ms' := by
  have hlm : (ms.map itm).length = ms.length := by simp
  have hlast : nth (ms.map itm) (ms.length - 1) = itm (nth ms (ms.length - 1)) := by unfold nth; rw [List.getElem?_map, List.getElem?_eq_getElem (by (first | lia | omega))]; rfl
  have h0 : nth (ms.map itm) 0 = itm (nth ms 0) := by unfold nth; rw [List.getElem?_map, List.getElem?_eq_getElem (by (first | lia | omega))]; rfl
  have e0 : ((lad ms).set (ms.length - 1) inf) = (ms.map itm).eraseIdx (ms.length - 1) ++ List.replicate (16 - ms.length) inf := by
    unfold lad
    rw [List.set_append_left _ _ (by rw [hlm]; (first | lia | omega))]
    conv => lhs; rw [← eraseLast_append (vs := ms.map itm) (by (first | lia | omega))]
    rw [hlm, List.set_append_right _ _ (by rw [List.length_eraseIdx, hlm, if_pos (by (first | lia | omega))]; exact Nat.le_refl _), List.length_eraseIdx, hlm, if_pos (by (first | lia | omega)), Nat.sub_self, List.set_cons_zero, List.append_assoc,
      show 16 - ms.length = (15 - ms.length) + 1 by (first | lia | omega), List.replicate_succ]
    rfl
  have hel : ((ms.map itm).eraseIdx (ms.length - 1)).length = ms.length - 1 := by rw [List.length_eraseIdx, hlm, if_pos (by (first | lia | omega))]
  have hall : ∀ a ∈ ((ms.map itm).eraseIdx (ms.length - 1)).set 0 (itm (nth ms (ms.length - 1))), ltT a inf = true :=
    all_set (fun a ha => map_inf a (List.mem_of_mem_eraseIdx ha)) (lt_inf _)
  rw [e0, List.set_append_left _ _ (by (first | lia | omega)), su_append (by rw [List.length_set]; (first | lia | omega)) hall]
  have e2 : hpop ltT (ms.map itm) = (itm (nth ms 0), su ltT (((ms.map itm).eraseIdx (ms.length - 1)).set 0 (itm (nth ms (ms.length - 1)))) 0) := by
    unfold hpop
    rw [if_neg (by (first | lia | omega)), hlm, hlast, h0]
  have p := hpop_perm ltT (vs := ms.map itm) (by (first | lia | omega))
  have hh := hpop_heap swo_tup (vs := ms.map itm) map_t1 (by (first | lia | omega)) hp
  rw [e2] at p hh
  dsimp only at p hh
  have p2 : (su ltT (((ms.map itm).eraseIdx (ms.length - 1)).set 0 (itm (nth ms (ms.length - 1)))) 0).Perm ((ms.erase (nth ms 0)).map itm) := by
    have : (ms.map itm).Perm (itm (nth ms 0) :: (ms.erase (nth ms 0)).map itm) := by
      have := (List.perm_cons_erase (nth_mem (vs := ms) (i := 0) (by (first | lia | omega)))).map itm
      exact this
    exact List.Perm.cons_inv (p.trans this)
  obtain ⟨ms', e3, e4⟩ := items_of p2
  have hl' : ms'.length = ms.length - 1 := by rw [e4.length_eq, List.length_erase_of_mem (nth_mem (by (first | lia | omega)))]
  refine ⟨ms', ?_, by (first | lia | omega), e4.trans pk, ?_⟩
  · rw [e3]; unfold lad; rw [show 15 - ms'.length = 16 - ms.length by (first | lia | omega)]
  · unfold Hp; rwa [e3] at hh
end Mine


/-! part P01c -/
set_option autoImplicit false
set_option maxRecDepth 100000
set_option linter.unusedVariables false
set_option linter.unusedSimpArgs false
open PySem PySem.W PyProof.Rows
namespace Mine

/-! ### four queues in a row of 63 places -/
theorem half15 {q : Nat} (hq : q < 4) : Half 63 (q + 3) 15 := by
  intro i
  by_cases h : i < 15
  · have : ∀ q, q < 4 → ∀ i, i < 15 → pos (q + 3) i < 63 := by decide +kernel
    exact ⟨fun _ => h, fun _ => this q hq i h⟩
  · refine ⟨fun h1 => ?_, fun h1 => absurd h1 h⟩
    have h2 : 4 ≤ (i + 1).log2 := (Nat.le_log2 (by (first | lia | omega))).mpr (by (first | lia | omega))
    have h3 : 2 ^ 4 ≤ pw i := Nat.pow_le_pow_right (by (first | lia | omega)) h2
    have h4 : 16 * (q + 3) ≤ pw i * (q + 3) := Nat.mul_le_mul_right _ h3
    unfold pos at h1
    (first | lia | omega)
theorem pos_apart : ∀ q, q < 4 → ∀ q', q' < 4 → q ≠ q' → ∀ i, i < 15 → ∀ i', i' < 15 → pos (q + 3) i ≠ pos (q' + 3) i' := by decide +kernel
theorem pos_ge3 (q i : Nat) : 3 ≤ pos (q + 3) i := by have := pos_ge (q + 3) i; (first | lia | omega)
noncomputable def upd (mss : Nat → List Int) (q : Nat) (ms : List Int) : Nat → List Int := fun p => if p = q then ms else mss p
structure RowOk (row : List V) (mss : Nat → List Int) : Prop where
  len : row.length = 63
  non : ∀ j, j < 3 → nth row j = .none
  que : ∀ q, q < 4 → ∀ i, i < 15 → nth row (pos (q + 3) i) = nth (lad (mss q)) i
  le : ∀ q, q < 4 → (mss q).length ≤ 15
  hp : ∀ q, q < 4 → Hp (mss q)
section
variable {row : List V} {mss : Nat → List Int} {q : Nat}
theorem RowOk.half (R : RowOk row mss) (hq : q < 4) : Half row.length (q + 3) 15 := by rw [R.len]; exact half15 hq
theorem RowOk.lay (R : RowOk row mss) (hq : q < 4) : Mine.lay (q + 3) (lad (mss q)) 15 row = row := by
  refine ext_nth (lay_length ..) fun k hk => ?_
  rw [lay_length] at hk
  by_cases h : ∃ i, i < 15 ∧ pos (q + 3) i = k
  · obtain ⟨i, hi, rfl⟩ := h
    rw [lay_in _ _ _ _ i hi hk, R.que q hq i hi]
  · exact lay_out _ _ _ _ _ fun i hi e => h ⟨i, hi, e⟩
theorem RowOk.upd (R : RowOk row mss) (hq : q < 4) {ms ks : List Int} {hs : List V} (Q : QOk hs ks ms) : RowOk (Mine.lay (q + 3) hs 15 row) (upd mss q ms) where
  len := by rw [lay_length]; exact R.len
  non := fun j hj => by rw [lay_out _ _ _ _ _ fun i hi e => by have := pos_ge3 q i; (first | lia | omega)]; exact R.non j hj
  que := fun p hp i hi => by
    unfold Mine.upd
    by_cases e : p = q
    · subst e
      rw [if_pos rfl, lay_in _ _ _ _ i hi ((R.half hq i).mpr hi), Q.eq]
    · rw [if_neg e, lay_out _ _ _ _ _ fun i' hi' e' => pos_apart q hq p hp (Ne.symm e) i' hi' i hi e']
      exact R.que p hp i hi
  le := fun p hp => by unfold Mine.upd; split; exact Q.len; exact R.le p hp
  hp := fun p hp => by unfold Mine.upd; split; exact Q.hp; exact R.hp p hp
theorem RowOk.set (R : RowOk row mss) (hq : q < 4) {k : Nat} (hk : k < 15) (x : V) : row.set (pos (q + 3) k) x = Mine.lay (q + 3) ((lad (mss q)).set k x) 15 row := by
  conv => lhs; rw [← R.lay hq]
  exact lay_set (R.half hq) (lad_length (R.le q hq)) hk
/-- the places of a queue's tree -/
noncomputable def Tr (t j : Nat) : Prop := ∃ i, j = pos t i
theorem Tr.self (t i : Nat) : Tr t (pos t i) := ⟨i, rfl⟩
theorem Tr.up {t j : Nat} (h : Tr t j) (hj : t < j) : Tr t ((j - 1) / 2) := by
  obtain ⟨i, rfl⟩ := h
  refine ⟨(i - 1) / 2, pos_par t i ?_⟩
  rcases Nat.eq_zero_or_pos i with rfl | h
  · rw [pos_zero] at hj; (first | lia | omega)
  · exact h
theorem Tr.kid {t j c : Nat} (h : Tr t j) (hc : c = 2 * j + 1 ∨ c = 2 * j + 2) : Tr t c := by
  obtain ⟨i, rfl⟩ := h
  rcases hc with rfl | rfl
  · exact ⟨_, (pos_left t i).symm⟩
  · exact ⟨_, (pos_right t i).symm⟩
theorem Tr.ge {t j : Nat} (h : Tr t j) : t ≤ j := by
  obtain ⟨i, rfl⟩ := h
  have := pos_ge t i; (first | lia | omega)
theorem tr_t1 (hq : q < 4) (hl : row.length = 63) {hs : List V} (h15 : hs.length = 15) (hT : ∀ a ∈ hs, IsT1 a) : ∀ j, Tr (q + 3) j → j < (Mine.lay (q + 3) hs 15 row).length → IsT1 (nth (Mine.lay (q + 3) hs 15 row) j) := by
  rintro j ⟨i, rfl⟩ hj
  rw [lay_length, hl] at hj
  have hi := (half15 hq i).mp hj
  rw [lay_in _ _ _ _ i hi (by rw [hl]; exact hj)]
  exact hT _ (nth_mem (by (first | lia | omega)))
end
end Mine


/-! part H11 -/
set_option autoImplicit false
set_option maxRecDepth 100000
set_option linter.unusedVariables false
set_option linter.unusedSimpArgs false
open PySem PySem.W PyProof.Rows
namespace Mine

/-! ### the heap functions, where items stand at the places D alone -/
variable {P : V → Prop} {lt : V → V → Bool} {D : Nat → Prop}

theorem set_D {ws : List V} {k : Nat} {x : V} (h : ∀ j, D j → j < ws.length → P (nth ws j)) (hx : P x) : ∀ j, D j → j < (ws.set k x).length → P (nth (ws.set k x) j) := by
  intro j hj hl
  rw [List.length_set] at hl
  by_cases e : k = j
  · subst e; rw [nth_set_self hl]; exact hx
  · rw [nth_set_ne e]; exact h j hj hl
structure SdJ (D : Nat → Prop) (st : Store) (l s : Nat) (vs : List V) (x : V) (P : V → Prop) (lt : V → V → Bool) (out : List V) (k : Nat) (σ : S) (ws : List V) : Prop where
  h1 : σ.lo "heap" = some (.obj l)
  h2 : σ.lo "startpos" = some (.int s)
  h3 : σ.lo "newitem" = some x
  h4 : σ.lo "pos" = some (.int (k : Nat))
  h5 : σ.st = st.set l (.lst ws)
  h6 : k < ws.length
  h7 : ∀ j, D j → j < ws.length → P (nth ws j)
  h8 : ws.length = vs.length
  h9 : sd lt x s ws k = out
  h10 : D k

theorem siftdown_specD {st : Store} {l : Nat} {vs : List V} {s p : Nat} (hl : st[l]? = some (.lst vs)) (hl0 : l ≠ 0) (hp : p < vs.length) (hn : vs.length ≤ 4000) (hDp : D p) (hD : ∀ j, D j → s < j → D ((j - 1) / 2)) (hP : ∀ j, D j → j < vs.length → P (nth vs j)) (hlt : LtAtL st l P lt) :
    f_siftdown [.obj l, .int s, .int p] st = .ok .none (st.set l (.lst (sd lt (nth vs p) s vs p))) := by
  refine funM_of rfl ?_
  generalize hO : sd lt (nth vs p) s vs p = out
  have hPx : P (nth vs p) := hP _ hDp hp
  unfold siftdown_m
  apply w_seq
  ((repeat (first | (with_reducible first | apply w_as | apply w_pure | apply w_set | apply w_tru | apply w_add | apply w_sub | apply w_lt | apply w_gt | apply w_t | apply w_f | apply w_if | apply e_pure | apply e_set | apply e_tru | apply q_cond | apply w_ge | apply w_le | apply w_neg | apply w_eq | apply w_ne) | ((with_reducible first | apply w_get | apply e_get); · first | exact rfl | assumption))); try with_reducible apply w_end)
  refine w_getN (by exact hl) rfl hp ?_
  ((repeat (first | (with_reducible first | apply w_as | apply w_pure | apply w_set | apply w_tru | apply w_add | apply w_sub | apply w_lt | apply w_gt | apply w_t | apply w_f | apply w_if | apply e_pure | apply e_set | apply e_tru | apply q_cond | apply w_ge | apply w_le | apply w_neg | apply w_eq | apply w_ne) | ((with_reducible first | apply w_get | apply e_get); · first | exact rfl | assumption))); try with_reducible apply w_end)
  apply w_seq
  refine MW_while (fun k σ => ∃ ws, SdJ D st l s vs (nth vs p) P lt out k σ ws) ?_ 4096 p _ (by (first | lia | omega)) ⟨vs, rfl, rfl, rfl, rfl, (set_id hl).symm, hp, hP, rfl, hO, hDp⟩
  rintro k σ ⟨ws, h1, h2, h3, h4, h5, h6, h7, h8, h9, h10⟩
  have hg : σ.st[l]? = some (.lst ws) := by rw [h5]; exact set_get hl
  clear hO
  have hset : ∀ us, σ.st.set l (.lst us) = st.set l (.lst us) := fun us => by rw [h5, List.set_set]
  rw [sd] at h9
  unfold siftdown_w1_c siftdown_w1_b
  ((repeat (first | (with_reducible first | apply w_as | apply w_pure | apply w_set | apply w_tru | apply w_add | apply w_sub | apply w_lt | apply w_gt | apply w_t | apply w_f | apply w_if | apply e_pure | apply e_set | apply e_tru | apply q_cond | apply w_ge | apply w_le | apply w_neg | apply w_eq | apply w_ne) | ((with_reducible first | apply w_get | apply e_get); · first | exact rfl | assumption))); try with_reducible apply w_end)
  split
  · rename_i hlt'
    have hsk : s < k := by have := of_decide_eq_true hlt'; (first | lia | omega)
    have hq : (k - 1) / 2 < ws.length := by (first | lia | omega)
    rw [dif_pos hsk] at h9
    apply w_seq
    ((repeat (first | (with_reducible first | apply w_as | apply w_pure | apply w_set | apply w_tru | apply w_add | apply w_sub | apply w_lt | apply w_gt | apply w_t | apply w_f | apply w_if | apply e_pure | apply e_set | apply e_tru | apply q_cond | apply w_ge | apply w_le | apply w_neg | apply w_eq | apply w_ne) | ((with_reducible first | apply w_get | apply e_get); · first | exact rfl | assumption))); try with_reducible apply w_end)
    refine MW_shr.mpr ⟨by (first | lia | omega), ?_⟩
    have ek : ((k : Int) - 1) / 2 = (((k - 1) / 2 : Nat) : Int) := by (first | lia | omega)
    rw [ek]
    ((repeat (first | (with_reducible first | apply w_as | apply w_pure | apply w_set | apply w_tru | apply w_add | apply w_sub | apply w_lt | apply w_gt | apply w_t | apply w_f | apply w_if | apply e_pure | apply e_set | apply e_tru | apply q_cond | apply w_ge | apply w_le | apply w_neg | apply w_eq | apply w_ne) | ((with_reducible first | apply w_get | apply e_get); · first | exact rfl | assumption))); try with_reducible apply w_end)
    apply w_seq
    ((repeat (first | (with_reducible first | apply w_as | apply w_pure | apply w_set | apply w_tru | apply w_add | apply w_sub | apply w_lt | apply w_gt | apply w_t | apply w_f | apply w_if | apply e_pure | apply e_set | apply e_tru | apply q_cond | apply w_ge | apply w_le | apply w_neg | apply w_eq | apply w_ne) | ((with_reducible first | apply w_get | apply e_get); · first | exact rfl | assumption))); try with_reducible apply w_end)
    refine w_getN (by exact hg) rfl hq ?_
    ((repeat (first | (with_reducible first | apply w_as | apply w_pure | apply w_set | apply w_tru | apply w_add | apply w_sub | apply w_lt | apply w_gt | apply w_t | apply w_f | apply w_if | apply e_pure | apply e_set | apply e_tru | apply q_cond | apply w_ge | apply w_le | apply w_neg | apply w_eq | apply w_ne) | ((with_reducible first | apply w_get | apply e_get); · first | exact rfl | assumption))); try with_reducible apply w_end)
    apply w_seq
    ((repeat (first | (with_reducible first | apply w_as | apply w_pure | apply w_set | apply w_tru | apply w_add | apply w_sub | apply w_lt | apply w_gt | apply w_t | apply w_f | apply w_if | apply e_pure | apply e_set | apply e_tru | apply q_cond | apply w_ge | apply w_le | apply w_neg | apply w_eq | apply w_ne) | ((with_reducible first | apply w_get | apply e_get); · first | exact rfl | assumption))); try with_reducible apply w_end)
    have hPy : P (nth ws ((k - 1) / 2)) := h7 _ (hD _ h10 hsk) hq
    refine (MW_ltP hlt (by exact h5) hPx hPy).mpr ?_
    ((repeat (first | (with_reducible first | apply w_as | apply w_pure | apply w_set | apply w_tru | apply w_add | apply w_sub | apply w_lt | apply w_gt | apply w_t | apply w_f | apply w_if | apply e_pure | apply e_set | apply e_tru | apply q_cond | apply w_ge | apply w_le | apply w_neg | apply w_eq | apply w_ne) | ((with_reducible first | apply w_get | apply e_get); · first | exact rfl | assumption))); try with_reducible apply w_end)
    split
    · rename_i hc
      rw [if_pos hc] at h9
      apply w_seq
      ((repeat (first | (with_reducible first | apply w_as | apply w_pure | apply w_set | apply w_tru | apply w_add | apply w_sub | apply w_lt | apply w_gt | apply w_t | apply w_f | apply w_if | apply e_pure | apply e_set | apply e_tru | apply q_cond | apply w_ge | apply w_le | apply w_neg | apply w_eq | apply w_ne) | ((with_reducible first | apply w_get | apply e_get); · first | exact rfl | assumption))); try with_reducible apply w_end)
      refine (MW_setI (by exact hg) hl0 rfl h6).mpr ?_
      ((repeat (first | (with_reducible first | apply w_as | apply w_pure | apply w_set | apply w_tru | apply w_add | apply w_sub | apply w_lt | apply w_gt | apply w_t | apply w_f | apply w_if | apply e_pure | apply e_set | apply e_tru | apply q_cond | apply w_ge | apply w_le | apply w_neg | apply w_eq | apply w_ne) | ((with_reducible first | apply w_get | apply e_get); · first | exact rfl | assumption))); try with_reducible apply w_end)
      apply w_seq
      ((repeat (first | (with_reducible first | apply w_as | apply w_pure | apply w_set | apply w_tru | apply w_add | apply w_sub | apply w_lt | apply w_gt | apply w_t | apply w_f | apply w_if | apply e_pure | apply e_set | apply e_tru | apply q_cond | apply w_ge | apply w_le | apply w_neg | apply w_eq | apply w_ne) | ((with_reducible first | apply w_get | apply e_get); · first | exact rfl | assumption))); try with_reducible apply w_end)
      exact ⟨(k - 1) / 2, by (first | lia | omega), ws.set k (nth ws ((k - 1) / 2)), h1, h2, h3, rfl, hset _, by rw [List.length_set]; exact hq, set_D h7 hPy, by rw [List.length_set]; exact h8, h9, hD _ h10 hsk⟩
    · rename_i hc
      rw [if_neg hc] at h9
      ((repeat (first | (with_reducible first | apply w_as | apply w_pure | apply w_set | apply w_tru | apply w_add | apply w_sub | apply w_lt | apply w_gt | apply w_t | apply w_f | apply w_if | apply e_pure | apply e_set | apply e_tru | apply q_cond | apply w_ge | apply w_le | apply w_neg | apply w_eq | apply w_ne) | ((with_reducible first | apply w_get | apply e_get); · first | exact rfl | assumption))); try with_reducible apply w_end)
      refine (MW_setI (by exact hg) hl0 rfl h6).mpr ?_
      ((repeat (first | (with_reducible first | apply w_as | apply w_pure | apply w_set | apply w_tru | apply w_add | apply w_sub | apply w_lt | apply w_gt | apply w_t | apply w_f | apply w_if | apply e_pure | apply e_set | apply e_tru | apply q_cond | apply w_ge | apply w_le | apply w_neg | apply w_eq | apply w_ne) | ((with_reducible first | apply w_get | apply e_get); · first | exact rfl | assumption))); try with_reducible apply w_end)
      exact ⟨rfl, h9 ▸ hset _⟩
  · rename_i hlt'
    rw [dif_neg (by intro h; exact hlt' (decide_eq_true (by (first | lia | omega))))] at h9
    ((repeat (first | (with_reducible first | apply w_as | apply w_pure | apply w_set | apply w_tru | apply w_add | apply w_sub | apply w_lt | apply w_gt | apply w_t | apply w_f | apply w_if | apply e_pure | apply e_set | apply e_tru | apply q_cond | apply w_ge | apply w_le | apply w_neg | apply w_eq | apply w_ne) | ((with_reducible first | apply w_get | apply e_get); · first | exact rfl | assumption))); try with_reducible apply w_end)
    refine (MW_setI (by exact hg) hl0 rfl h6).mpr ?_
    ((repeat (first | (with_reducible first | apply w_as | apply w_pure | apply w_set | apply w_tru | apply w_add | apply w_sub | apply w_lt | apply w_gt | apply w_t | apply w_f | apply w_if | apply e_pure | apply e_set | apply e_tru | apply q_cond | apply w_ge | apply w_le | apply w_neg | apply w_eq | apply w_ne) | ((with_reducible first | apply w_get | apply e_get); · first | exact rfl | assumption))); try with_reducible apply w_end)
    exact ⟨rfl, h9 ▸ hset _⟩

structure SuJ (D : Nat → Prop) (st : Store) (l p : Nat) (vs : List V) (P : V → Prop) (lt : V → V → Bool) (out : List V × Nat) (k : Nat) (σ : S) (ws : List V) (q : Nat) : Prop where
  h1 : σ.lo "heap" = some (.obj l)
  h2 : σ.lo "endpos" = some (.int vs.length)
  h3 : σ.lo "startpos" = some (.int p)
  h4 : σ.lo "newitem" = some (nth vs p)
  h5 : σ.lo "pos" = some (.int (q : Nat))
  h6 : σ.lo "childpos" = some (.int (2 * (q : Int) + 1))
  h7 : σ.st = st.set l (.lst ws)
  h8 : q < ws.length
  h9 : ∀ j, D j → j < ws.length → P (nth ws j)
  h10 : ws.length = vs.length
  h11 : down lt ws q = out
  h12 : k = vs.length - q
  h13 : D q

theorem siftup_specD {st : Store} {l : Nat} {vs : List V} {p : Nat} (hl : st[l]? = some (.lst vs)) (hl0 : l ≠ 0) (hp : p < vs.length) (hn : vs.length ≤ 4000) (hDp : D p) (hD : ∀ j, D j → p < j → D ((j - 1) / 2)) (hK : ∀ j c, D j → (c = 2 * j + 1 ∨ c = 2 * j + 2) → D c) (hP : ∀ j, D j → j < vs.length → P (nth vs j)) (hlt : LtAtL st l P lt) :
    f_siftup [.obj l, .int p] st = .ok .none (st.set l (.lst (su lt vs p))) := by
  refine funM_of rfl ?_
  unfold su
  generalize hO : down lt vs p = out
  have hPx : P (nth vs p) := hP _ hDp hp
  unfold siftup_m
  apply w_seq
  ((repeat (first | (with_reducible first | apply w_as | apply w_pure | apply w_set | apply w_tru | apply w_add | apply w_sub | apply w_lt | apply w_gt | apply w_t | apply w_f | apply w_if | apply e_pure | apply e_set | apply e_tru | apply q_cond | apply w_ge | apply w_le | apply w_neg | apply w_eq | apply w_ne) | ((with_reducible first | apply w_get | apply e_get); · first | exact rfl | assumption))); try with_reducible apply w_end)
  refine (MW_len (by exact hl)).mpr ?_
  ((repeat (first | (with_reducible first | apply w_as | apply w_pure | apply w_set | apply w_tru | apply w_add | apply w_sub | apply w_lt | apply w_gt | apply w_t | apply w_f | apply w_if | apply e_pure | apply e_set | apply e_tru | apply q_cond | apply w_ge | apply w_le | apply w_neg | apply w_eq | apply w_ne) | ((with_reducible first | apply w_get | apply e_get); · first | exact rfl | assumption))); try with_reducible apply w_end)
  apply w_seq
  ((repeat (first | (with_reducible first | apply w_as | apply w_pure | apply w_set | apply w_tru | apply w_add | apply w_sub | apply w_lt | apply w_gt | apply w_t | apply w_f | apply w_if | apply e_pure | apply e_set | apply e_tru | apply q_cond | apply w_ge | apply w_le | apply w_neg | apply w_eq | apply w_ne) | ((with_reducible first | apply w_get | apply e_get); · first | exact rfl | assumption))); try with_reducible apply w_end)
  apply w_seq
  ((repeat (first | (with_reducible first | apply w_as | apply w_pure | apply w_set | apply w_tru | apply w_add | apply w_sub | apply w_lt | apply w_gt | apply w_t | apply w_f | apply w_if | apply e_pure | apply e_set | apply e_tru | apply q_cond | apply w_ge | apply w_le | apply w_neg | apply w_eq | apply w_ne) | ((with_reducible first | apply w_get | apply e_get); · first | exact rfl | assumption))); try with_reducible apply w_end)
  refine w_getN (by exact hl) rfl hp ?_
  ((repeat (first | (with_reducible first | apply w_as | apply w_pure | apply w_set | apply w_tru | apply w_add | apply w_sub | apply w_lt | apply w_gt | apply w_t | apply w_f | apply w_if | apply e_pure | apply e_set | apply e_tru | apply q_cond | apply w_ge | apply w_le | apply w_neg | apply w_eq | apply w_ne) | ((with_reducible first | apply w_get | apply e_get); · first | exact rfl | assumption))); try with_reducible apply w_end)
  apply w_seq
  ((repeat (first | (with_reducible first | apply w_as | apply w_pure | apply w_set | apply w_tru | apply w_add | apply w_sub | apply w_lt | apply w_gt | apply w_t | apply w_f | apply w_if | apply e_pure | apply e_set | apply e_tru | apply q_cond | apply w_ge | apply w_le | apply w_neg | apply w_eq | apply w_ne) | ((with_reducible first | apply w_get | apply e_get); · first | exact rfl | assumption))); try with_reducible apply w_end)
  refine MW_mul.mpr ⟨by (first | lia | omega), ?_⟩
  ((repeat (first | (with_reducible first | apply w_as | apply w_pure | apply w_set | apply w_tru | apply w_add | apply w_sub | apply w_lt | apply w_gt | apply w_t | apply w_f | apply w_if | apply e_pure | apply e_set | apply e_tru | apply q_cond | apply w_ge | apply w_le | apply w_neg | apply w_eq | apply w_ne) | ((with_reducible first | apply w_get | apply e_get); · first | exact rfl | assumption))); try with_reducible apply w_end)
  apply w_seq
  refine MW_while (fun k σ => ∃ ws q, SuJ D st l p vs P lt out k σ ws q) ?_ 4096 (vs.length - p) _ (by (first | lia | omega)) ⟨vs, p, rfl, rfl, rfl, rfl, rfl, rfl, (set_id hl).symm, hp, hP, rfl, hO, rfl, hDp⟩
  rintro k σ ⟨ws, q, h1, h2, h3, h4, h5, h6, h7, h8, h9, h10, h11, h12, h13⟩
  have hg : σ.st[l]? = some (.lst ws) := by rw [h7]; exact set_get hl
  have hset : ∀ us, σ.st.set l (.lst us) = st.set l (.lst us) := fun us => by rw [h7, List.set_set]
  rw [down] at h11
  unfold siftup_w1_c siftup_w1_b
  ((repeat (first | (with_reducible first | apply w_as | apply w_pure | apply w_set | apply w_tru | apply w_add | apply w_sub | apply w_lt | apply w_gt | apply w_t | apply w_f | apply w_if | apply e_pure | apply e_set | apply e_tru | apply q_cond | apply w_ge | apply w_le | apply w_neg | apply w_eq | apply w_ne) | ((with_reducible first | apply w_get | apply e_get); · first | exact rfl | assumption))); try with_reducible apply w_end)
  split
  · rename_i hc
    have hc' : 2 * q + 1 < ws.length := by have := of_decide_eq_true hc; (first | lia | omega)
    rw [dif_pos hc'] at h11
    have hk1 := kid_gt lt ws q
    have hk2 := kid_lt (lt := lt) hc'
    have hDk : D (kid lt ws q) := hK _ _ h13 (by unfold kid; split <;> simp)
    apply w_seq
    ((repeat (first | (with_reducible first | apply w_as | apply w_pure | apply w_set | apply w_tru | apply w_add | apply w_sub | apply w_lt | apply w_gt | apply w_t | apply w_f | apply w_if | apply e_pure | apply e_set | apply e_tru | apply q_cond | apply w_ge | apply w_le | apply w_neg | apply w_eq | apply w_ne) | ((with_reducible first | apply w_get | apply e_get); · first | exact rfl | assumption))); try with_reducible apply w_end)
    apply w_seq
    refine MW.mono (Q := fun f σ' => f = .next ∧ σ'.lo "heap" = some (.obj l) ∧ σ'.lo "endpos" = some (.int vs.length) ∧ σ'.lo "startpos" = some (.int p) ∧ σ'.lo "newitem" = some (nth vs p) ∧ σ'.lo "pos" = some (.int (q : Nat)) ∧
      σ'.st = σ.st ∧ σ'.lo "childpos" = some (.int ((kid lt ws q : Nat) : Int))) ?_ ?_
    · ((repeat (first | (with_reducible first | apply w_as | apply w_pure | apply w_set | apply w_tru | apply w_add | apply w_sub | apply w_lt | apply w_gt | apply w_t | apply w_f | apply w_if | apply e_pure | apply e_set | apply e_tru | apply q_cond | apply w_ge | apply w_le | apply w_neg | apply w_eq | apply w_ne) | ((with_reducible first | apply w_get | apply e_get); · first | exact rfl | assumption))); try with_reducible apply w_end)
      split
      · rename_i hr
        have hr' : 2 * q + 2 < ws.length := by have := of_decide_eq_true hr; (first | lia | omega)
        ((repeat (first | (with_reducible first | apply w_as | apply w_pure | apply w_set | apply w_tru | apply w_add | apply w_sub | apply w_lt | apply w_gt | apply w_t | apply w_f | apply w_if | apply e_pure | apply e_set | apply e_tru | apply q_cond | apply w_ge | apply w_le | apply w_neg | apply w_eq | apply w_ne) | ((with_reducible first | apply w_get | apply e_get); · first | exact rfl | assumption))); try with_reducible apply w_end)
        refine w_getN (j := 2 * q + 1) (by exact hg) (by (first | lia | omega)) hc' ?_
        ((repeat (first | (with_reducible first | apply w_as | apply w_pure | apply w_set | apply w_tru | apply w_add | apply w_sub | apply w_lt | apply w_gt | apply w_t | apply w_f | apply w_if | apply e_pure | apply e_set | apply e_tru | apply q_cond | apply w_ge | apply w_le | apply w_neg | apply w_eq | apply w_ne) | ((with_reducible first | apply w_get | apply e_get); · first | exact rfl | assumption))); try with_reducible apply w_end)
        refine w_getN (j := 2 * q + 2) (by exact hg) (by (first | lia | omega)) hr' ?_
        ((repeat (first | (with_reducible first | apply w_as | apply w_pure | apply w_set | apply w_tru | apply w_add | apply w_sub | apply w_lt | apply w_gt | apply w_t | apply w_f | apply w_if | apply e_pure | apply e_set | apply e_tru | apply q_cond | apply w_ge | apply w_le | apply w_neg | apply w_eq | apply w_ne) | ((with_reducible first | apply w_get | apply e_get); · first | exact rfl | assumption))); try with_reducible apply w_end)
        refine (MW_ltP hlt (by exact h7) (h9 _ (hK _ _ h13 (.inl rfl)) hc') (h9 _ (hK _ _ h13 (.inr rfl)) hr')).mpr ?_
        ((repeat (first | (with_reducible first | apply w_as | apply w_pure | apply w_set | apply w_tru | apply w_add | apply w_sub | apply w_lt | apply w_gt | apply w_t | apply w_f | apply w_if | apply e_pure | apply e_set | apply e_tru | apply q_cond | apply w_ge | apply w_le | apply w_neg | apply w_eq | apply w_ne) | ((with_reducible first | apply w_get | apply e_get); · first | exact rfl | assumption))); try with_reducible apply w_end)
        cases hb : lt (nth ws (2 * q + 1)) (nth ws (2 * q + 2)) with
        | true =>
          have hkid : kid lt ws q = 2 * q + 1 := by unfold kid; rw [if_neg (by rw [hb]; simp)]
          refine ⟨_, _, rfl, rfl, h1, h2, h3, h4, h5, rfl, ?_⟩
          rw [hkid]; exact h6
        | false =>
          have hkid : kid lt ws q = 2 * q + 2 := by unfold kid; rw [if_pos ⟨hr', hb⟩]
          refine ⟨_, _, rfl, rfl, h1, h2, h3, h4, h5, rfl, ?_⟩
          rw [hkid]; rfl
      · rename_i hr
        have hkid : kid lt ws q = 2 * q + 1 := by unfold kid; rw [if_neg (fun h => hr (decide_eq_true (by (first | lia | omega))))]
        refine ⟨_, _, rfl, rfl, h1, h2, h3, h4, h5, rfl, ?_⟩
        rw [hkid]; exact h6
    · clear h1 h2 h3 h4 h5 h6
      rintro f σ' ⟨rfl, h1, h2, h3, h4, h5, g7, h6⟩
      apply w_seq
      ((repeat (first | (with_reducible first | apply w_as | apply w_pure | apply w_set | apply w_tru | apply w_add | apply w_sub | apply w_lt | apply w_gt | apply w_t | apply w_f | apply w_if | apply e_pure | apply e_set | apply e_tru | apply q_cond | apply w_ge | apply w_le | apply w_neg | apply w_eq | apply w_ne) | ((with_reducible first | apply w_get | apply e_get); · first | exact rfl | assumption))); try with_reducible apply w_end)
      refine w_getN (by rw [g7]; exact hg) rfl hk2 ?_
      ((repeat (first | (with_reducible first | apply w_as | apply w_pure | apply w_set | apply w_tru | apply w_add | apply w_sub | apply w_lt | apply w_gt | apply w_t | apply w_f | apply w_if | apply e_pure | apply e_set | apply e_tru | apply q_cond | apply w_ge | apply w_le | apply w_neg | apply w_eq | apply w_ne) | ((with_reducible first | apply w_get | apply e_get); · first | exact rfl | assumption))); try with_reducible apply w_end)
      refine (MW_setI (by rw [g7]; exact hg) hl0 rfl h8).mpr ?_
      ((repeat (first | (with_reducible first | apply w_as | apply w_pure | apply w_set | apply w_tru | apply w_add | apply w_sub | apply w_lt | apply w_gt | apply w_t | apply w_f | apply w_if | apply e_pure | apply e_set | apply e_tru | apply q_cond | apply w_ge | apply w_le | apply w_neg | apply w_eq | apply w_ne) | ((with_reducible first | apply w_get | apply e_get); · first | exact rfl | assumption))); try with_reducible apply w_end)
      apply w_seq
      ((repeat (first | (with_reducible first | apply w_as | apply w_pure | apply w_set | apply w_tru | apply w_add | apply w_sub | apply w_lt | apply w_gt | apply w_t | apply w_f | apply w_if | apply e_pure | apply e_set | apply e_tru | apply q_cond | apply w_ge | apply w_le | apply w_neg | apply w_eq | apply w_ne) | ((with_reducible first | apply w_get | apply e_get); · first | exact rfl | assumption))); try with_reducible apply w_end)
      refine MW_mul.mpr ⟨by (first | lia | omega), ?_⟩
      ((repeat (first | (with_reducible first | apply w_as | apply w_pure | apply w_set | apply w_tru | apply w_add | apply w_sub | apply w_lt | apply w_gt | apply w_t | apply w_f | apply w_if | apply e_pure | apply e_set | apply e_tru | apply q_cond | apply w_ge | apply w_le | apply w_neg | apply w_eq | apply w_ne) | ((with_reducible first | apply w_get | apply e_get); · first | exact rfl | assumption))); try with_reducible apply w_end)
      exact ⟨vs.length - kid lt ws q, by (first | lia | omega), ws.set q (nth ws (kid lt ws q)), kid lt ws q, h1, h2, h3, h4, rfl, rfl, by show σ'.st.set l _ = _; rw [g7]; exact hset _, by rw [List.length_set]; exact hk2, set_D h9 (h9 _ hDk hk2), by rw [List.length_set]; exact h10, h11, rfl, hDk⟩
  · rename_i hc
    rw [dif_neg (fun h => hc (decide_eq_true (by (first | lia | omega))))] at h11
    apply w_seq
    ((repeat (first | (with_reducible first | apply w_as | apply w_pure | apply w_set | apply w_tru | apply w_add | apply w_sub | apply w_lt | apply w_gt | apply w_t | apply w_f | apply w_if | apply e_pure | apply e_set | apply e_tru | apply q_cond | apply w_ge | apply w_le | apply w_neg | apply w_eq | apply w_ne) | ((with_reducible first | apply w_get | apply e_get); · first | exact rfl | assumption))); try with_reducible apply w_end)
    refine (MW_setI (by exact hg) hl0 rfl h8).mpr ?_
    ((repeat (first | (with_reducible first | apply w_as | apply w_pure | apply w_set | apply w_tru | apply w_add | apply w_sub | apply w_lt | apply w_gt | apply w_t | apply w_f | apply w_if | apply e_pure | apply e_set | apply e_tru | apply q_cond | apply w_ge | apply w_le | apply w_neg | apply w_eq | apply w_ne) | ((with_reducible first | apply w_get | apply e_get); · first | exact rfl | assumption))); try with_reducible apply w_end)
    refine (MW_callF (by
      show f_siftdown [.obj l, .int p, .int q] (σ.st.set l (.lst (ws.set q (nth vs p)))) = _
      rw [hset]
      exact siftdown_specD (set_get hl) hl0 (by rw [List.length_set]; exact h8) (by rw [List.length_set]; (first | lia | omega)) h13 hD (set_D h9 hPx) (hlt.set _))).mpr ?_
    ((repeat (first | (with_reducible first | apply w_as | apply w_pure | apply w_set | apply w_tru | apply w_add | apply w_sub | apply w_lt | apply w_gt | apply w_t | apply w_f | apply w_if | apply e_pure | apply e_set | apply e_tru | apply q_cond | apply w_ge | apply w_le | apply w_neg | apply w_eq | apply w_ne) | ((with_reducible first | apply w_get | apply e_get); · first | exact rfl | assumption))); try with_reducible apply w_end)
    refine ⟨rfl, ?_⟩
    show (st.set l _).set l _ = _
    rw [List.set_set, nth_set_self h8, ← h11]

end Mine


/-! part H12 -/
set_option autoImplicit false
set_option maxRecDepth 100000
set_option linter.unusedVariables false
set_option linter.unusedSimpArgs false
open PySem PySem.W PyProof.Rows
namespace Mine

/-! ### programs that end by an exception -/
noncomputable def MX {α : Type} (m : M α) (σ : S) (e : Exc) (Q : S → Prop) : Prop := ∃ σ', m σ = .exc e σ' ∧ Q σ'
section
variable {α β : Type} {σ : S} {e : Exc} {Q : S → Prop}
theorem x_bind {m : M α} {f : α → M β} (h : MW m σ (fun a σ' => MX (f a) σ' e Q)) : MX (m >>= f) σ e Q := by
  obtain ⟨a, σ₁, e1, σ₂, e2, q⟩ := h
  exact ⟨σ₂, by rw [M.bind_def, e1]; exact e2, q⟩
theorem x_here {m : M α} {f : α → M β} (h : MX m σ e Q) : MX (m >>= f) σ e Q := by
  obtain ⟨σ₂, e2, q⟩ := h
  exact ⟨σ₂, by rw [M.bind_def, e2], q⟩
theorem x_seq {a b : M Fl} (h : MW a σ (fun f σ' => f = .next ∧ MX b σ' e Q)) : MX (seqM a b) σ e Q := by
  obtain ⟨f, σ₁, e1, rfl, σ₂, e2, q⟩ := h
  exact ⟨σ₂, by unfold seqM; rw [M.bind_def, e1]; exact e2, q⟩
theorem x_seqE {a b : M Fl} (h : MX a σ e Q) : MX (seqM a b) σ e Q := x_here h
theorem x_ex {m : M α} {σ' : S} (h : m σ = .exc e σ') (q : Q σ') : MX m σ e Q := ⟨σ', h, q⟩
theorem x_call {g : Fun} {vs : List V} {st' : Store} (h : g vs σ.st = .exc e st') (q : Q ⟨st', σ.lo⟩) : MX (callF g vs) σ e Q := ⟨⟨st', σ.lo⟩, by simp only [callF, h], q⟩
theorem while_go {c : M Bool} {b : M Fl} {n : Nat} {Q' : S → Prop} (h : MW c σ (fun t σ₁ => t = true ∧ MW b σ₁ (fun f σ₂ => f = .cont ∧ Q' σ₂))) : ∃ σ₂, whileM c b (n + 1) σ = whileM c b n σ₂ ∧ Q' σ₂ := by
  obtain ⟨t, σ₁, e1, rfl, f, σ₂, e2, rfl, q⟩ := h
  exact ⟨σ₂, by rw [whileM, M.bind_def, e1]; dsimp only; rw [if_pos rfl, M.bind_def, e2], q⟩
theorem while_brk {c : M Bool} {b : M Fl} {n : Nat} {Q' : S → Prop} (h : MW c σ (fun t σ₁ => t = true ∧ MW b σ₁ (fun f σ₂ => f = .brk ∧ Q' σ₂))) : ∃ σ₂, whileM c b (n + 1) σ = .ok .next σ₂ ∧ Q' σ₂ := by
  obtain ⟨t, σ₁, e1, rfl, f, σ₂, e2, rfl, q⟩ := h
  exact ⟨σ₂, by rw [whileM, M.bind_def, e1]; dsimp only; rw [if_pos rfl, M.bind_def, e2]; rfl, q⟩
theorem while_exc {c : M Bool} {b : M Fl} {n : Nat} (h : MW c σ (fun t σ₁ => t = true ∧ MX b σ₁ e Q)) : MX (whileM c b (n + 1)) σ e Q := by
  obtain ⟨t, σ₁, e1, rfl, σ₂, e2, q⟩ := h
  exact ⟨σ₂, by rw [whileM, M.bind_def, e1]; dsimp only; rw [if_pos rfl, M.bind_def, e2], q⟩
end
theorem funM_exc {params : List String} {body : M Fl} {vs : List V} {st st' : Store} {e : Exc} (hl : vs.length = params.length)
    (h : MX body ⟨st, bindP params vs⟩ e (fun σ' => σ'.st = st')) : funM params body vs st = .exc e st' := by
  obtain ⟨σ', h1, h2⟩ := h
  unfold funM
  rw [if_pos hl, h1]
  subst h2
  rfl

/-! ### _siftdown up to None -/
variable {P : V → Prop} {lt : V → V → Bool} {D : Nat → Prop}
structure SdN (D : Nat → Prop) (st : Store) (l t : Nat) (vs : List V) (x : V) (P : V → Prop) (k : Nat) (σ : S) (ws : List V) : Prop where
  h1 : σ.lo "heap" = some (.obj l)
  h2 : σ.lo "startpos" = some (.int 0)
  h3 : σ.lo "newitem" = some x
  h4 : σ.lo "pos" = some (.int (k : Nat))
  h5 : σ.st = st.set l (.lst ws)
  h6 : k < ws.length
  h7 : ∀ j, D j → j < ws.length → P (nth ws j)
  h8 : ws.length = vs.length
  h9 : D k
  h10 : nth ws ((t - 1) / 2) = .none
noncomputable def nonE : Exc := ⟨"TypeError", Str.ofString (ltWords "tuple" "NoneType")⟩

theorem sdN_loop {st : Store} {l t : Nat} {vs : List V} {x : V} (hl : st[l]? = some (.lst vs)) (hl0 : l ≠ 0) (hn : vs.length ≤ 4000) (ht : 0 < t) (hDt : ∀ j, D j → t ≤ j) (hD : ∀ j, D j → t < j → D ((j - 1) / 2)) (hx : P x) (hlt : LtAtL st l P lt)
    (hte : ∀ σ : S, ltX x .none σ = .exc nonE σ) : ∀ (k n : Nat) (σ : S) (ws : List V), k < n → SdN D st l t vs x P k σ ws →
    if (wk lt x t ws k).2 = t then MX (whileM siftdown_w1_c siftdown_w1_b n) σ nonE (fun σ' => σ'.st = st.set l (.lst (wk lt x t ws k).1))
    else MW (whileM siftdown_w1_c siftdown_w1_b n) σ (fun f σ' => f = .next ∧ SdN D st l t vs x P (wk lt x t ws k).2 σ' (wk lt x t ws k).1) := by
  intro k
  induction k using Nat.strongRecOn with
  | _ k ih =>
    intro n σ ws hk ⟨h1, h2, h3, h4, h5, h6, h7, h8, h9, h10⟩
    obtain ⟨n, rfl⟩ : ∃ m, n = m + 1 := ⟨n - 1, by (first | lia | omega)⟩
    have hg : σ.st[l]? = some (.lst ws) := by rw [h5]; exact set_get hl
    have hset : ∀ us, σ.st.set l (.lst us) = st.set l (.lst us) := fun us => by rw [h5, List.set_set]
    have hk0 : t ≤ k := hDt k h9
    have hq : (k - 1) / 2 < ws.length := by (first | lia | omega)
    have ek : ((k : Int) - 1) / 2 = (((k - 1) / 2 : Nat) : Int) := by (first | lia | omega)
    have hpos : decide ((0 : Int) < (k : Nat)) = true := decide_eq_true (by (first | lia | omega))
    rw [wk]
    by_cases hs : t < k
    · rw [dif_pos hs]
      have hPy : P (nth ws ((k - 1) / 2)) := h7 _ (hD _ h9 hs) hq
      by_cases hc : lt x (nth ws ((k - 1) / 2)) = true
      · rw [if_pos hc]
        have step : ∃ σ₂, whileM siftdown_w1_c siftdown_w1_b (n + 1) σ = whileM siftdown_w1_c siftdown_w1_b n σ₂ ∧ SdN D st l t vs x P ((k - 1) / 2) σ₂ (ws.set k (nth ws ((k - 1) / 2))) := by
          refine while_go ?_
          unfold siftdown_w1_c siftdown_w1_b
          ((repeat (first | (with_reducible first | apply w_as | apply w_pure | apply w_set | apply w_tru | apply w_add | apply w_sub | apply w_lt | apply w_gt | apply w_t | apply w_f | apply w_if | apply e_pure | apply e_set | apply e_tru | apply q_cond | apply w_ge | apply w_le | apply w_neg | apply w_eq | apply w_ne) | ((with_reducible first | apply w_get | apply e_get); · first | exact rfl | assumption))); try with_reducible apply w_end)
          refine ⟨hpos, ?_⟩
          apply w_seq
          ((repeat (first | (with_reducible first | apply w_as | apply w_pure | apply w_set | apply w_tru | apply w_add | apply w_sub | apply w_lt | apply w_gt | apply w_t | apply w_f | apply w_if | apply e_pure | apply e_set | apply e_tru | apply q_cond | apply w_ge | apply w_le | apply w_neg | apply w_eq | apply w_ne) | ((with_reducible first | apply w_get | apply e_get); · first | exact rfl | assumption))); try with_reducible apply w_end)
          refine MW_shr.mpr ⟨by (first | lia | omega), ?_⟩
          rw [ek]
          ((repeat (first | (with_reducible first | apply w_as | apply w_pure | apply w_set | apply w_tru | apply w_add | apply w_sub | apply w_lt | apply w_gt | apply w_t | apply w_f | apply w_if | apply e_pure | apply e_set | apply e_tru | apply q_cond | apply w_ge | apply w_le | apply w_neg | apply w_eq | apply w_ne) | ((with_reducible first | apply w_get | apply e_get); · first | exact rfl | assumption))); try with_reducible apply w_end)
          apply w_seq
          ((repeat (first | (with_reducible first | apply w_as | apply w_pure | apply w_set | apply w_tru | apply w_add | apply w_sub | apply w_lt | apply w_gt | apply w_t | apply w_f | apply w_if | apply e_pure | apply e_set | apply e_tru | apply q_cond | apply w_ge | apply w_le | apply w_neg | apply w_eq | apply w_ne) | ((with_reducible first | apply w_get | apply e_get); · first | exact rfl | assumption))); try with_reducible apply w_end)
          refine w_getN (by exact hg) rfl hq ?_
          ((repeat (first | (with_reducible first | apply w_as | apply w_pure | apply w_set | apply w_tru | apply w_add | apply w_sub | apply w_lt | apply w_gt | apply w_t | apply w_f | apply w_if | apply e_pure | apply e_set | apply e_tru | apply q_cond | apply w_ge | apply w_le | apply w_neg | apply w_eq | apply w_ne) | ((with_reducible first | apply w_get | apply e_get); · first | exact rfl | assumption))); try with_reducible apply w_end)
          apply w_seq
          ((repeat (first | (with_reducible first | apply w_as | apply w_pure | apply w_set | apply w_tru | apply w_add | apply w_sub | apply w_lt | apply w_gt | apply w_t | apply w_f | apply w_if | apply e_pure | apply e_set | apply e_tru | apply q_cond | apply w_ge | apply w_le | apply w_neg | apply w_eq | apply w_ne) | ((with_reducible first | apply w_get | apply e_get); · first | exact rfl | assumption))); try with_reducible apply w_end)
          refine (MW_ltP hlt (by exact h5) hx hPy).mpr ?_
          ((repeat (first | (with_reducible first | apply w_as | apply w_pure | apply w_set | apply w_tru | apply w_add | apply w_sub | apply w_lt | apply w_gt | apply w_t | apply w_f | apply w_if | apply e_pure | apply e_set | apply e_tru | apply q_cond | apply w_ge | apply w_le | apply w_neg | apply w_eq | apply w_ne) | ((with_reducible first | apply w_get | apply e_get); · first | exact rfl | assumption))); try with_reducible apply w_end)
          rw [if_pos hc]
          apply w_seq
          ((repeat (first | (with_reducible first | apply w_as | apply w_pure | apply w_set | apply w_tru | apply w_add | apply w_sub | apply w_lt | apply w_gt | apply w_t | apply w_f | apply w_if | apply e_pure | apply e_set | apply e_tru | apply q_cond | apply w_ge | apply w_le | apply w_neg | apply w_eq | apply w_ne) | ((with_reducible first | apply w_get | apply e_get); · first | exact rfl | assumption))); try with_reducible apply w_end)
          refine (MW_setI (by exact hg) hl0 rfl h6).mpr ?_
          ((repeat (first | (with_reducible first | apply w_as | apply w_pure | apply w_set | apply w_tru | apply w_add | apply w_sub | apply w_lt | apply w_gt | apply w_t | apply w_f | apply w_if | apply e_pure | apply e_set | apply e_tru | apply q_cond | apply w_ge | apply w_le | apply w_neg | apply w_eq | apply w_ne) | ((with_reducible first | apply w_get | apply e_get); · first | exact rfl | assumption))); try with_reducible apply w_end)
          apply w_seq
          ((repeat (first | (with_reducible first | apply w_as | apply w_pure | apply w_set | apply w_tru | apply w_add | apply w_sub | apply w_lt | apply w_gt | apply w_t | apply w_f | apply w_if | apply e_pure | apply e_set | apply e_tru | apply q_cond | apply w_ge | apply w_le | apply w_neg | apply w_eq | apply w_ne) | ((with_reducible first | apply w_get | apply e_get); · first | exact rfl | assumption))); try with_reducible apply w_end)
          exact ⟨rfl, h1, h2, h3, rfl, hset _, by rw [List.length_set]; exact hq, set_D h7 hPy, by rw [List.length_set]; exact h8, hD _ h9 hs, by rw [nth_set_ne (by (first | lia | omega))]; exact h10⟩
        obtain ⟨σ₂, e, q⟩ := step
        have := ih _ (by (first | lia | omega)) n σ₂ _ (by (first | lia | omega)) q
        unfold MX MW at this ⊢
        rw [e]; exact this
      · rw [if_neg hc]
        dsimp only
        rw [if_neg (by (first | lia | omega))]
        have step : ∃ σ₂, whileM siftdown_w1_c siftdown_w1_b (n + 1) σ = .ok .next σ₂ ∧ SdN D st l t vs x P k σ₂ ws := by
          refine while_brk ?_
          unfold siftdown_w1_c siftdown_w1_b
          ((repeat (first | (with_reducible first | apply w_as | apply w_pure | apply w_set | apply w_tru | apply w_add | apply w_sub | apply w_lt | apply w_gt | apply w_t | apply w_f | apply w_if | apply e_pure | apply e_set | apply e_tru | apply q_cond | apply w_ge | apply w_le | apply w_neg | apply w_eq | apply w_ne) | ((with_reducible first | apply w_get | apply e_get); · first | exact rfl | assumption))); try with_reducible apply w_end)
          refine ⟨hpos, ?_⟩
          apply w_seq
          ((repeat (first | (with_reducible first | apply w_as | apply w_pure | apply w_set | apply w_tru | apply w_add | apply w_sub | apply w_lt | apply w_gt | apply w_t | apply w_f | apply w_if | apply e_pure | apply e_set | apply e_tru | apply q_cond | apply w_ge | apply w_le | apply w_neg | apply w_eq | apply w_ne) | ((with_reducible first | apply w_get | apply e_get); · first | exact rfl | assumption))); try with_reducible apply w_end)
          refine MW_shr.mpr ⟨by (first | lia | omega), ?_⟩
          rw [ek]
          ((repeat (first | (with_reducible first | apply w_as | apply w_pure | apply w_set | apply w_tru | apply w_add | apply w_sub | apply w_lt | apply w_gt | apply w_t | apply w_f | apply w_if | apply e_pure | apply e_set | apply e_tru | apply q_cond | apply w_ge | apply w_le | apply w_neg | apply w_eq | apply w_ne) | ((with_reducible first | apply w_get | apply e_get); · first | exact rfl | assumption))); try with_reducible apply w_end)
          apply w_seq
          ((repeat (first | (with_reducible first | apply w_as | apply w_pure | apply w_set | apply w_tru | apply w_add | apply w_sub | apply w_lt | apply w_gt | apply w_t | apply w_f | apply w_if | apply e_pure | apply e_set | apply e_tru | apply q_cond | apply w_ge | apply w_le | apply w_neg | apply w_eq | apply w_ne) | ((with_reducible first | apply w_get | apply e_get); · first | exact rfl | assumption))); try with_reducible apply w_end)
          refine w_getN (by exact hg) rfl hq ?_
          ((repeat (first | (with_reducible first | apply w_as | apply w_pure | apply w_set | apply w_tru | apply w_add | apply w_sub | apply w_lt | apply w_gt | apply w_t | apply w_f | apply w_if | apply e_pure | apply e_set | apply e_tru | apply q_cond | apply w_ge | apply w_le | apply w_neg | apply w_eq | apply w_ne) | ((with_reducible first | apply w_get | apply e_get); · first | exact rfl | assumption))); try with_reducible apply w_end)
          apply w_seq
          ((repeat (first | (with_reducible first | apply w_as | apply w_pure | apply w_set | apply w_tru | apply w_add | apply w_sub | apply w_lt | apply w_gt | apply w_t | apply w_f | apply w_if | apply e_pure | apply e_set | apply e_tru | apply q_cond | apply w_ge | apply w_le | apply w_neg | apply w_eq | apply w_ne) | ((with_reducible first | apply w_get | apply e_get); · first | exact rfl | assumption))); try with_reducible apply w_end)
          refine (MW_ltP hlt (by exact h5) hx hPy).mpr ?_
          ((repeat (first | (with_reducible first | apply w_as | apply w_pure | apply w_set | apply w_tru | apply w_add | apply w_sub | apply w_lt | apply w_gt | apply w_t | apply w_f | apply w_if | apply e_pure | apply e_set | apply e_tru | apply q_cond | apply w_ge | apply w_le | apply w_neg | apply w_eq | apply w_ne) | ((with_reducible first | apply w_get | apply e_get); · first | exact rfl | assumption))); try with_reducible apply w_end)
          rw [if_neg hc]
          ((repeat (first | (with_reducible first | apply w_as | apply w_pure | apply w_set | apply w_tru | apply w_add | apply w_sub | apply w_lt | apply w_gt | apply w_t | apply w_f | apply w_if | apply e_pure | apply e_set | apply e_tru | apply q_cond | apply w_ge | apply w_le | apply w_neg | apply w_eq | apply w_ne) | ((with_reducible first | apply w_get | apply e_get); · first | exact rfl | assumption))); try with_reducible apply w_end)
          exact ⟨rfl, h1, h2, h3, h4, h5, h6, h7, h8, h9, h10⟩
        obtain ⟨σ₂, e, q⟩ := step
        exact ⟨_, _, e, rfl, q⟩
    · have hkt : k = t := by (first | lia | omega)
      subst hkt
      rw [dif_neg hs]
      dsimp only
      rw [if_pos rfl]
      refine while_exc ?_
      unfold siftdown_w1_c siftdown_w1_b
      ((repeat (first | (with_reducible first | apply w_as | apply w_pure | apply w_set | apply w_tru | apply w_add | apply w_sub | apply w_lt | apply w_gt | apply w_t | apply w_f | apply w_if | apply e_pure | apply e_set | apply e_tru | apply q_cond | apply w_ge | apply w_le | apply w_neg | apply w_eq | apply w_ne) | ((with_reducible first | apply w_get | apply e_get); · first | exact rfl | assumption))); try with_reducible apply w_end)
      refine ⟨hpos, ?_⟩
      apply x_seq
      ((repeat (first | (with_reducible first | apply w_as | apply w_pure | apply w_set | apply w_tru | apply w_add | apply w_sub | apply w_lt | apply w_gt | apply w_t | apply w_f | apply w_if | apply e_pure | apply e_set | apply e_tru | apply q_cond | apply w_ge | apply w_le | apply w_neg | apply w_eq | apply w_ne) | ((with_reducible first | apply w_get | apply e_get); · first | exact rfl | assumption))); try with_reducible apply w_end)
      refine MW_shr.mpr ⟨by (first | lia | omega), ?_⟩
      rw [ek]
      ((repeat (first | (with_reducible first | apply w_as | apply w_pure | apply w_set | apply w_tru | apply w_add | apply w_sub | apply w_lt | apply w_gt | apply w_t | apply w_f | apply w_if | apply e_pure | apply e_set | apply e_tru | apply q_cond | apply w_ge | apply w_le | apply w_neg | apply w_eq | apply w_ne) | ((with_reducible first | apply w_get | apply e_get); · first | exact rfl | assumption))); try with_reducible apply w_end)
      refine ⟨rfl, ?_⟩
      apply x_seq
      ((repeat (first | (with_reducible first | apply w_as | apply w_pure | apply w_set | apply w_tru | apply w_add | apply w_sub | apply w_lt | apply w_gt | apply w_t | apply w_f | apply w_if | apply e_pure | apply e_set | apply e_tru | apply q_cond | apply w_ge | apply w_le | apply w_neg | apply w_eq | apply w_ne) | ((with_reducible first | apply w_get | apply e_get); · first | exact rfl | assumption))); try with_reducible apply w_end)
      refine w_getN (by exact hg) rfl hq ?_
      rw [h10]
      ((repeat (first | (with_reducible first | apply w_as | apply w_pure | apply w_set | apply w_tru | apply w_add | apply w_sub | apply w_lt | apply w_gt | apply w_t | apply w_f | apply w_if | apply e_pure | apply e_set | apply e_tru | apply q_cond | apply w_ge | apply w_le | apply w_neg | apply w_eq | apply w_ne) | ((with_reducible first | apply w_get | apply e_get); · first | exact rfl | assumption))); try with_reducible apply w_end)
      refine ⟨rfl, ?_⟩
      refine x_seqE (x_here (x_bind ?_))
      ((repeat (first | (with_reducible first | apply w_as | apply w_pure | apply w_set | apply w_tru | apply w_add | apply w_sub | apply w_lt | apply w_gt | apply w_t | apply w_f | apply w_if | apply e_pure | apply e_set | apply e_tru | apply q_cond | apply w_ge | apply w_le | apply w_neg | apply w_eq | apply w_ne) | ((with_reducible first | apply w_get | apply e_get); · first | exact rfl | assumption))); try with_reducible apply w_end)
      refine x_bind ?_
      ((repeat (first | (with_reducible first | apply w_as | apply w_pure | apply w_set | apply w_tru | apply w_add | apply w_sub | apply w_lt | apply w_gt | apply w_t | apply w_f | apply w_if | apply e_pure | apply e_set | apply e_tru | apply q_cond | apply w_ge | apply w_le | apply w_neg | apply w_eq | apply w_ne) | ((with_reducible first | apply w_get | apply e_get); · first | exact rfl | assumption))); try with_reducible apply w_end)
      refine x_here ?_
      exact x_ex (hte _) h5
theorem siftdown_none {st : Store} {l t p : Nat} {vs : List V} (hl : st[l]? = some (.lst vs)) (hl0 : l ≠ 0) (hn : vs.length ≤ 4000) (hp : p < vs.length) (ht : 0 < t) (hDt : ∀ j, D j → t ≤ j) (hDp : D p) (hD : ∀ j, D j → t < j → D ((j - 1) / 2))
    (hP : ∀ j, D j → j < vs.length → P (nth vs j)) (hlt : LtAtL st l P lt) (hte : ∀ σ : S, ltX (nth vs p) .none σ = .exc nonE σ) (hN : nth vs ((t - 1) / 2) = .none) :
    f_siftdown [.obj l, .int 0, .int p] st = if (wk lt (nth vs p) t vs p).2 = t then .exc nonE (st.set l (.lst (wk lt (nth vs p) t vs p).1)) else .ok .none (st.set l (.lst (sd lt (nth vs p) t vs p))) := by
  have hPx : P (nth vs p) := hP _ hDp hp
  have key := sdN_loop (lt := lt) hl hl0 hn ht hDt hD hPx hlt hte p 4096 ⟨st, fun y => if y = "newitem" then some (nth vs p) else bindP ["heap", "startpos", "pos"] [.obj l, .int 0, .int p] y⟩ vs (by (first | lia | omega)) ⟨rfl, rfl, rfl, rfl, (set_id hl).symm, hp, hP, rfl, hDp, hN⟩
  split at key
  · rename_i h
    rw [if_pos h]
    refine funM_exc rfl ?_
    unfold siftdown_m
    apply x_seq
    ((repeat (first | (with_reducible first | apply w_as | apply w_pure | apply w_set | apply w_tru | apply w_add | apply w_sub | apply w_lt | apply w_gt | apply w_t | apply w_f | apply w_if | apply e_pure | apply e_set | apply e_tru | apply q_cond | apply w_ge | apply w_le | apply w_neg | apply w_eq | apply w_ne) | ((with_reducible first | apply w_get | apply e_get); · first | exact rfl | assumption))); try with_reducible apply w_end)
    refine w_getN (by exact hl) rfl hp ?_
    ((repeat (first | (with_reducible first | apply w_as | apply w_pure | apply w_set | apply w_tru | apply w_add | apply w_sub | apply w_lt | apply w_gt | apply w_t | apply w_f | apply w_if | apply e_pure | apply e_set | apply e_tru | apply q_cond | apply w_ge | apply w_le | apply w_neg | apply w_eq | apply w_ne) | ((with_reducible first | apply w_get | apply e_get); · first | exact rfl | assumption))); try with_reducible apply w_end)
    refine ⟨rfl, x_seqE key⟩
  · rename_i h
    rw [if_neg h]
    refine funM_of rfl ?_
    unfold siftdown_m
    apply w_seq
    ((repeat (first | (with_reducible first | apply w_as | apply w_pure | apply w_set | apply w_tru | apply w_add | apply w_sub | apply w_lt | apply w_gt | apply w_t | apply w_f | apply w_if | apply e_pure | apply e_set | apply e_tru | apply q_cond | apply w_ge | apply w_le | apply w_neg | apply w_eq | apply w_ne) | ((with_reducible first | apply w_get | apply e_get); · first | exact rfl | assumption))); try with_reducible apply w_end)
    refine w_getN (by exact hl) rfl hp ?_
    ((repeat (first | (with_reducible first | apply w_as | apply w_pure | apply w_set | apply w_tru | apply w_add | apply w_sub | apply w_lt | apply w_gt | apply w_t | apply w_f | apply w_if | apply e_pure | apply e_set | apply e_tru | apply q_cond | apply w_ge | apply w_le | apply w_neg | apply w_eq | apply w_ne) | ((with_reducible first | apply w_get | apply e_get); · first | exact rfl | assumption))); try with_reducible apply w_end)
    apply w_seq
    refine MW.mono key ?_
    rintro f σ' ⟨rfl, h1, h2, h3, h4, h5, h6, h7, h8, h9, h10⟩
    ((repeat (first | (with_reducible first | apply w_as | apply w_pure | apply w_set | apply w_tru | apply w_add | apply w_sub | apply w_lt | apply w_gt | apply w_t | apply w_f | apply w_if | apply e_pure | apply e_set | apply e_tru | apply q_cond | apply w_ge | apply w_le | apply w_neg | apply w_eq | apply w_ne) | ((with_reducible first | apply w_get | apply e_get); · first | exact rfl | assumption))); try with_reducible apply w_end)
    refine (MW_setI (vs := (wk lt (nth vs p) t vs p).1) (by rw [h5]; exact set_get hl) hl0 rfl h6).mpr ?_
    ((repeat (first | (with_reducible first | apply w_as | apply w_pure | apply w_set | apply w_tru | apply w_add | apply w_sub | apply w_lt | apply w_gt | apply w_t | apply w_f | apply w_if | apply e_pure | apply e_set | apply e_tru | apply q_cond | apply w_ge | apply w_le | apply w_neg | apply w_eq | apply w_ne) | ((with_reducible first | apply w_get | apply e_get); · first | exact rfl | assumption))); try with_reducible apply w_end)
    refine ⟨rfl, ?_⟩
    show σ'.st.set l _ = _
    rw [h5, List.set_set, sd_wk]
theorem te_tup {v : V} (h : IsT1 v) (σ : S) : ltX v .none σ = .exc nonE σ := by
  obtain ⟨ns, hns, rfl⟩ := h
  have e1 : toD σ.st 6 .none = some .none := rfl
  have e2 : ltV (tI ns) .none σ = .stuck := by unfold ltV; rw [toD_tI, e1]; simp only [ltD]
  unfold ltX
  rw [e2]
  dsimp only
  unfold teX
  rw [toD_tI, e1]
  rfl
end Mine


/-! part H13 -/
set_option autoImplicit false
set_option maxRecDepth 100000
set_option linter.unusedVariables false
set_option linter.unusedSimpArgs false
open PySem PySem.W PyProof.Rows
namespace Mine

theorem MW_list' {l : Nat} {vs : List V} {σ : S} {Q : V → S → Prop} (h : σ.st[l]? = some (.lst vs)) (q : ∀ k st', Pres [] σ.st st' → σ.st.length ≤ k → st'[k]? = some (.lst vs) → Q (.obj k) ⟨st', σ.lo⟩) : MW (listB [.obj l]) σ Q := by
  refine (MW_fun_ok (a := .obj σ.st.length) (σ' := { σ with st := σ.st ++ [.lst vs] }) ?_).mpr (q _ _ (Pres.app ..) (Nat.le_refl _) List.getElem?_concat_length)
  simp only [listB, h]
theorem MW_getN {l j : Nat} {k : Int} {vs : List V} {σ : S} {Q : V → S → Prop} (h : σ.st[l]? = some (.lst vs)) (hk : k = j) (hj : j < vs.length) : MW (getI (.obj l) (.int k)) σ Q ↔ Q (nth vs j) σ := by
  subst hk
  exact MW_getI h (by rw [ix_nat, if_pos hj]) (nth_eq hj)
theorem MW_neOf {σ : S} {a b : V} {x : Bool} {Q : V → S → Prop} (h : eqV a b σ = .ok (.bool x) σ) : MW (neV a b) σ Q ↔ Q (.bool (!x)) σ := by
  refine MW_fun_ok ?_
  unfold eqV at h
  unfold neV
  cases e1 : toD σ.st 6 a with
  | none => rw [e1] at h; cases h
  | some d =>
    cases e2 : toD σ.st 6 b with
    | none => rw [e1, e2] at h; cases h
    | some d' =>
      rw [e1, e2] at h
      simp only [Res.ok.injEq, V.bool.injEq, and_true] at h
      simp only [h]
theorem MW_try {b : M Fl} {h : Exc → M Fl} {σ : S} {Q : Fl → S → Prop} (hb : MW b σ Q) : MW (tryM b h) σ Q := by
  obtain ⟨f, σ', e, q⟩ := hb
  exact ⟨f, σ', by unfold tryM; rw [e], q⟩
theorem MW_tryX {b : M Fl} {h : Exc → M Fl} {σ σ' : S} {x : Exc} {Q : Fl → S → Prop} (hb : b σ = .exc x σ') (hq : MW (h x) σ' Q) : MW (tryM b h) σ Q := by
  obtain ⟨f, σ'', e, q⟩ := hq
  exact ⟨f, σ'', by unfold tryM; rw [hb]; exact e, q⟩

theorem MW_unpack4 {σ : S} {m : List V → M Unit} {a b c d : V} {Q : Unit → S → Prop} : MW (unpackT 4 m (.tup [a, b, c, d])) σ Q ↔ MW (m [a, b, c, d]) σ Q := MW_unpack rfl


end Mine


/-! part L01a -/
set_option autoImplicit false
set_option maxRecDepth 100000
set_option linter.unusedVariables false
set_option linter.unusedSimpArgs false
open PySem PySem.W PyProof.Rows
namespace Mine

noncomputable def slotV (q : Nat) : List V := (List.range 15).map fun i => V.int (pos (q + 3) i : Nat)
theorem slot_at {q i : Nat} (h : i < 15) : nth (slotV q) i = V.int (pos (q + 3) i : Nat) := by
  unfold slotV nth
  rw [List.getElem?_map, List.getElem?_range h]; rfl
theorem slot_length (q : Nat) : (slotV q).length = 15 := by simp [slotV]
theorem MW_rng2 {σ : S} {a b : Int} {Q : V → S → Prop} (q : Q (.rng a b 1) σ) : MW (rangeB [.int a, .int b]) σ Q := (MW_fun_ok rfl).mpr q
theorem MW_rng1 {σ : S} {b : Int} {Q : V → S → Prop} (q : Q (.rng 0 b 1) σ) : MW (rangeB [.int b]) σ Q := (MW_fun_ok rfl).mpr q
theorem eqTL_ok {σ : S} {l k : Nat} {as bs : List (List Int)} (h1 : σ.st[l]? = some (.lst (as.map tI))) (h2 : σ.st[k]? = some (.lst (bs.map tI))) : eqV (.obj l) (.obj k) σ = .ok (.bool (decide (as = bs))) σ := by
  obtain ⟨v, σ', e, h3, h4⟩ := (MW_eqTL (Q := fun v σ' => v = .bool (decide (as = bs)) ∧ σ' = σ) h1 h2).mpr ⟨rfl, rfl⟩
  rw [e, h3, h4]
theorem MW_neTL {σ : S} {l k : Nat} {as bs : List (List Int)} {Q : V → S → Prop} (h1 : σ.st[l]? = some (.lst (as.map tI))) (h2 : σ.st[k]? = some (.lst (bs.map tI))) (q : Q (.bool (!decide (as = bs))) σ) : MW (neV (.obj l) (.obj k)) σ Q :=
  (MW_neOf (eqTL_ok h1 h2)).mpr q
theorem tups_itm : ∀ ms : List Int, tupsOf (ms.map itm) = some (ms.map fun n => [0, n]) := tupsOf_map itm (fun n => [0, n]) (fun _ => tupInts_tI (by simp))
theorem itm_tI (ms : List Int) : ms.map itm = (ms.map fun n => [0, n]).map tI := by rw [List.map_map]; rfl
theorem sort_same {as bs : List Int} (h : as.Perm bs) : sortTup false (as.map fun n => [0, n]) (as.map itm) = sortTup false (bs.map fun n => [0, n]) (bs.map itm) := by
  obtain ⟨as', e1, p1, s1⟩ := sortTup_map 0 false itm (fun n => [0, n]) as
  obtain ⟨bs', e2, p2, s2⟩ := sortTup_map 0 false itm (fun n => [0, n]) bs
  rw [e1, e2]
  have le : ∀ a b : Int, lexB [0, b] [0, a] = false ↔ a ≤ b := by
    intro a b
    have := lt_itm b a
    unfold itm at this
    rw [ltT_tI (by simp) (by simp)] at this
    rw [this]; simp
  have f : ∀ ls : List Int, ls.Pairwise (fun a b => if false = true then lexB [0, a] [0, b] = false else lexB [0, b] [0, a] = false) → ls.Pairwise (· ≤ ·) := by
    intro ls h
    refine h.imp fun {a b} h => ?_
    simp only [Bool.false_eq_true, if_false] at h
    exact (le a b).mp h
  rw [sortI_eq (p1.trans h) (f _ s1), sortI_eq p2 (f _ s2)]

theorem law_holds_ok {st : Store} {r o m q : Nat} {row : List V} {mss : Nat → List Int} {ks : List Int} (hr : st[r]? = some (.lst row)) (ho : st[o]? = some (.lst (slotV q))) (hm : st[m]? = some (.lst (ks.map V.int))) (hq : q < 4)
    (R : RowOk row mss) (pk : (mss q).Perm ks) : ∃ st', f_law_holds [.obj r, .obj o, .obj m] st = .ok (.bool true) st' ∧ Pres [] st st' := by
  have hst := lt_of_get hr
  have hks : ks.length = (mss q).length := pk.length_eq.symm
  have hle := R.le q hq
  generalize hms : mss q = ms at pk hks hle
  have key : ∃ v st', f_law_holds [.obj r, .obj o, .obj m] st = .ok v st' ∧ v = .bool true ∧ Pres [] st st' := by
    refine funM_ex rfl ?_
    unfold law_holds_m
    apply w_seq
    ((repeat (first | (with_reducible first | apply w_as | apply w_pure | apply w_set | apply w_tru | apply w_add | apply w_sub | apply w_lt | apply w_gt | apply w_t | apply w_f | apply w_if | apply e_pure | apply e_set | apply e_tru | apply q_cond | apply w_ge | apply w_le | apply w_neg | apply w_eq | apply w_ne) | ((with_reducible first | apply w_get | apply e_get); · first | exact rfl | assumption))); try with_reducible apply w_end)
    refine MW_compPure (us := slotV q) (n := 4096) (t := law_holds_c5_t) (c := law_holds_c5_i) (e := (do let o ← (getv "row"); let i ← (getv "at"); getI o i))
      (fun v => match v with | .int k => some (nth row k.toNat) | _ => none) (fun _ _ => rfl) (ok_obj (by exact ho)) (show 0 < st.length by (first | lia | omega)) (nxt_obj (by exact ho)) (by rw [slot_length]; (first | lia | omega)) (by rw [slot_length]; (first | lia | omega)) ?_ ?_
    · intro v hv σ' hag hlo
      obtain ⟨i, hi, rfl⟩ := List.mem_map.mp hv
      have hi' : i < 15 := by simpa using hi
      have h0 : σ'.st[r]? = some (.lst row) := (hag r hst).trans hr
      have h1 : σ'.lo "row" = some (.obj r) := (hlo "row" (by simp)).trans rfl
      unfold law_holds_c5_t law_holds_c5_i
      ((repeat (first | (with_reducible first | apply w_as | apply w_pure | apply w_set | apply w_tru | apply w_add | apply w_sub | apply w_lt | apply w_gt | apply w_t | apply w_f | apply w_if | apply e_pure | apply e_set | apply e_tru | apply q_cond | apply w_ge | apply w_le | apply w_neg | apply w_eq | apply w_ne) | ((with_reducible first | apply w_get | apply e_get); · first | exact rfl | assumption))); try with_reducible apply w_end)
      refine ⟨rfl, ?_, ?_⟩
      · intro x hx
        rw [List.mem_singleton.mp hx]; rfl
      ((repeat (first | (with_reducible first | apply w_as | apply w_pure | apply w_set | apply w_tru | apply w_add | apply w_sub | apply w_lt | apply w_gt | apply w_t | apply w_f | apply w_if | apply e_pure | apply e_set | apply e_tru | apply q_cond | apply w_ge | apply w_le | apply w_neg | apply w_eq | apply w_ne) | ((with_reducible first | apply w_get | apply e_get); · first | exact rfl | assumption))); try with_reducible apply w_end)
      refine ⟨rfl, rfl, ?_⟩
      ((repeat (first | (with_reducible first | apply w_as | apply w_pure | apply w_set | apply w_tru | apply w_add | apply w_sub | apply w_lt | apply w_gt | apply w_t | apply w_f | apply w_if | apply e_pure | apply e_set | apply e_tru | apply q_cond | apply w_ge | apply w_le | apply w_neg | apply w_eq | apply w_ne) | ((with_reducible first | apply w_get | apply e_get); · first | exact rfl | assumption))); try with_reducible apply w_end)
      refine (MW_getN (j := pos (q + 3) i) (by exact h0) rfl ((R.half hq i).mpr hi')).mpr ?_
      exact ⟨rfl, rfl⟩
    intro k1 st1 p1 f1 g1
    have hheld : ((slotV q).filterMap fun v => match v with | .int k => some (nth row k.toNat) | _ => none) = lad ms := by
      unfold slotV
      rw [List.filterMap_map]
      have : ∀ l : List Nat, (∀ i ∈ l, i < 15) → l.filterMap ((fun v => match v with | V.int k => some (nth row k.toNat) | _ => none) ∘ fun i => V.int (pos (q + 3) i : Nat)) = l.map fun i => nth (lad ms) i := by
        intro l hl
        induction l with
        | nil => rfl
        | cons a l ih =>
          rw [List.filterMap_cons, List.map_cons, ← ih fun i hi => hl i (List.mem_cons_of_mem _ hi)]
          have := R.que q hq a (hl a List.mem_cons_self)
          rw [hms] at this
          simp only [Function.comp, Int.toNat_natCast, this]
      rw [this _ (by intro i hi; simpa using hi)]
      have hll : (lad ms).length = 15 := lad_length hle
      refine ext_nth (by simp [hll]) fun k hk => ?_
      have hk' : k < 15 := by simpa using hk
      unfold nth
      rw [List.getElem?_map, List.getElem?_range hk']
      rfl
    rw [hheld] at g1
    have hm1 := p1.get0 hm
    ((repeat (first | (with_reducible first | apply w_as | apply w_pure | apply w_set | apply w_tru | apply w_add | apply w_sub | apply w_lt | apply w_gt | apply w_t | apply w_f | apply w_if | apply e_pure | apply e_set | apply e_tru | apply q_cond | apply w_ge | apply w_le | apply w_neg | apply w_eq | apply w_ne) | ((with_reducible first | apply w_get | apply e_get); · first | exact rfl | assumption))); try with_reducible apply w_end)
    unfold law_holds_s6
    apply w_seq
    ((repeat (first | (with_reducible first | apply w_as | apply w_pure | apply w_set | apply w_tru | apply w_add | apply w_sub | apply w_lt | apply w_gt | apply w_t | apply w_f | apply w_if | apply e_pure | apply e_set | apply e_tru | apply q_cond | apply w_ge | apply w_le | apply w_neg | apply w_eq | apply w_ne) | ((with_reducible first | apply w_get | apply e_get); · first | exact rfl | assumption))); try with_reducible apply w_end)
    refine (MW_len (by exact hm1)).mpr ?_
    ((repeat (first | (with_reducible first | apply w_as | apply w_pure | apply w_set | apply w_tru | apply w_add | apply w_sub | apply w_lt | apply w_gt | apply w_t | apply w_f | apply w_if | apply e_pure | apply e_set | apply e_tru | apply q_cond | apply w_ge | apply w_le | apply w_neg | apply w_eq | apply w_ne) | ((with_reducible first | apply w_get | apply e_get); · first | exact rfl | assumption))); try with_reducible apply w_end)
    refine MW_sl1 ms.length (by exact g1) (by rw [List.length_map, hks]) fun k2 st2 p2 f2 g2 => ?_
    ((repeat (first | (with_reducible first | apply w_as | apply w_pure | apply w_set | apply w_tru | apply w_add | apply w_sub | apply w_lt | apply w_gt | apply w_t | apply w_f | apply w_if | apply e_pure | apply e_set | apply e_tru | apply q_cond | apply w_ge | apply w_le | apply w_neg | apply w_eq | apply w_ne) | ((with_reducible first | apply w_get | apply e_get); · first | exact rfl | assumption))); try with_reducible apply w_end)
    refine (MW_mkT (by simp)).mpr ?_
    ((repeat (first | (with_reducible first | apply w_as | apply w_pure | apply w_set | apply w_tru | apply w_add | apply w_sub | apply w_lt | apply w_gt | apply w_t | apply w_f | apply w_if | apply e_pure | apply e_set | apply e_tru | apply q_cond | apply w_ge | apply w_le | apply w_neg | apply w_eq | apply w_ne) | ((with_reducible first | apply w_get | apply e_get); · first | exact rfl | assumption))); try with_reducible apply w_end)
    refine MW_newL' (by simp) fun k3 st3 p3 f3 g3 => ?_
    ((repeat (first | (with_reducible first | apply w_as | apply w_pure | apply w_set | apply w_tru | apply w_add | apply w_sub | apply w_lt | apply w_gt | apply w_t | apply w_f | apply w_if | apply e_pure | apply e_set | apply e_tru | apply q_cond | apply w_ge | apply w_le | apply w_neg | apply w_eq | apply w_ne) | ((with_reducible first | apply w_get | apply e_get); · first | exact rfl | assumption))); try with_reducible apply w_end)
    refine (MW_len (by exact p3.get0 (p2.get0 hm1))).mpr ?_
    ((repeat (first | (with_reducible first | apply w_as | apply w_pure | apply w_set | apply w_tru | apply w_add | apply w_sub | apply w_lt | apply w_gt | apply w_t | apply w_f | apply w_if | apply e_pure | apply e_set | apply e_tru | apply q_cond | apply w_ge | apply w_le | apply w_neg | apply w_eq | apply w_ne) | ((with_reducible first | apply w_get | apply e_get); · first | exact rfl | assumption))); try with_reducible apply w_end)
    refine MW_mulL' (by exact g3) (by rw [List.length_map]; simp; (first | lia | omega)) fun k4 st4 p4 f4 g4 => ?_
    have e4 : (List.replicate ((15 : Int) - ((ks.map V.int).length : Nat)).toNat [V.tup [V.int 1]]).flatten = (List.replicate (15 - ms.length) [(1 : Int)]).map tI := by
      rw [List.length_map, hks, show ((15 : Int) - (ms.length : Nat)).toNat = 15 - ms.length by (first | lia | omega), List.map_replicate]
      induction (15 - ms.length) with
      | zero => rfl
      | succ n ih => rw [List.replicate_succ, List.flatten_cons, ih, List.replicate_succ]; rfl
    rw [e4] at g4
    have e2 : (lad ms).drop ms.length = (List.replicate (15 - ms.length) [(1 : Int)]).map tI := by
      unfold lad
      rw [List.drop_append_of_le_length (by simp), List.drop_of_length_le (by simp), List.nil_append, List.map_replicate]; rfl
    rw [e2] at g2
    ((repeat (first | (with_reducible first | apply w_as | apply w_pure | apply w_set | apply w_tru | apply w_add | apply w_sub | apply w_lt | apply w_gt | apply w_t | apply w_f | apply w_if | apply e_pure | apply e_set | apply e_tru | apply q_cond | apply w_ge | apply w_le | apply w_neg | apply w_eq | apply w_ne) | ((with_reducible first | apply w_get | apply e_get); · first | exact rfl | assumption))); try with_reducible apply w_end)
    refine MW_neTL (by exact p4.get0 (p3.get0 g2)) (by exact g4) ?_
    ((repeat (first | (with_reducible first | apply w_as | apply w_pure | apply w_set | apply w_tru | apply w_add | apply w_sub | apply w_lt | apply w_gt | apply w_t | apply w_f | apply w_if | apply e_pure | apply e_set | apply e_tru | apply q_cond | apply w_ge | apply w_le | apply w_neg | apply w_eq | apply w_ne) | ((with_reducible first | apply w_get | apply e_get); · first | exact rfl | assumption))); try with_reducible apply w_end)
    rw [decide_eq_true rfl, if_neg (by decide)]
    ((repeat (first | (with_reducible first | apply w_as | apply w_pure | apply w_set | apply w_tru | apply w_add | apply w_sub | apply w_lt | apply w_gt | apply w_t | apply w_f | apply w_if | apply e_pure | apply e_set | apply e_tru | apply q_cond | apply w_ge | apply w_le | apply w_neg | apply w_eq | apply w_ne) | ((with_reducible first | apply w_get | apply e_get); · first | exact rfl | assumption))); try with_reducible apply w_end)
    unfold law_holds_s4
    apply w_seq
    ((repeat (first | (with_reducible first | apply w_as | apply w_pure | apply w_set | apply w_tru | apply w_add | apply w_sub | apply w_lt | apply w_gt | apply w_t | apply w_f | apply w_if | apply e_pure | apply e_set | apply e_tru | apply q_cond | apply w_ge | apply w_le | apply w_neg | apply w_eq | apply w_ne) | ((with_reducible first | apply w_get | apply e_get); · first | exact rfl | assumption))); try with_reducible apply w_end)
    have P4 : Pres [] st1 st4 := p2.trans (p3.trans p4)
    refine (MW_len (by exact P4.get0 hm1)).mpr ?_
    ((repeat (first | (with_reducible first | apply w_as | apply w_pure | apply w_set | apply w_tru | apply w_add | apply w_sub | apply w_lt | apply w_gt | apply w_t | apply w_f | apply w_if | apply e_pure | apply e_set | apply e_tru | apply q_cond | apply w_ge | apply w_le | apply w_neg | apply w_eq | apply w_ne) | ((with_reducible first | apply w_get | apply e_get); · first | exact rfl | assumption))); try with_reducible apply w_end)
    refine MW_sl0 ms.length (by exact P4.get0 g1) (by rw [List.length_map, hks]) fun k5 st5 p5 f5 g5 => ?_
    have e5 : (lad ms).take ms.length = ms.map itm := by
      unfold lad
      rw [List.take_append_of_le_length (by simp), List.take_of_length_le (by simp)]
    rw [e5] at g5
    ((repeat (first | (with_reducible first | apply w_as | apply w_pure | apply w_set | apply w_tru | apply w_add | apply w_sub | apply w_lt | apply w_gt | apply w_t | apply w_f | apply w_if | apply e_pure | apply e_set | apply e_tru | apply q_cond | apply w_ge | apply w_le | apply w_neg | apply w_eq | apply w_ne) | ((with_reducible first | apply w_get | apply e_get); · first | exact rfl | assumption))); try with_reducible apply w_end)
    refine MW_sorted2T (by exact g5) (tups_itm ms) (by simp; (first | lia | omega)) fun k6 st6 p6 f6 g6 => ?_
    ((repeat (first | (with_reducible first | apply w_as | apply w_pure | apply w_set | apply w_tru | apply w_add | apply w_sub | apply w_lt | apply w_gt | apply w_t | apply w_f | apply w_if | apply e_pure | apply e_set | apply e_tru | apply q_cond | apply w_ge | apply w_le | apply w_neg | apply w_eq | apply w_ne) | ((with_reducible first | apply w_get | apply e_get); · first | exact rfl | assumption))); try with_reducible apply w_end)
    have P6 : Pres [] st1 st6 := P4.trans (p5.trans p6)
    refine MW_compPure (us := ks.map V.int) (n := 4096) (t := law_holds_c2_t) (c := law_holds_c2_i) (e := (do let vs ← (do let v ← (pure (V.int 0) : M V); let vs ← (do let v ← (getv "number"); let vs ← (pure [] : M (List V)); pure (v :: vs)); pure (v :: vs)); mkT vs))
      (fun v => some (.tup [.int 0, v])) (fun _ _ => rfl) (ok_obj (by exact P6.get0 hm1)) (by have := lt_of_get g6; show 0 < st6.length; (first | lia | omega)) (nxt_obj (by exact P6.get0 hm1)) (by simp; (first | lia | omega)) (by simp; (first | lia | omega)) ?_ ?_
    · intro v hv σ' hag hlo
      unfold law_holds_c2_t law_holds_c2_i
      ((repeat (first | (with_reducible first | apply w_as | apply w_pure | apply w_set | apply w_tru | apply w_add | apply w_sub | apply w_lt | apply w_gt | apply w_t | apply w_f | apply w_if | apply e_pure | apply e_set | apply e_tru | apply q_cond | apply w_ge | apply w_le | apply w_neg | apply w_eq | apply w_ne) | ((with_reducible first | apply w_get | apply e_get); · first | exact rfl | assumption))); try with_reducible apply w_end)
      refine ⟨rfl, List.forall_mem_nil _, ?_⟩
      ((repeat (first | (with_reducible first | apply w_as | apply w_pure | apply w_set | apply w_tru | apply w_add | apply w_sub | apply w_lt | apply w_gt | apply w_t | apply w_f | apply w_if | apply e_pure | apply e_set | apply e_tru | apply q_cond | apply w_ge | apply w_le | apply w_neg | apply w_eq | apply w_ne) | ((with_reducible first | apply w_get | apply e_get); · first | exact rfl | assumption))); try with_reducible apply w_end)
      refine ⟨rfl, rfl, ?_⟩
      ((repeat (first | (with_reducible first | apply w_as | apply w_pure | apply w_set | apply w_tru | apply w_add | apply w_sub | apply w_lt | apply w_gt | apply w_t | apply w_f | apply w_if | apply e_pure | apply e_set | apply e_tru | apply q_cond | apply w_ge | apply w_le | apply w_neg | apply w_eq | apply w_ne) | ((with_reducible first | apply w_get | apply e_get); · first | exact rfl | assumption))); try with_reducible apply w_end)
      refine (MW_mkT (by simp)).mpr ?_
      exact ⟨rfl, rfl⟩
    intro k7 st7 p7 f7 g7
    have e7 : (ks.map V.int).filterMap (fun v => some (V.tup [V.int 0, v])) = ks.map itm := by
      rw [List.filterMap_eq_map', List.map_map]; rfl
    rw [e7] at g7
    ((repeat (first | (with_reducible first | apply w_as | apply w_pure | apply w_set | apply w_tru | apply w_add | apply w_sub | apply w_lt | apply w_gt | apply w_t | apply w_f | apply w_if | apply e_pure | apply e_set | apply e_tru | apply q_cond | apply w_ge | apply w_le | apply w_neg | apply w_eq | apply w_ne) | ((with_reducible first | apply w_get | apply e_get); · first | exact rfl | assumption))); try with_reducible apply w_end)
    refine MW_sorted2T (by exact g7) (tups_itm ks) (by simp; (first | lia | omega)) fun k8 st8 p8 f8 g8 => ?_
    ((repeat (first | (with_reducible first | apply w_as | apply w_pure | apply w_set | apply w_tru | apply w_add | apply w_sub | apply w_lt | apply w_gt | apply w_t | apply w_f | apply w_if | apply e_pure | apply e_set | apply e_tru | apply q_cond | apply w_ge | apply w_le | apply w_neg | apply w_eq | apply w_ne) | ((with_reducible first | apply w_get | apply e_get); · first | exact rfl | assumption))); try with_reducible apply w_end)
    obtain ⟨ws, ew, pw, _⟩ := sortTup_map 0 false itm (fun n => [0, n]) ks
    rw [sort_same pk, ew, itm_tI] at g6
    rw [ew, itm_tI] at g8
    refine MW_neTL (by exact p8.get0 (p7.get0 g6)) (by exact g8) ?_
    ((repeat (first | (with_reducible first | apply w_as | apply w_pure | apply w_set | apply w_tru | apply w_add | apply w_sub | apply w_lt | apply w_gt | apply w_t | apply w_f | apply w_if | apply e_pure | apply e_set | apply e_tru | apply q_cond | apply w_ge | apply w_le | apply w_neg | apply w_eq | apply w_ne) | ((with_reducible first | apply w_get | apply e_get); · first | exact rfl | assumption))); try with_reducible apply w_end)
    rw [decide_eq_true rfl, if_neg (by decide)]
    ((repeat (first | (with_reducible first | apply w_as | apply w_pure | apply w_set | apply w_tru | apply w_add | apply w_sub | apply w_lt | apply w_gt | apply w_t | apply w_f | apply w_if | apply e_pure | apply e_set | apply e_tru | apply q_cond | apply w_ge | apply w_le | apply w_neg | apply w_eq | apply w_ne) | ((with_reducible first | apply w_get | apply e_get); · first | exact rfl | assumption))); try with_reducible apply w_end)
    unfold law_holds_s3
    have P8 : Pres [] st1 st8 := P6.trans (p7.trans p8)
    ((repeat (first | (with_reducible first | apply w_as | apply w_pure | apply w_set | apply w_tru | apply w_add | apply w_sub | apply w_lt | apply w_gt | apply w_t | apply w_f | apply w_if | apply e_pure | apply e_set | apply e_tru | apply q_cond | apply w_ge | apply w_le | apply w_neg | apply w_eq | apply w_ne) | ((with_reducible first | apply w_get | apply e_get); · first | exact rfl | assumption))); try with_reducible apply w_end)
    refine (MW_len (by exact P8.get0 hm1)).mpr ?_
    ((repeat (first | (with_reducible first | apply w_as | apply w_pure | apply w_set | apply w_tru | apply w_add | apply w_sub | apply w_lt | apply w_gt | apply w_t | apply w_f | apply w_if | apply e_pure | apply e_set | apply e_tru | apply q_cond | apply w_ge | apply w_le | apply w_neg | apply w_eq | apply w_ne) | ((with_reducible first | apply w_get | apply e_get); · first | exact rfl | assumption))); try with_reducible apply w_end)
    refine MW_rng2 ?_
    ((repeat (first | (with_reducible first | apply w_as | apply w_pure | apply w_set | apply w_tru | apply w_add | apply w_sub | apply w_lt | apply w_gt | apply w_t | apply w_f | apply w_if | apply e_pure | apply e_set | apply e_tru | apply q_cond | apply w_ge | apply w_le | apply w_neg | apply w_eq | apply w_ne) | ((with_reducible first | apply w_get | apply e_get); · first | exact rfl | assumption))); try with_reducible apply w_end)
    refine MW_compPure (us := (List.range (ms.length - 1)).map fun (j : Nat) => V.int (1 + j)) (n := 4096) (t := law_holds_c1_t) (c := law_holds_c1_i) (e := getv "k")
      (fun v => none) (fun _ _ => rfl) (ok_rng (rngU_small (by (first | lia | omega)) (by rw [List.length_map]; (first | lia | omega)) (by (first | lia | omega)))) (by have := lt_of_get g8; show 0 < st8.length; (first | lia | omega)) (fun σ' i _ => nxt_rngU σ' i (by rw [List.length_map]; (first | lia | omega))) (by simp; (first | lia | omega)) (by simp; (first | lia | omega)) ?_ ?_
    · intro v hv σ' hag hlo
      obtain ⟨j, hj, rfl⟩ := List.mem_map.mp hv
      have hj' : j < ms.length - 1 := by simpa using hj
      have h0 : σ'.st[k1]? = some (.lst (lad ms)) := (hag k1 (by have := lt_of_get (P8.get0 g1); exact this)).trans (P8.get0 g1)
      have h1 : σ'.lo "held" = some (.obj k1) := (hlo "held" (by simp)).trans rfl
      unfold law_holds_c1_t law_holds_c1_i
      ((repeat (first | (with_reducible first | apply w_as | apply w_pure | apply w_set | apply w_tru | apply w_add | apply w_sub | apply w_lt | apply w_gt | apply w_t | apply w_f | apply w_if | apply e_pure | apply e_set | apply e_tru | apply q_cond | apply w_ge | apply w_le | apply w_neg | apply w_eq | apply w_ne) | ((with_reducible first | apply w_get | apply e_get); · first | exact rfl | assumption))); try with_reducible apply w_end)
      refine ⟨rfl, ?_, ?_⟩
      · intro x hx
        rw [List.mem_singleton.mp hx]; rfl
      ((repeat (first | (with_reducible first | apply w_as | apply w_pure | apply w_set | apply w_tru | apply w_add | apply w_sub | apply w_lt | apply w_gt | apply w_t | apply w_f | apply w_if | apply e_pure | apply e_set | apply e_tru | apply q_cond | apply w_ge | apply w_le | apply w_neg | apply w_eq | apply w_ne) | ((with_reducible first | apply w_get | apply e_get); · first | exact rfl | assumption))); try with_reducible apply w_end)
      refine (MW_getN (j := 1 + j) (by exact h0) (by (first | lia | omega)) (by rw [lad_length hle]; (first | lia | omega))).mpr ?_
      ((repeat (first | (with_reducible first | apply w_as | apply w_pure | apply w_set | apply w_tru | apply w_add | apply w_sub | apply w_lt | apply w_gt | apply w_t | apply w_f | apply w_if | apply e_pure | apply e_set | apply e_tru | apply q_cond | apply w_ge | apply w_le | apply w_neg | apply w_eq | apply w_ne) | ((with_reducible first | apply w_get | apply e_get); · first | exact rfl | assumption))); try with_reducible apply w_end)
      rw [MW_fdiv]
      refine ⟨by (first | lia | omega), ?_⟩
      ((repeat (first | (with_reducible first | apply w_as | apply w_pure | apply w_set | apply w_tru | apply w_add | apply w_sub | apply w_lt | apply w_gt | apply w_t | apply w_f | apply w_if | apply e_pure | apply e_set | apply e_tru | apply q_cond | apply w_ge | apply w_le | apply w_neg | apply w_eq | apply w_ne) | ((with_reducible first | apply w_get | apply e_get); · first | exact rfl | assumption))); try with_reducible apply w_end)
      refine (MW_getN (j := (1 + j - 1) / 2) (by exact h0) (by (first | lia | omega)) (by rw [lad_length hle]; (first | lia | omega))).mpr ?_
      rw [nth_lad (by (first | lia | omega)), nth_lad (by (first | lia | omega))]
      unfold itm
      ((repeat (first | (with_reducible first | apply w_as | apply w_pure | apply w_set | apply w_tru | apply w_add | apply w_sub | apply w_lt | apply w_gt | apply w_t | apply w_f | apply w_if | apply e_pure | apply e_set | apply e_tru | apply q_cond | apply w_ge | apply w_le | apply w_neg | apply w_eq | apply w_ne) | ((with_reducible first | apply w_get | apply e_get); · first | exact rfl | assumption))); try with_reducible apply w_end)
      rw [MW_ltT]
      ((repeat (first | (with_reducible first | apply w_as | apply w_pure | apply w_set | apply w_tru | apply w_add | apply w_sub | apply w_lt | apply w_gt | apply w_t | apply w_f | apply w_if | apply e_pure | apply e_set | apply e_tru | apply q_cond | apply w_ge | apply w_le | apply w_neg | apply w_eq | apply w_ne) | ((with_reducible first | apply w_get | apply e_get); · first | exact rfl | assumption))); try with_reducible apply w_end)
      refine ⟨rfl, ?_⟩
      have := (R.hp q hq).pair (1 + j) (by (first | lia | omega)) (by rw [hms]; (first | lia | omega))
      rw [hms] at this
      have h2 := lt_itm (nth ms (1 + j)) (nth ms ((1 + j - 1) / 2))
      unfold itm at h2
      rw [ltT_tI (by simp) (by simp)] at h2
      show lexB _ _ = false
      rw [h2]
      exact decide_eq_false (by (first | lia | omega))
    intro k9 st9 p9 f9 g9
    ((repeat (first | (with_reducible first | apply w_as | apply w_pure | apply w_set | apply w_tru | apply w_add | apply w_sub | apply w_lt | apply w_gt | apply w_t | apply w_f | apply w_if | apply e_pure | apply e_set | apply e_tru | apply q_cond | apply w_ge | apply w_le | apply w_neg | apply w_eq | apply w_ne) | ((with_reducible first | apply w_get | apply e_get); · first | exact rfl | assumption))); try with_reducible apply w_end)
    refine MW_newL' (by simp) fun k10 st10 p10 f10 g10 => ?_
    have e9 : ((List.range (ms.length - 1)).map fun (j : Nat) => V.int (1 + j)).filterMap (fun _ => (none : Option V)) = ([] : List Int).map V.int := by
      rw [List.map_nil, List.filterMap_eq_nil_iff]; intro _ _; rfl
    rw [e9] at g9
    ((repeat (first | (with_reducible first | apply w_as | apply w_pure | apply w_set | apply w_tru | apply w_add | apply w_sub | apply w_lt | apply w_gt | apply w_t | apply w_f | apply w_if | apply e_pure | apply e_set | apply e_tru | apply q_cond | apply w_ge | apply w_le | apply w_neg | apply w_eq | apply w_ne) | ((with_reducible first | apply w_get | apply e_get); · first | exact rfl | assumption))); try with_reducible apply w_end)
    refine (MW_eqL (bs := []) (by exact p10.get0 g9) (by exact g10)).mpr ?_
    ((repeat (first | (with_reducible first | apply w_as | apply w_pure | apply w_set | apply w_tru | apply w_add | apply w_sub | apply w_lt | apply w_gt | apply w_t | apply w_f | apply w_if | apply e_pure | apply e_set | apply e_tru | apply q_cond | apply w_ge | apply w_le | apply w_neg | apply w_eq | apply w_ne) | ((with_reducible first | apply w_get | apply e_get); · first | exact rfl | assumption))); try with_reducible apply w_end)
    exact ⟨rfl, p1.trans (P8.trans (p9.trans p10))⟩
  obtain ⟨v, st', e, rfl, p⟩ := key
  exact ⟨st', e, p⟩
end Mine


/-! part L01b -/
set_option autoImplicit false
set_option maxRecDepth 100000
set_option linter.unusedVariables false
set_option linter.unusedSimpArgs false
open PySem PySem.W PyProof.Rows
namespace Mine

/-! ### the state between the calls -/
structure Sto (st : Store) (row : List V) (kss : Nat → List Int) : Prop where
  s1 : st[1]? = some (.lst [.obj 2, .obj 3, .obj 4, .obj 5])
  s2 : ∀ q, q < 4 → st[2 + q]? = some (.lst (slotV q))
  s3 : st[10]? = some (.lst row)
  s4 : st[15]? = some (.lst [.obj 11, .obj 12, .obj 13, .obj 14])
  s5 : ∀ q, q < 4 → st[11 + q]? = some (.lst ((kss q).map V.int))
theorem Sto.pres {st st' : Store} {row : List V} {kss : Nat → List Int} (h : Sto st row kss) (p : Pres [] st st') : Sto st' row kss :=
  ⟨p.get0 h.s1, fun q hq => p.get0 (h.s2 q hq), p.get0 h.s3, p.get0 h.s4, fun q hq => p.get0 (h.s5 q hq)⟩
theorem Sto.row {st : Store} {row row' : List V} {kss : Nat → List Int} (h : Sto st row kss) : Sto (st.set 10 (.lst row')) row' kss :=
  ⟨by rw [List.getElem?_set_ne (by (first | lia | omega))]; exact h.s1, fun q hq => by rw [List.getElem?_set_ne (by (first | lia | omega))]; exact h.s2 q hq, set_get h.s3,
    by rw [List.getElem?_set_ne (by (first | lia | omega))]; exact h.s4, fun q hq => by rw [List.getElem?_set_ne (by (first | lia | omega))]; exact h.s5 q hq⟩
theorem Sto.mine {st : Store} {row : List V} {kss : Nat → List Int} {q : Nat} {ks : List Int} (h : Sto st row kss) (hq : q < 4) : Sto (st.set (11 + q) (.lst (ks.map V.int))) row (upd kss q ks) :=
  ⟨by rw [List.getElem?_set_ne (by (first | lia | omega))]; exact h.s1, fun p hp => by rw [List.getElem?_set_ne (by (first | lia | omega))]; exact h.s2 p hp, by rw [List.getElem?_set_ne (by (first | lia | omega))]; exact h.s3,
    by rw [List.getElem?_set_ne (by (first | lia | omega))]; exact h.s4, fun p hp => by
      unfold upd
      by_cases e : p = q
      · subst e; rw [if_pos rfl]; exact set_get (h.s5 p hp)
      · rw [if_neg e, List.getElem?_set_ne (by (first | lia | omega))]; exact h.s5 p hp⟩
/-- what is new stays -/
noncomputable def Far (st st' : Store) : Prop := st.length ≤ st'.length ∧ ∀ k, 16 ≤ k → k < st.length → st'[k]? = st[k]?
theorem Far.refl (st : Store) : Far st st := ⟨Nat.le_refl _, fun _ _ _ => rfl⟩
theorem Far.trans {a b c : Store} (x : Far a b) (y : Far b c) : Far a c := ⟨Nat.le_trans x.1 y.1, fun k h1 h2 => (y.2 k h1 (by have := x.1; (first | lia | omega))).trans (x.2 k h1 h2)⟩
theorem Far.pres {a b : Store} (p : Pres [] a b) : Far a b := ⟨p.1, fun k _ h => p.2 k h (by simp)⟩
theorem Far.set {a : Store} {l : Nat} {c : Cel} (h : l < 16) : Far a (a.set l c) := ⟨by simp, fun k h1 _ => List.getElem?_set_ne (by (first | lia | omega))⟩

theorem map_eraseI {α β : Type} (f : α → β) : ∀ (l : List α) (i : Nat), (l.map f).eraseIdx i = (l.eraseIdx i).map f
  | [], i => rfl
  | a :: l, 0 => rfl
  | a :: l, i + 1 => by rw [List.map_cons, List.eraseIdx_cons_succ, List.eraseIdx_cons_succ, List.map_cons, map_eraseI f l i]
theorem MW_remove {σ : S} {l : Nat} {k : Int} {ks : List Int} {Q : V → S → Prop} (h : σ.st[l]? = some (.lst (ks.map V.int))) (hl : l ≠ 0) (hk : k ∈ ks) (q : Q .none { σ with st := σ.st.set l (.lst ((ks.erase k).map V.int)) }) : MW (removeG (.obj l) [.int k]) σ Q := by
  refine (MW_fun_ok ?_).mpr q
  simp only [removeG, if_neg hl, h, intsOf_map, if_pos hk, List.erase_eq_eraseIdx_of_idxOf (rfl : List.idxOf k ks = _), map_eraseI]

theorem s22_ok {σ : S} {q : Nat} {row : List V} {mss kss : Nat → List Int} {Q : Fl → S → Prop} (hS : Sto σ.st row kss) (R : RowOk row mss) (hq : q < 4) (pk : (mss q).Perm (kss q)) (h1 : σ.lo "row" = some (.obj 10)) (h2 : σ.lo "own" = some (.obj (2 + q)))
    (h3 : σ.lo "mine" = some (.obj (11 + q))) (q1 : ∀ st', Pres [] σ.st st' → Q .next ⟨st', σ.lo⟩) : MW law_s22 σ Q := by
  obtain ⟨st', e, p⟩ := law_holds_ok hS.s3 (hS.s2 q hq) (hS.s5 q hq) hq R pk
  unfold law_s22
  ((repeat (first | (with_reducible first | apply w_as | apply w_pure | apply w_set | apply w_tru | apply w_add | apply w_sub | apply w_lt | apply w_gt | apply w_t | apply w_f | apply w_if | apply e_pure | apply e_set | apply e_tru | apply q_cond | apply w_ge | apply w_le | apply w_neg | apply w_eq | apply w_ne) | ((with_reducible first | apply w_get | apply e_get); · first | exact rfl | assumption))); try with_reducible apply w_end)
  refine MW_callF' (by exact e) ?_
  ((repeat (first | (with_reducible first | apply w_as | apply w_pure | apply w_set | apply w_tru | apply w_add | apply w_sub | apply w_lt | apply w_gt | apply w_t | apply w_f | apply w_if | apply e_pure | apply e_set | apply e_tru | apply q_cond | apply w_ge | apply w_le | apply w_neg | apply w_eq | apply w_ne) | ((with_reducible first | apply w_get | apply e_get); · first | exact rfl | assumption))); try with_reducible apply w_end)
  rw [if_neg (by decide)]
  ((repeat (first | (with_reducible first | apply w_as | apply w_pure | apply w_set | apply w_tru | apply w_add | apply w_sub | apply w_lt | apply w_gt | apply w_t | apply w_f | apply w_if | apply e_pure | apply e_set | apply e_tru | apply q_cond | apply w_ge | apply w_le | apply w_neg | apply w_eq | apply w_ne) | ((with_reducible first | apply w_get | apply e_get); · first | exact rfl | assumption))); try with_reducible apply w_end)
  exact q1 st' p

theorem perm_nth {ms ks : List Int} (h : ms.Perm ks) {i : Nat} (hi : i < ms.length) : nth ms i ∈ ks := h.mem_iff.mp (nth_mem hi)

/-! ### the least goes out -/
noncomputable def Goal (σ : S) (f : Fl) (σ' : S) : Prop := f = .next ∧ (∃ row' mss' kss', Sto σ'.st row' kss' ∧ RowOk row' mss' ∧ ∀ q, q < 4 → (mss' q).Perm (kss' q)) ∧ Far σ.st σ'.st ∧ ∀ y ∈ ["slots", "row", "kept", "words", "drawn", "own", "mine"], σ'.lo y = σ.lo y
theorem upd_self {mss : Nat → List Int} {q : Nat} {ms : List Int} : upd mss q ms q = ms := by unfold upd; rw [if_pos rfl]
theorem upd_perm {mss kss : Nat → List Int} {q : Nat} {ms ks : List Int} (h : ∀ p, p < 4 → (mss p).Perm (kss p)) (h2 : ms.Perm ks) : ∀ p, p < 4 → (upd mss q ms p).Perm (upd kss q ks p) := by
  intro p hp
  unfold upd
  split
  · exact h2
  · exact h p hp
theorem popA {σ : S} {q : Nat} {row : List V} {mss kss : Nat → List Int} (hS : Sto σ.st row kss) (R : RowOk row mss) (hq : q < 4) (pk : ∀ q, q < 4 → (mss q).Perm (kss q)) (h1 : σ.lo "row" = some (.obj 10)) (h2 : σ.lo "own" = some (.obj (2 + q)))
    (h3 : σ.lo "mine" = some (.obj (11 + q))) (h0 : 0 < (kss q).length) (hlast : σ.lo "last" = some (itm (nth (mss q) ((mss q).length - 1)))) : MW law_s8 σ (Goal σ) := by
  have hlen : (kss q).length = (mss q).length := (pk q hq).length_eq.symm
  have hle := R.le q hq
  have hpk := pk q hq
  have hmin := (R.hp q hq).min
  generalize hms : mss q = ms at hlen hle hlast hpk hmin
  generalize hks : kss q = ks at hlen h0 hpk
  have hm0 : 0 < ms.length := by (first | lia | omega)
  have s2 := hS.s2 q hq
  have s5 := hS.s5 q hq
  rw [hks] at s5
  have hHalf := R.half hq
  have hpl : pos (q + 3) (ms.length - 1) < row.length := (hHalf _).mpr (by (first | lia | omega))
  -- the last place becomes free
  unfold law_s8
  apply w_seq
  ((repeat (first | (with_reducible first | apply w_as | apply w_pure | apply w_set | apply w_tru | apply w_add | apply w_sub | apply w_lt | apply w_gt | apply w_t | apply w_f | apply w_if | apply e_pure | apply e_set | apply e_tru | apply q_cond | apply w_ge | apply w_le | apply w_neg | apply w_eq | apply w_ne) | ((with_reducible first | apply w_get | apply e_get); · first | exact rfl | assumption))); try with_reducible apply w_end)
  refine (MW_mkT (by simp)).mpr ?_
  ((repeat (first | (with_reducible first | apply w_as | apply w_pure | apply w_set | apply w_tru | apply w_add | apply w_sub | apply w_lt | apply w_gt | apply w_t | apply w_f | apply w_if | apply e_pure | apply e_set | apply e_tru | apply q_cond | apply w_ge | apply w_le | apply w_neg | apply w_eq | apply w_ne) | ((with_reducible first | apply w_get | apply e_get); · first | exact rfl | assumption))); try with_reducible apply w_end)
  refine (MW_len (by exact s5)).mpr ?_
  ((repeat (first | (with_reducible first | apply w_as | apply w_pure | apply w_set | apply w_tru | apply w_add | apply w_sub | apply w_lt | apply w_gt | apply w_t | apply w_f | apply w_if | apply e_pure | apply e_set | apply e_tru | apply q_cond | apply w_ge | apply w_le | apply w_neg | apply w_eq | apply w_ne) | ((with_reducible first | apply w_get | apply e_get); · first | exact rfl | assumption))); try with_reducible apply w_end)
  refine (MW_getN (j := ms.length - 1) (by exact s2) (by rw [List.length_map]; (first | lia | omega)) (by rw [slot_length]; (first | lia | omega))).mpr ?_
  rw [slot_at (by (first | lia | omega))]
  ((repeat (first | (with_reducible first | apply w_as | apply w_pure | apply w_set | apply w_tru | apply w_add | apply w_sub | apply w_lt | apply w_gt | apply w_t | apply w_f | apply w_if | apply e_pure | apply e_set | apply e_tru | apply q_cond | apply w_ge | apply w_le | apply w_neg | apply w_eq | apply w_ne) | ((with_reducible first | apply w_get | apply e_get); · first | exact rfl | assumption))); try with_reducible apply w_end)
  refine (MW_setI (by exact hS.s3) (by (first | lia | omega)) rfl hpl).mpr ?_
  ((repeat (first | (with_reducible first | apply w_as | apply w_pure | apply w_set | apply w_tru | apply w_add | apply w_sub | apply w_lt | apply w_gt | apply w_t | apply w_f | apply w_if | apply e_pure | apply e_set | apply e_tru | apply q_cond | apply w_ge | apply w_le | apply w_neg | apply w_eq | apply w_ne) | ((with_reducible first | apply w_get | apply e_get); · first | exact rfl | assumption))); try with_reducible apply w_end)
  have eset : ∀ k, k < 15 → ∀ x, row.set (pos (q + 3) k) x = lay (q + 3) ((lad ms).set k x) 15 row := fun k hk x => by have := R.set hq hk x; rwa [hms] at this
  have hS1 : Sto (σ.st.set 10 (.lst (lay (q + 3) ((lad ms).set (ms.length - 1) inf) 15 row))) (lay (q + 3) ((lad ms).set (ms.length - 1) inf) 15 row) kss := hS.row
  rw [show V.tup [V.int 1] = inf from rfl, eset _ (by (first | lia | omega))]
  generalize hst1 : σ.st.set 10 (.lst (lay (q + 3) ((lad ms).set (ms.length - 1) inf) 15 row)) = st1 at hS1
  have hF1 : Far σ.st st1 := by rw [← hst1]; exact Far.set (by (first | lia | omega))
  unfold law_s7
  apply w_seq
  ((repeat (first | (with_reducible first | apply w_as | apply w_pure | apply w_set | apply w_tru | apply w_add | apply w_sub | apply w_lt | apply w_gt | apply w_t | apply w_f | apply w_if | apply e_pure | apply e_set | apply e_tru | apply q_cond | apply w_ge | apply w_le | apply w_neg | apply w_eq | apply w_ne) | ((with_reducible first | apply w_get | apply e_get); · first | exact rfl | assumption))); try with_reducible apply w_end)
  unfold law_s6
  apply w_seq
  have t5 := hS1.s5 q hq
  rw [hks] at t5
  have hl15 : ∀ i x, ((lad ms).set i x).length = 15 := fun i x => by rw [List.length_set, lad_length hle]
  -- the end: the number goes from the list
  have fin : ∀ (st2 : Store) (row2 : List V) (ms2 : List Int) (lo2 : String → Option V), Sto st2 row2 kss → RowOk row2 (upd mss q ms2) → Far σ.st st2 → ms2.Perm (ks.erase (nth ms 0)) → lo2 "mine" = some (.obj (11 + q)) → lo2 "told" = some (itm (nth ms 0)) →
      (∀ y ∈ ["slots", "row", "kept", "words", "drawn", "own", "mine"], lo2 y = σ.lo y) → MW law_s5 ⟨st2, lo2⟩ (Goal σ) := by
    intro st2 row2 ms2 lo2 hS2 R2 hF2 p2 l1 l2 l3
    have u5 := hS2.s5 q hq
    rw [hks] at u5
    unfold law_s5
    apply w_seq
    ((repeat (first | (with_reducible first | apply w_as | apply w_pure | apply w_set | apply w_tru | apply w_add | apply w_sub | apply w_lt | apply w_gt | apply w_t | apply w_f | apply w_if | apply e_pure | apply e_set | apply e_tru | apply q_cond | apply w_ge | apply w_le | apply w_neg | apply w_eq | apply w_ne) | ((with_reducible first | apply w_get | apply e_get); · first | exact rfl | assumption))); try with_reducible apply w_end)
    refine MW_minLI (by exact u5) h0 fun t ht hmn => ?_
    have et : t = nth ms 0 := by
      have a1 := hmn _ (perm_nth hpk hm0)
      obtain ⟨j, hj, e⟩ := List.mem_iff_getElem.mp (hpk.mem_iff.mpr ht)
      have a2 := hmin j hj
      rw [nth_getElem hj, e] at a2
      (first | lia | omega)
    subst et
    ((repeat (first | (with_reducible first | apply w_as | apply w_pure | apply w_set | apply w_tru | apply w_add | apply w_sub | apply w_lt | apply w_gt | apply w_t | apply w_f | apply w_if | apply e_pure | apply e_set | apply e_tru | apply q_cond | apply w_ge | apply w_le | apply w_neg | apply w_eq | apply w_ne) | ((with_reducible first | apply w_get | apply e_get); · first | exact rfl | assumption))); try with_reducible apply w_end)
    refine (MW_mkT (by simp)).mpr ?_
    ((repeat (first | (with_reducible first | apply w_as | apply w_pure | apply w_set | apply w_tru | apply w_add | apply w_sub | apply w_lt | apply w_gt | apply w_t | apply w_f | apply w_if | apply e_pure | apply e_set | apply e_tru | apply q_cond | apply w_ge | apply w_le | apply w_neg | apply w_eq | apply w_ne) | ((with_reducible first | apply w_get | apply e_get); · first | exact rfl | assumption))); try with_reducible apply w_end)
    unfold itm at l2 ⊢
    refine (MW_neT (as := [0, nth ms 0]) (bs := [0, nth ms 0])).mpr ?_
    ((repeat (first | (with_reducible first | apply w_as | apply w_pure | apply w_set | apply w_tru | apply w_add | apply w_sub | apply w_lt | apply w_gt | apply w_t | apply w_f | apply w_if | apply e_pure | apply e_set | apply e_tru | apply q_cond | apply w_ge | apply w_le | apply w_neg | apply w_eq | apply w_ne) | ((with_reducible first | apply w_get | apply e_get); · first | exact rfl | assumption))); try with_reducible apply w_end)
    rw [decide_eq_true rfl, if_neg (by decide)]
    ((repeat (first | (with_reducible first | apply w_as | apply w_pure | apply w_set | apply w_tru | apply w_add | apply w_sub | apply w_lt | apply w_gt | apply w_t | apply w_f | apply w_if | apply e_pure | apply e_set | apply e_tru | apply q_cond | apply w_ge | apply w_le | apply w_neg | apply w_eq | apply w_ne) | ((with_reducible first | apply w_get | apply e_get); · first | exact rfl | assumption))); try with_reducible apply w_end)
    unfold law_s2
    ((repeat (first | (with_reducible first | apply w_as | apply w_pure | apply w_set | apply w_tru | apply w_add | apply w_sub | apply w_lt | apply w_gt | apply w_t | apply w_f | apply w_if | apply e_pure | apply e_set | apply e_tru | apply q_cond | apply w_ge | apply w_le | apply w_neg | apply w_eq | apply w_ne) | ((with_reducible first | apply w_get | apply e_get); · first | exact rfl | assumption))); try with_reducible apply w_end)
    refine (MW_chkL (by exact u5)).mpr ?_
    ((repeat (first | (with_reducible first | apply w_as | apply w_pure | apply w_set | apply w_tru | apply w_add | apply w_sub | apply w_lt | apply w_gt | apply w_t | apply w_f | apply w_if | apply e_pure | apply e_set | apply e_tru | apply q_cond | apply w_ge | apply w_le | apply w_neg | apply w_eq | apply w_ne) | ((with_reducible first | apply w_get | apply e_get); · first | exact rfl | assumption))); try with_reducible apply w_end)
    refine (MW_getTI (j := 1) rfl (by simp)).mpr ?_
    ((repeat (first | (with_reducible first | apply w_as | apply w_pure | apply w_set | apply w_tru | apply w_add | apply w_sub | apply w_lt | apply w_gt | apply w_t | apply w_f | apply w_if | apply e_pure | apply e_set | apply e_tru | apply q_cond | apply w_ge | apply w_le | apply w_neg | apply w_eq | apply w_ne) | ((with_reducible first | apply w_get | apply e_get); · first | exact rfl | assumption))); try with_reducible apply w_end)
    refine MW_remove (by exact u5) (by (first | lia | omega)) (perm_nth hpk hm0) ?_
    ((repeat (first | (with_reducible first | apply w_as | apply w_pure | apply w_set | apply w_tru | apply w_add | apply w_sub | apply w_lt | apply w_gt | apply w_t | apply w_f | apply w_if | apply e_pure | apply e_set | apply e_tru | apply q_cond | apply w_ge | apply w_le | apply w_neg | apply w_eq | apply w_ne) | ((with_reducible first | apply w_get | apply e_get); · first | exact rfl | assumption))); try with_reducible apply w_end)
    refine ⟨rfl, ⟨row2, upd mss q ms2, upd kss q (ks.erase (nth ms 0)), hS2.mine hq, R2, upd_perm pk p2⟩, hF2.trans (Far.set (by (first | lia | omega))), l3⟩
  ((repeat (first | (with_reducible first | apply w_as | apply w_pure | apply w_set | apply w_tru | apply w_add | apply w_sub | apply w_lt | apply w_gt | apply w_t | apply w_f | apply w_if | apply e_pure | apply e_set | apply e_tru | apply q_cond | apply w_ge | apply w_le | apply w_neg | apply w_eq | apply w_ne) | ((with_reducible first | apply w_get | apply e_get); · first | exact rfl | assumption))); try with_reducible apply w_end)
  refine (MW_len (by exact t5)).mpr ?_
  ((repeat (first | (with_reducible first | apply w_as | apply w_pure | apply w_set | apply w_tru | apply w_add | apply w_sub | apply w_lt | apply w_gt | apply w_t | apply w_f | apply w_if | apply e_pure | apply e_set | apply e_tru | apply q_cond | apply w_ge | apply w_le | apply w_neg | apply w_eq | apply w_ne) | ((with_reducible first | apply w_get | apply e_get); · first | exact rfl | assumption))); try with_reducible apply w_end)
  have hlo : ∀ y ∈ ["slots", "row", "kept", "words", "drawn", "own", "mine"], ∀ v, (σ.put "told" v).lo y = σ.lo y := by
    intro y hy v
    simp only [List.mem_cons, List.not_mem_nil, or_false] at hy
    rcases hy with rfl | rfl | rfl | rfl | rfl | rfl | rfl <;> rfl
  by_cases hm1 : 1 < ms.length
  · rw [if_pos (decide_eq_true (by rw [List.length_map]; (first | lia | omega)))]
    apply w_seq
    ((repeat (first | (with_reducible first | apply w_as | apply w_pure | apply w_set | apply w_tru | apply w_add | apply w_sub | apply w_lt | apply w_gt | apply w_t | apply w_f | apply w_if | apply e_pure | apply e_set | apply e_tru | apply q_cond | apply w_ge | apply w_le | apply w_neg | apply w_eq | apply w_ne) | ((with_reducible first | apply w_get | apply e_get); · first | exact rfl | assumption))); try with_reducible apply w_end)
    refine (MW_getN (j := 0) (by exact hS1.s2 q hq) rfl (by rw [slot_length]; (first | lia | omega))).mpr ?_
    rw [slot_at (by (first | lia | omega))]
    have hp0 : pos (q + 3) 0 < row.length := (hHalf _).mpr (by (first | lia | omega))
    ((repeat (first | (with_reducible first | apply w_as | apply w_pure | apply w_set | apply w_tru | apply w_add | apply w_sub | apply w_lt | apply w_gt | apply w_t | apply w_f | apply w_if | apply e_pure | apply e_set | apply e_tru | apply q_cond | apply w_ge | apply w_le | apply w_neg | apply w_eq | apply w_ne) | ((with_reducible first | apply w_get | apply e_get); · first | exact rfl | assumption))); try with_reducible apply w_end)
    refine (MW_getN (j := pos (q + 3) 0) (by exact hS1.s3) rfl (by rw [lay_length]; exact hp0)).mpr ?_
    rw [lay_in _ _ _ _ 0 (by (first | lia | omega)) hp0, nth_set_ne (by (first | lia | omega)), nth_lad hm0]
    ((repeat (first | (with_reducible first | apply w_as | apply w_pure | apply w_set | apply w_tru | apply w_add | apply w_sub | apply w_lt | apply w_gt | apply w_t | apply w_f | apply w_if | apply e_pure | apply e_set | apply e_tru | apply q_cond | apply w_ge | apply w_le | apply w_neg | apply w_eq | apply w_ne) | ((with_reducible first | apply w_get | apply e_get); · first | exact rfl | assumption))); try with_reducible apply w_end)
    unfold law_s4
    apply w_seq
    ((repeat (first | (with_reducible first | apply w_as | apply w_pure | apply w_set | apply w_tru | apply w_add | apply w_sub | apply w_lt | apply w_gt | apply w_t | apply w_f | apply w_if | apply e_pure | apply e_set | apply e_tru | apply q_cond | apply w_ge | apply w_le | apply w_neg | apply w_eq | apply w_ne) | ((with_reducible first | apply w_get | apply e_get); · first | exact rfl | assumption))); try with_reducible apply w_end)
    refine (MW_getN (j := 0) (by exact hS1.s2 q hq) rfl (by rw [slot_length]; (first | lia | omega))).mpr ?_
    rw [slot_at (by (first | lia | omega))]
    ((repeat (first | (with_reducible first | apply w_as | apply w_pure | apply w_set | apply w_tru | apply w_add | apply w_sub | apply w_lt | apply w_gt | apply w_t | apply w_f | apply w_if | apply e_pure | apply e_set | apply e_tru | apply q_cond | apply w_ge | apply w_le | apply w_neg | apply w_eq | apply w_ne) | ((with_reducible first | apply w_get | apply e_get); · first | exact rfl | assumption))); try with_reducible apply w_end)
    refine (MW_setI (by exact hS1.s3) (by (first | lia | omega)) rfl (by rw [lay_length]; exact hp0)).mpr ?_
    ((repeat (first | (with_reducible first | apply w_as | apply w_pure | apply w_set | apply w_tru | apply w_add | apply w_sub | apply w_lt | apply w_gt | apply w_t | apply w_f | apply w_if | apply e_pure | apply e_set | apply e_tru | apply q_cond | apply w_ge | apply w_le | apply w_neg | apply w_eq | apply w_ne) | ((with_reducible first | apply w_get | apply e_get); · first | exact rfl | assumption))); try with_reducible apply w_end)
    have hH2 : Half row.length (q + 3) 15 := hHalf
    rw [lay_set hH2 (hl15 _ _) (by (first | lia | omega))]
    have hS2 := hS1.row (row' := lay (q + 3) (((lad ms).set (ms.length - 1) inf).set 0 (itm (nth ms (ms.length - 1)))) 15 row)
    generalize hhs : ((lad ms).set (ms.length - 1) inf).set 0 (itm (nth ms (ms.length - 1))) = hs at hS2
    have hhl : hs.length = 15 := by rw [← hhs, List.length_set]; exact hl15 _ _
    have hhT : ∀ a ∈ hs, IsT1 a := by rw [← hhs]; exact all_set (all_set lad_t1 inf_t1) (itm_t1 _)
    unfold law_s3
    ((repeat (first | (with_reducible first | apply w_as | apply w_pure | apply w_set | apply w_tru | apply w_add | apply w_sub | apply w_lt | apply w_gt | apply w_t | apply w_f | apply w_if | apply e_pure | apply e_set | apply e_tru | apply q_cond | apply w_ge | apply w_le | apply w_neg | apply w_eq | apply w_ne) | ((with_reducible first | apply w_get | apply e_get); · first | exact rfl | assumption))); try with_reducible apply w_end)
    refine (MW_getN (j := 0) (by exact hS2.s2 q hq) rfl (by rw [slot_length]; (first | lia | omega))).mpr ?_
    rw [slot_at (by (first | lia | omega)), pos_zero]
    ((repeat (first | (with_reducible first | apply w_as | apply w_pure | apply w_set | apply w_tru | apply w_add | apply w_sub | apply w_lt | apply w_gt | apply w_t | apply w_f | apply w_if | apply e_pure | apply e_set | apply e_tru | apply q_cond | apply w_ge | apply w_le | apply w_neg | apply w_eq | apply w_ne) | ((with_reducible first | apply w_get | apply e_get); · first | exact rfl | assumption))); try with_reducible apply w_end)
    have e := siftup_specD (P := IsT1) (lt := ltT) (D := Tr (q + 3)) (p := q + 3) hS2.s3 (by (first | lia | omega)) (by rw [lay_length, R.len]; (first | lia | omega)) (by rw [lay_length, R.len]; (first | lia | omega)) ⟨0, (pos_zero _).symm⟩ (fun j h hj => h.up hj) (fun j c h hc => h.kid hc)
      (tr_t1 hq R.len hhl hhT) (ltAt_tup _ _)
    refine MW_callF' (by exact e) ?_
    ((repeat (first | (with_reducible first | apply w_as | apply w_pure | apply w_set | apply w_tru | apply w_add | apply w_sub | apply w_lt | apply w_gt | apply w_t | apply w_f | apply w_if | apply e_pure | apply e_set | apply e_tru | apply q_cond | apply w_ge | apply w_le | apply w_neg | apply w_eq | apply w_ne) | ((with_reducible first | apply w_get | apply e_get); · first | exact rfl | assumption))); try with_reducible apply w_end)
    rw [su_lay row hHalf hs hhl (by (first | lia | omega))]
    obtain ⟨ms2, Q2⟩ := pop_que (ks := ks.erase (nth ms 0)) hm1 hle (by have := R.hp q hq; rwa [hms] at this) ((List.Perm.erase _ hpk))
    rw [hhs] at Q2
    refine fin _ _ ms2 _ hS2.row (R.upd hq Q2) ((hF1.trans (Far.set (by (first | lia | omega)))).trans (Far.set (by (first | lia | omega)))) Q2.perm h3 rfl ?_
    intro y hy
    simp only [List.mem_cons, List.not_mem_nil, or_false] at hy
    rcases hy with rfl | rfl | rfl | rfl | rfl | rfl | rfl <;> rfl
  · rw [if_neg (by rw [decide_eq_true_eq, List.length_map]; (first | lia | omega))]
    ((repeat (first | (with_reducible first | apply w_as | apply w_pure | apply w_set | apply w_tru | apply w_add | apply w_sub | apply w_lt | apply w_gt | apply w_t | apply w_f | apply w_if | apply e_pure | apply e_set | apply e_tru | apply q_cond | apply w_ge | apply w_le | apply w_neg | apply w_eq | apply w_ne) | ((with_reducible first | apply w_get | apply e_get); · first | exact rfl | assumption))); try with_reducible apply w_end)
    obtain ⟨a, rfl⟩ : ∃ a, ms = [a] := by
      cases ms with
      | nil => simp at hm0
      | cons a r =>
        cases r with
        | nil => exact ⟨a, rfl⟩
        | cons b r => simp at hm1
    have Q2 : QOk ((lad [a]).set ([a].length - 1) inf) ([] : List Int) [] := ⟨rfl, by simp, List.Perm.refl _, by intro j h0 hl; simp at hl⟩
    refine fin _ _ [] _ hS1 (R.upd hq Q2) hF1 ?_ h3 ?_ ?_
    · have : ks = [a] := List.perm_singleton.mp hpk.symm
      rw [this]
      simp [nth]
    · simp only [S.put, if_true]; rfl
    · intro y hy
      exact hlo y hy _
end Mine


/-! part L01c -/
set_option autoImplicit false
set_option maxRecDepth 100000
set_option linter.unusedVariables false
set_option linter.unusedSimpArgs false
open PySem PySem.W PyProof.Rows
namespace Mine

theorem pos_all : ∀ j, j < 63 → 3 ≤ j → ∃ q, q < 4 ∧ ∃ i, i < 15 ∧ j = pos (q + 3) i := by decide +kernel
theorem RowOk.kinds {row : List V} {mss : Nat → List Int} (R : RowOk row mss) : ∀ v ∈ row, v = .none ∨ IsT1 v := by
  intro v hv
  obtain ⟨j, hj, rfl⟩ := List.mem_iff_getElem.mp hv
  rw [← nth_getElem hj]
  have hl := R.len
  by_cases h : j < 3
  · exact .inl (R.non j h)
  · obtain ⟨q, hq, i, hi, rfl⟩ := pos_all j (by (first | lia | omega)) (by (first | lia | omega))
    rw [R.que q hq i hi]
    exact .inr (lad_t1 _ (nth_mem (by rw [lad_length (R.le q hq)]; exact hi)))
theorem kinds_data {st : Store} : ∀ {vs : List V}, (∀ v ∈ vs, v = .none ∨ IsT1 v) → ∃ ds, mapO (toD st 5) vs = some ds ∧ PyData.canLayAll0 ds = true
  | [], _ => ⟨[], rfl, rfl⟩
  | v :: vs, h => by
    obtain ⟨ds, e, c⟩ := kinds_data (st := st) (vs := vs) fun a ha => h a (List.mem_cons_of_mem _ ha)
    rcases h v List.mem_cons_self with rfl | ⟨ns, _, rfl⟩
    · exact ⟨.none :: ds, by unfold mapO; rw [e]; rfl, by simp [PyData.canLayAll0, PyData.canLay0, c]⟩
    · have ci : ∀ l : List Int, PyData.canLayAll0 (l.map .int) = true := by
        intro l; induction l with
        | nil => rfl
        | cons a l ih => simp [PyData.canLayAll0, PyData.canLay0, ih]
      exact ⟨.tuple (ns.map .int) :: ds, by unfold mapO; rw [e, toD_tI], by simp [PyData.canLayAll0, PyData.canLay0, c, ci]⟩
theorem MW_neSame {σ : S} {a b : Nat} {vs : List V} {Q : V → S → Prop} (h1 : σ.st[a]? = some (.lst vs)) (h2 : σ.st[b]? = some (.lst vs)) (hk : ∀ v ∈ vs, v = .none ∨ IsT1 v) (q : Q (.bool false) σ) : MW (neV (.obj a) (.obj b)) σ Q := by
  obtain ⟨ds, e, c⟩ := kinds_data (st := σ.st) hk
  refine (MW_neOf (x := true) ?_).mpr q
  have e1 : toD σ.st 6 (.obj a) = some (.list ds) := by rw [toD, h1]; dsimp only; rw [e]; rfl
  have e2 : toD σ.st 6 (.obj b) = some (.list ds) := by rw [toD, h2]; dsimp only; rw [e]; rfl
  unfold eqV
  rw [e1, e2]
  dsimp only
  rw [PySem.SeqAt.eqv_refl (.list ds) (by simp [PyData.canLay0, c])]
theorem MW_neStr {σ : S} {x : Str} {Q : V → S → Prop} (h : PySem.PyData.strOk x = true) (q : Q (.bool false) σ) : MW (neV (.str x) (.str x)) σ Q := by
  refine (MW_neOf (x := true) ?_).mpr q
  have e1 : toD σ.st 6 (.str x) = some (.str x) := by simp only [toD, h, if_true]
  unfold eqV
  rw [e1]
  dsimp only
  rw [PySem.SeqAt.eqv_refl (.str x) (by simp [PyData.canLay0, h])]
theorem MW_neNone {σ : S} {Q : V → S → Prop} (q : Q (.bool false) σ) : MW (neV .none .none) σ Q := by
  refine (MW_neOf (x := true) ?_).mpr q
  have e1 : toD σ.st 6 .none = some .none := rfl
  unfold eqV
  rw [e1]
  dsimp only
  rw [PySem.SeqAt.eqv_refl .none rfl]
theorem MW_swapB {σ : S} {x y : String} {v w : V} {Q : Unit → S → Prop} : MW (swapT [x, y] (.tup [v, w])) σ Q ↔ Q () ((σ.put y w).put x v) := MW_fun_ok rfl
theorem MW_hnd {T n : String} {mh : Str → M Fl} {rest : Exc → M Fl} {e : Exc} {σ : S} {Q : Fl → S → Prop} (hc : e.cls = T) (h : MW (mh e.msg) (σ.del n) (fun f σ' => Q f (σ'.del n))) : MW (hndM T n mh rest e) σ Q := by
  obtain ⟨f, σ', e1, q⟩ := h
  exact ⟨f, σ'.del n, by unfold hndM; rw [if_pos hc, e1], q⟩
theorem msg_eq : nonE.msg = Str.ofString "'<' not supported between instances of 'tuple' and 'NoneType'" := by
  unfold nonE
  exact congrArg Str.ofString (by decide +kernel)
theorem msg_ok : PySem.PyData.strOk nonE.msg = true := by rw [msg_eq]; decide +kernel

/-- the state when an item is about to go up -/
structure Up (q k : Nat) (n : Int) (row : List V) (ms : List Int) (kss : Nat → List Int) (σ : S) : Prop where
  hS : Sto σ.st (lay (q + 3) ((lad ms).set k (itm n)) 15 row) kss
  h1 : σ.lo "row" = some (.obj 10)
  h2 : σ.lo "own" = some (.obj (2 + q))
  h4 : σ.lo "words" = some (.str nonE.msg)
  h5 : σ.lo "at" = some (.int (k : Nat))
  h6 : σ.lo "number" = some (.int n)

theorem rows_t1 {row : List V} {mss : Nat → List Int} {q k : Nat} {n : Int} (R : RowOk row mss) (hq : q < 4) :
    ∀ j, Tr (q + 3) j → j < (lay (q + 3) ((lad (mss q)).set k (itm n)) 15 row).length → IsT1 (nth (lay (q + 3) ((lad (mss q)).set k (itm n)) 15 row) j) :=
  tr_t1 hq R.len (by rw [List.length_set, lad_length (R.le q hq)]) (all_set lad_t1 (itm_t1 _))

/-- the copy, up to None -/
theorem try_ok {σ : S} {q k c : Nat} {n : Int} {row : List V} {mss kss : Nat → List Int} {fst : Bool} (R : RowOk row mss) (hq : q < 4) (hk : k < 15) (U : Up q k n row (mss q) kss σ) (hc : 16 ≤ c) (hcp : σ.lo "copy" = some (.obj c))
    (hcs : σ.st[c]? = some (.lst (lay (q + 3) ((lad (mss q)).set k (itm n)) 15 row))) (hfo : σ.lo "former" = some (nth ((lad (mss q)).set k (itm n)) 0))
    (hw : (wk ltT (itm n) 0 ((lad (mss q)).set k (itm n)) k).2 = 0 ↔ fst = true) :
    MW (tryM law_t10_b (hndM "TypeError" "fault" law_h12 noH)) σ (fun f σ' => f = .next ∧ σ'.st = σ.st.set c (.lst (lay (q + 3) (sd ltT (itm n) 0 ((lad (mss q)).set k (itm n)) k) 15 row)) ∧
      σ'.lo "told" = some (if fst = true then .str nonE.msg else .none) ∧ ∀ y, y ≠ "told" → y ≠ "fault" → σ'.lo y = σ.lo y) := by
  have hle := R.le q hq
  have hl15 : ((lad (mss q)).set k (itm n)).length = 15 := by rw [List.length_set, lad_length hle]
  have hT : ∀ a ∈ (lad (mss q)).set k (itm n), IsT1 a := all_set lad_t1 (itm_t1 _)
  have hx : nth ((lad (mss q)).set k (itm n)) k = itm n := nth_set_self (by rw [lad_length hle]; exact hk)
  have hP := rows_t1 (k := k) (n := n) R hq
  have hHalf := R.half hq
  generalize (lad (mss q)).set k (itm n) = hs at *
  obtain ⟨hS, h1, h2, h4, h5, h6⟩ := U
  have hpk : pos (q + 3) k < row.length := (hHalf _).mpr hk
  have hp0 : pos (q + 3) 0 < row.length := (hHalf _).mpr (by (first | lia | omega))
  have hnk : nth (lay (q + 3) hs 15 row) (pos (q + 3) k) = itm n := by rw [lay_in _ _ _ _ k hk hpk, hx]
  have e := siftdown_none (P := IsT1) (lt := ltT) (D := Tr (q + 3)) (t := q + 3) (p := pos (q + 3) k) hcs (by (first | lia | omega)) (by rw [lay_length, R.len]; (first | lia | omega)) (by rw [lay_length]; exact hpk) (by (first | lia | omega)) (fun j h => h.ge) (Tr.self _ _) (fun j h hj => h.up hj) hP (ltAt_tup _ _)
    (by rw [hnk]; exact te_tup (itm_t1 n)) (by rw [lay_out _ _ _ _ _ fun i hi e => by have := pos_ge3 q i; (first | lia | omega)]; exact R.non _ (by (first | lia | omega)))
  rw [hnk, wk_lay row hHalf _ k hs hl15 hk, sd_lay row hHalf _ k hs hl15 hk] at e
  dsimp only at e
  have hpos : pos (q + 3) (wk ltT (itm n) 0 hs k).2 = q + 3 ↔ (wk ltT (itm n) 0 hs k).2 = 0 := by
    constructor
    · intro h
      exact pos_inj (q + 3) _ 0 (by rw [h, pos_zero])
    · intro h; rw [h, pos_zero]
  have s2 := hS.s2 q hq
  cases hf : fst with
  | true =>
    have h0 := hw.mpr hf
    rw [if_pos (hpos.mpr h0)] at e
    replace e := fun (_ : True) => e
    have hb : MX law_t10_b σ nonE (fun σ' => σ' = ⟨σ.st.set c (.lst (lay (q + 3) (wk ltT (itm n) 0 hs k).1 15 row)), σ.lo⟩) := by
      unfold law_t10_b
      refine x_here (x_bind (MW.mono (Q := fun a σ' => a = [.obj c, .int 0, .int (pos (q + 3) k : Nat)] ∧ σ' = σ) ?_ ?_))
      · clear e h0 hpos hnk hw hP hT hx hfo
        ((repeat (first | (with_reducible first | apply w_as | apply w_pure | apply w_set | apply w_tru | apply w_add | apply w_sub | apply w_lt | apply w_gt | apply w_t | apply w_f | apply w_if | apply e_pure | apply e_set | apply e_tru | apply q_cond | apply w_ge | apply w_le | apply w_neg | apply w_eq | apply w_ne) | ((with_reducible first | apply w_get | apply e_get); · first | exact rfl | assumption))); try with_reducible apply w_end)
        refine (MW_getN (j := k) (by exact s2) rfl (by rw [slot_length]; exact hk)).mpr ?_
        rw [slot_at hk]
        ((repeat (first | (with_reducible first | apply w_as | apply w_pure | apply w_set | apply w_tru | apply w_add | apply w_sub | apply w_lt | apply w_gt | apply w_t | apply w_f | apply w_if | apply e_pure | apply e_set | apply e_tru | apply q_cond | apply w_ge | apply w_le | apply w_neg | apply w_eq | apply w_ne) | ((with_reducible first | apply w_get | apply e_get); · first | exact rfl | assumption))); try with_reducible apply w_end)
        exact ⟨rfl, rfl⟩
      · rintro a σ' ⟨rfl, rfl⟩
        exact x_call (by exact e trivial) rfl
    obtain ⟨σ', e1, rfl⟩ := hb
    refine MW_tryX e1 (MW_hnd rfl ?_)
    have hlk : (wk ltT (itm n) 0 hs k).1.length = 15 := by rw [wk_length]; exact hl15
    have hkeep : nth (wk ltT (itm n) 0 hs k).1 0 = nth hs 0 := wk_keep _ _ _ _ 0 (Nat.le_refl _)
    obtain ⟨ns, _, ens⟩ := hT _ (nth_mem (vs := hs) (i := 0) (by (first | lia | omega)))
    have hcs' : (σ.st.set c (.lst (lay (q + 3) (wk ltT (itm n) 0 hs k).1 15 row)))[c]? = some (.lst (lay (q + 3) (wk ltT (itm n) 0 hs k).1 15 row)) := set_get hcs
    have s2' : (σ.st.set c (.lst (lay (q + 3) (wk ltT (itm n) 0 hs k).1 15 row)))[2 + q]? = some (.lst (slotV q)) := by rw [List.getElem?_set_ne (by (first | lia | omega))]; exact s2
    clear e1 e hP hpos hw hx hnk hcs s2 hT h1
    unfold law_h12
    apply w_seq
    ((repeat (first | (with_reducible first | apply w_as | apply w_pure | apply w_set | apply w_tru | apply w_add | apply w_sub | apply w_lt | apply w_gt | apply w_t | apply w_f | apply w_if | apply e_pure | apply e_set | apply e_tru | apply q_cond | apply w_ge | apply w_le | apply w_neg | apply w_eq | apply w_ne) | ((with_reducible first | apply w_get | apply e_get); · first | exact rfl | assumption))); try with_reducible apply w_end)
    apply w_seq
    ((repeat (first | (with_reducible first | apply w_as | apply w_pure | apply w_set | apply w_tru | apply w_add | apply w_sub | apply w_lt | apply w_gt | apply w_t | apply w_f | apply w_if | apply e_pure | apply e_set | apply e_tru | apply q_cond | apply w_ge | apply w_le | apply w_neg | apply w_eq | apply w_ne) | ((with_reducible first | apply w_get | apply e_get); · first | exact rfl | assumption))); try with_reducible apply w_end)
    refine (MW_getN (j := 0) (by exact s2') rfl (by rw [slot_length]; (first | lia | omega))).mpr ?_
    rw [slot_at (by (first | lia | omega))]
    ((repeat (first | (with_reducible first | apply w_as | apply w_pure | apply w_set | apply w_tru | apply w_add | apply w_sub | apply w_lt | apply w_gt | apply w_t | apply w_f | apply w_if | apply e_pure | apply e_set | apply e_tru | apply q_cond | apply w_ge | apply w_le | apply w_neg | apply w_eq | apply w_ne) | ((with_reducible first | apply w_get | apply e_get); · first | exact rfl | assumption))); try with_reducible apply w_end)
    refine (MW_getN (j := pos (q + 3) 0) (by exact hcs') rfl (by rw [lay_length]; exact hp0)).mpr ?_
    rw [lay_in _ _ _ _ 0 (by (first | lia | omega)) hp0, hkeep]
    rw [ens] at hfo ⊢
    ((repeat (first | (with_reducible first | apply w_as | apply w_pure | apply w_set | apply w_tru | apply w_add | apply w_sub | apply w_lt | apply w_gt | apply w_t | apply w_f | apply w_if | apply e_pure | apply e_set | apply e_tru | apply q_cond | apply w_ge | apply w_le | apply w_neg | apply w_eq | apply w_ne) | ((with_reducible first | apply w_get | apply e_get); · first | exact rfl | assumption))); try with_reducible apply w_end)
    refine (MW_neT (as := ns) (bs := ns)).mpr ?_
    ((repeat (first | (with_reducible first | apply w_as | apply w_pure | apply w_set | apply w_tru | apply w_add | apply w_sub | apply w_lt | apply w_gt | apply w_t | apply w_f | apply w_if | apply e_pure | apply e_set | apply e_tru | apply q_cond | apply w_ge | apply w_le | apply w_neg | apply w_eq | apply w_ne) | ((with_reducible first | apply w_get | apply e_get); · first | exact rfl | assumption))); try with_reducible apply w_end)
    rw [decide_eq_true rfl, if_neg (by decide)]
    ((repeat (first | (with_reducible first | apply w_as | apply w_pure | apply w_set | apply w_tru | apply w_add | apply w_sub | apply w_lt | apply w_gt | apply w_t | apply w_f | apply w_if | apply e_pure | apply e_set | apply e_tru | apply q_cond | apply w_ge | apply w_le | apply w_neg | apply w_eq | apply w_ne) | ((with_reducible first | apply w_get | apply e_get); · first | exact rfl | assumption))); try with_reducible apply w_end)
    unfold law_s11
    ((repeat (first | (with_reducible first | apply w_as | apply w_pure | apply w_set | apply w_tru | apply w_add | apply w_sub | apply w_lt | apply w_gt | apply w_t | apply w_f | apply w_if | apply e_pure | apply e_set | apply e_tru | apply q_cond | apply w_ge | apply w_le | apply w_neg | apply w_eq | apply w_ne) | ((with_reducible first | apply w_get | apply e_get); · first | exact rfl | assumption))); try with_reducible apply w_end)
    refine (MW_mkT (by simp)).mpr ?_
    ((repeat (first | (with_reducible first | apply w_as | apply w_pure | apply w_set | apply w_tru | apply w_add | apply w_sub | apply w_lt | apply w_gt | apply w_t | apply w_f | apply w_if | apply e_pure | apply e_set | apply e_tru | apply q_cond | apply w_ge | apply w_le | apply w_neg | apply w_eq | apply w_ne) | ((with_reducible first | apply w_get | apply e_get); · first | exact rfl | assumption))); try with_reducible apply w_end)
    refine (MW_getN (j := 0) (by exact s2') rfl (by rw [slot_length]; (first | lia | omega))).mpr ?_
    rw [slot_at (by (first | lia | omega))]
    ((repeat (first | (with_reducible first | apply w_as | apply w_pure | apply w_set | apply w_tru | apply w_add | apply w_sub | apply w_lt | apply w_gt | apply w_t | apply w_f | apply w_if | apply e_pure | apply e_set | apply e_tru | apply q_cond | apply w_ge | apply w_le | apply w_neg | apply w_eq | apply w_ne) | ((with_reducible first | apply w_get | apply e_get); · first | exact rfl | assumption))); try with_reducible apply w_end)
    refine (MW_setI (by exact hcs') (by (first | lia | omega)) rfl (by rw [lay_length]; exact hp0)).mpr ?_
    ((repeat (first | (with_reducible first | apply w_as | apply w_pure | apply w_set | apply w_tru | apply w_add | apply w_sub | apply w_lt | apply w_gt | apply w_t | apply w_f | apply w_if | apply e_pure | apply e_set | apply e_tru | apply q_cond | apply w_ge | apply w_le | apply w_neg | apply w_eq | apply w_ne) | ((with_reducible first | apply w_get | apply e_get); · first | exact rfl | assumption))); try with_reducible apply w_end)
    refine ⟨rfl, ?_, ?_, ?_⟩
    · show (σ.st.set c _).set c _ = _
      rw [List.set_set, lay_set hHalf hlk (by (first | lia | omega)), sd_wk, h0]; rfl
    · rfl
    · intro y hy1 hy2
      show (if y = "fault" then none else if y = "told" then _ else if y = "fault" then none else σ.lo y) = σ.lo y
      rw [if_neg hy2, if_neg hy1, if_neg hy2]
  | false =>
    have h0 : ¬ (wk ltT (itm n) 0 hs k).2 = 0 := fun h => by rw [hw.mp h] at hf; cases hf
    rw [if_neg (fun h => h0 (hpos.mp h))] at e
    replace e := fun (_ : True) => e
    refine MW_try ?_
    unfold law_t10_b
    apply w_as
    refine MW_bind.mpr (MW.mono (Q := fun a σ' => a = [.obj c, .int 0, .int (pos (q + 3) k : Nat)] ∧ σ' = σ) ?_ ?_)
    · clear e h0 hpos hnk hw hP hT hx hfo
      ((repeat (first | (with_reducible first | apply w_as | apply w_pure | apply w_set | apply w_tru | apply w_add | apply w_sub | apply w_lt | apply w_gt | apply w_t | apply w_f | apply w_if | apply e_pure | apply e_set | apply e_tru | apply q_cond | apply w_ge | apply w_le | apply w_neg | apply w_eq | apply w_ne) | ((with_reducible first | apply w_get | apply e_get); · first | exact rfl | assumption))); try with_reducible apply w_end)
      refine (MW_getN (j := k) (by exact s2) rfl (by rw [slot_length]; exact hk)).mpr ?_
      rw [slot_at hk]
      ((repeat (first | (with_reducible first | apply w_as | apply w_pure | apply w_set | apply w_tru | apply w_add | apply w_sub | apply w_lt | apply w_gt | apply w_t | apply w_f | apply w_if | apply e_pure | apply e_set | apply e_tru | apply q_cond | apply w_ge | apply w_le | apply w_neg | apply w_eq | apply w_ne) | ((with_reducible first | apply w_get | apply e_get); · first | exact rfl | assumption))); try with_reducible apply w_end)
      exact ⟨rfl, rfl⟩
    rintro a σ' ⟨rfl, rfl⟩
    refine MW_bind.mpr (MW_callF' (by exact e trivial) ?_)
    clear e
    ((repeat (first | (with_reducible first | apply w_as | apply w_pure | apply w_set | apply w_tru | apply w_add | apply w_sub | apply w_lt | apply w_gt | apply w_t | apply w_f | apply w_if | apply e_pure | apply e_set | apply e_tru | apply q_cond | apply w_ge | apply w_le | apply w_neg | apply w_eq | apply w_ne) | ((with_reducible first | apply w_get | apply e_get); · first | exact rfl | assumption))); try with_reducible apply w_end)
    refine ⟨rfl, rfl, rfl, ?_⟩
    intro y hy1 hy2
    show (if y = "told" then _ else _) = _
    rw [if_neg hy1]
end Mine


/-! part L01d -/
set_option autoImplicit false
set_option maxRecDepth 100000
set_option linter.unusedVariables false
set_option linter.unusedSimpArgs false
open PySem PySem.W PyProof.Rows
namespace Mine

theorem s9_ok {σ : S} {q k c : Nat} {n : Int} {row : List V} {mss kss : Nat → List Int} {ms' ks' : List Int} (R : RowOk row mss) (hq : q < 4) (hk : k < 15) (U : Up q k n row (mss q) kss σ) (hc : 16 ≤ c) (hcp : σ.lo "copy" = some (.obj c))
    (hcs : σ.st[c]? = some (.lst (lay (q + 3) (sd ltT (itm n) 0 ((lad (mss q)).set k (itm n)) k) 15 row))) (Q : QOk (sd ltT (itm n) 0 ((lad (mss q)).set k (itm n)) k) ks' ms') :
    MW law_s9 σ (fun f σ' => f = .next ∧ σ'.st = σ.st.set 10 (.lst (lay (q + 3) (sd ltT (itm n) 0 ((lad (mss q)).set k (itm n)) k) 15 row)) ∧ σ'.lo = σ.lo) := by
  have hle := R.le q hq
  have hl15 : ((lad (mss q)).set k (itm n)).length = 15 := by rw [List.length_set, lad_length hle]
  have hx : nth ((lad (mss q)).set k (itm n)) k = itm n := nth_set_self (by rw [lad_length hle]; exact hk)
  have hP := rows_t1 (k := k) (n := n) R hq
  have hHalf := R.half hq
  have hkd := (R.upd hq Q).kinds
  obtain ⟨hS, h1, h2, h4, h5, h6⟩ := U
  generalize (lad (mss q)).set k (itm n) = hs at *
  have hpk : pos (q + 3) k < row.length := (hHalf _).mpr hk
  have hnk : nth (lay (q + 3) hs 15 row) (pos (q + 3) k) = itm n := by rw [lay_in _ _ _ _ k hk hpk, hx]
  have e := siftdown_specD (P := IsT1) (lt := ltT) (D := Tr (q + 3)) (s := q + 3) (p := pos (q + 3) k) hS.s3 (by (first | lia | omega)) (by rw [lay_length]; exact hpk) (by rw [lay_length, R.len]; (first | lia | omega)) (Tr.self _ _) (fun j h hj => h.up hj) hP (ltAt_tup _ _)
  rw [hnk, sd_lay row hHalf _ k hs hl15 hk] at e
  replace e := fun (_ : True) => e
  have s2 := hS.s2 q hq
  have hs10 := hS.s3
  unfold law_s9
  apply w_as
  apply w_as
  apply w_as
  refine MW_bind.mpr (MW.mono (Q := fun a σ' => a = [V.obj 10, .int (q + 3 : Nat), .int (pos (q + 3) k : Nat)] ∧ σ' = σ) ?_ ?_)
  · clear e hnk hP hx hkd Q hs10 hcs
    ((repeat (first | (with_reducible first | apply w_as | apply w_pure | apply w_set | apply w_tru | apply w_add | apply w_sub | apply w_lt | apply w_gt | apply w_t | apply w_f | apply w_if | apply e_pure | apply e_set | apply e_tru | apply q_cond | apply w_ge | apply w_le | apply w_neg | apply w_eq | apply w_ne) | ((with_reducible first | apply w_get | apply e_get); · first | exact rfl | assumption))); try with_reducible apply w_end)
    refine (MW_getN (j := 0) (by exact s2) rfl (by rw [slot_length]; (first | lia | omega))).mpr ?_
    rw [slot_at (by (first | lia | omega)), pos_zero]
    ((repeat (first | (with_reducible first | apply w_as | apply w_pure | apply w_set | apply w_tru | apply w_add | apply w_sub | apply w_lt | apply w_gt | apply w_t | apply w_f | apply w_if | apply e_pure | apply e_set | apply e_tru | apply q_cond | apply w_ge | apply w_le | apply w_neg | apply w_eq | apply w_ne) | ((with_reducible first | apply w_get | apply e_get); · first | exact rfl | assumption))); try with_reducible apply w_end)
    refine (MW_getN (j := k) (by exact s2) rfl (by rw [slot_length]; exact hk)).mpr ?_
    rw [slot_at hk]
    ((repeat (first | (with_reducible first | apply w_as | apply w_pure | apply w_set | apply w_tru | apply w_add | apply w_sub | apply w_lt | apply w_gt | apply w_t | apply w_f | apply w_if | apply e_pure | apply e_set | apply e_tru | apply q_cond | apply w_ge | apply w_le | apply w_neg | apply w_eq | apply w_ne) | ((with_reducible first | apply w_get | apply e_get); · first | exact rfl | assumption))); try with_reducible apply w_end)
    exact ⟨rfl, rfl⟩
  rintro a σ' ⟨rfl, hσ⟩
  rw [hσ]
  refine MW_bind.mpr (MW_callF' (by exact e trivial) ?_)
  clear e hnk hP hx Q
  have hcs' : (σ.st.set 10 (.lst (lay (q + 3) (sd ltT (itm n) 0 hs k) 15 row)))[c]? = some (.lst (lay (q + 3) (sd ltT (itm n) 0 hs k) 15 row)) := by rw [List.getElem?_set_ne (by (first | lia | omega))]; exact hcs
  have hr' : (σ.st.set 10 (.lst (lay (q + 3) (sd ltT (itm n) 0 hs k) 15 row)))[10]? = some (.lst (lay (q + 3) (sd ltT (itm n) 0 hs k) 15 row)) := set_get hs10
  ((repeat (first | (with_reducible first | apply w_as | apply w_pure | apply w_set | apply w_tru | apply w_add | apply w_sub | apply w_lt | apply w_gt | apply w_t | apply w_f | apply w_if | apply e_pure | apply e_set | apply e_tru | apply q_cond | apply w_ge | apply w_le | apply w_neg | apply w_eq | apply w_ne) | ((with_reducible first | apply w_get | apply e_get); · first | exact rfl | assumption))); try with_reducible apply w_end)
  refine MW_isNotNone.mpr ?_
  ((repeat (first | (with_reducible first | apply w_as | apply w_pure | apply w_set | apply w_tru | apply w_add | apply w_sub | apply w_lt | apply w_gt | apply w_t | apply w_f | apply w_if | apply e_pure | apply e_set | apply e_tru | apply q_cond | apply w_ge | apply w_le | apply w_neg | apply w_eq | apply w_ne) | ((with_reducible first | apply w_get | apply e_get); · first | exact rfl | assumption))); try with_reducible apply w_end)
  rw [if_neg (by decide)]
  ((repeat (first | (with_reducible first | apply w_as | apply w_pure | apply w_set | apply w_tru | apply w_add | apply w_sub | apply w_lt | apply w_gt | apply w_t | apply w_f | apply w_if | apply e_pure | apply e_set | apply e_tru | apply q_cond | apply w_ge | apply w_le | apply w_neg | apply w_eq | apply w_ne) | ((with_reducible first | apply w_get | apply e_get); · first | exact rfl | assumption))); try with_reducible apply w_end)
  refine MW_neSame (by exact hcs') (by exact hr') hkd ?_
  ((repeat (first | (with_reducible first | apply w_as | apply w_pure | apply w_set | apply w_tru | apply w_add | apply w_sub | apply w_lt | apply w_gt | apply w_t | apply w_f | apply w_if | apply e_pure | apply e_set | apply e_tru | apply q_cond | apply w_ge | apply w_le | apply w_neg | apply w_eq | apply w_ne) | ((with_reducible first | apply w_get | apply e_get); · first | exact rfl | assumption))); try with_reducible apply w_end)
  exact ⟨rfl, rfl, rfl⟩

theorem s13_ok {σ : S} {q k c : Nat} {n : Int} {row : List V} {mss kss : Nat → List Int} {ms' ks' : List Int} {fst : Bool} (R : RowOk row mss) (hq : q < 4) (hk : k < 15) (U : Up q k n row (mss q) kss σ) (hc : 16 ≤ c) (hcp : σ.lo "copy" = some (.obj c))
    (hcs : σ.st[c]? = some (.lst (lay (q + 3) (sd ltT (itm n) 0 ((lad (mss q)).set k (itm n)) k) 15 row))) (Q : QOk (sd ltT (itm n) 0 ((lad (mss q)).set k (itm n)) k) ks' ms')
    (ht : σ.lo "told" = some (if fst = true then .str nonE.msg else .none)) (hf : σ.lo "first" = some (.bool fst)) :
    MW law_s13 σ (fun f σ' => f = .next ∧ σ'.st = σ.st.set 10 (.lst (lay (q + 3) (sd ltT (itm n) 0 ((lad (mss q)).set k (itm n)) k) 15 row)) ∧ σ'.lo = σ.lo) := by
  have key := s9_ok R hq hk U hc hcp hcs Q
  have h4 := U.h4
  replace key := fun (_ : True) => key
  clear hcs Q hcp
  unfold law_s13
  apply w_seq
  cases fst with
  | true =>
    rw [if_pos rfl] at ht
    ((repeat (first | (with_reducible first | apply w_as | apply w_pure | apply w_set | apply w_tru | apply w_add | apply w_sub | apply w_lt | apply w_gt | apply w_t | apply w_f | apply w_if | apply e_pure | apply e_set | apply e_tru | apply q_cond | apply w_ge | apply w_le | apply w_neg | apply w_eq | apply w_ne) | ((with_reducible first | apply w_get | apply e_get); · first | exact rfl | assumption))); try with_reducible apply w_end)
    refine MW_neStr msg_ok ?_
    ((repeat (first | (with_reducible first | apply w_as | apply w_pure | apply w_set | apply w_tru | apply w_add | apply w_sub | apply w_lt | apply w_gt | apply w_t | apply w_f | apply w_if | apply e_pure | apply e_set | apply e_tru | apply q_cond | apply w_ge | apply w_le | apply w_neg | apply w_eq | apply w_ne) | ((with_reducible first | apply w_get | apply e_get); · first | exact rfl | assumption))); try with_reducible apply w_end)
    exact key trivial
  | false =>
    rw [if_neg (by decide)] at ht
    ((repeat (first | (with_reducible first | apply w_as | apply w_pure | apply w_set | apply w_tru | apply w_add | apply w_sub | apply w_lt | apply w_gt | apply w_t | apply w_f | apply w_if | apply e_pure | apply e_set | apply e_tru | apply q_cond | apply w_ge | apply w_le | apply w_neg | apply w_eq | apply w_ne) | ((with_reducible first | apply w_get | apply e_get); · first | exact rfl | assumption))); try with_reducible apply w_end)
    refine MW_neNone ?_
    ((repeat (first | (with_reducible first | apply w_as | apply w_pure | apply w_set | apply w_tru | apply w_add | apply w_sub | apply w_lt | apply w_gt | apply w_t | apply w_f | apply w_if | apply e_pure | apply e_set | apply e_tru | apply q_cond | apply w_ge | apply w_le | apply w_neg | apply w_eq | apply w_ne) | ((with_reducible first | apply w_get | apply e_get); · first | exact rfl | assumption))); try with_reducible apply w_end)
    exact key trivial
end Mine


/-! part L01e -/
set_option autoImplicit false
set_option maxRecDepth 100000
set_option linter.unusedVariables false
set_option linter.unusedSimpArgs false
open PySem PySem.W PyProof.Rows
namespace Mine

theorem upd_upd {kss : Nat → List Int} {q : Nat} {a b : List Int} : upd (upd kss q a) q b = upd kss q b := by
  funext p
  unfold upd
  split <;> rfl
theorem upd_id {kss : Nat → List Int} {q : Nat} : upd kss q (kss q) = kss := by
  funext p
  unfold upd
  split
  · rename_i h; rw [h]
  · rfl
theorem st16 {st : Store} {row : List V} {kss : Nat → List Int} (h : Sto st row kss) : 16 ≤ st.length := by have := lt_of_get h.s4; (first | lia | omega)

/-- from the append on -/
theorem s17_ok {σ : S} {st1 : Store} {q k : Nat} {n : Int} {row : List V} {mss kss : Nat → List Int} {ks1 ms' : List Int} {fst : Bool} (R : RowOk row mss) (hq : q < 4) (pk : ∀ q, q < 4 → (mss q).Perm (kss q)) (hk : k < 15)
    (h1 : σ.lo "row" = some (.obj 10)) (h2 : σ.lo "own" = some (.obj (2 + q))) (h3 : σ.lo "mine" = some (.obj (11 + q))) (h4 : σ.lo "words" = some (.str nonE.msg)) (h5 : σ.lo "at" = some (.int (k : Nat))) (h6 : σ.lo "number" = some (.int n))
    (hw : (wk ltT (itm n) 0 ((lad (mss q)).set k (itm n)) k).2 = 0 ↔ fst = true) (hS1 : Sto st1 row (upd kss q ks1)) (hF : Far σ.st st1) (hks : ks1.length ≤ 15)
    (Q : QOk (sd ltT (itm n) 0 ((lad (mss q)).set k (itm n)) k) (ks1 ++ [n]) ms') : MW law_s17 ⟨st1, (σ.put "first" (.bool fst)).lo⟩ (Goal σ) := by
  have hle := R.le q hq
  have hHalf := R.half hq
  have hpk : pos (q + 3) k < row.length := (hHalf _).mpr hk
  have hp0 : pos (q + 3) 0 < row.length := (hHalf _).mpr (by (first | lia | omega))
  have s5 := hS1.s5 q hq
  rw [upd_self] at s5
  unfold law_s17
  apply w_seq
  ((repeat (first | (with_reducible first | apply w_as | apply w_pure | apply w_set | apply w_tru | apply w_add | apply w_sub | apply w_lt | apply w_gt | apply w_t | apply w_f | apply w_if | apply e_pure | apply e_set | apply e_tru | apply q_cond | apply w_ge | apply w_le | apply w_neg | apply w_eq | apply w_ne) | ((with_reducible first | apply w_get | apply e_get); · first | exact rfl | assumption))); try with_reducible apply w_end)
  refine (MW_chkL (by exact s5)).mpr ?_
  ((repeat (first | (with_reducible first | apply w_as | apply w_pure | apply w_set | apply w_tru | apply w_add | apply w_sub | apply w_lt | apply w_gt | apply w_t | apply w_f | apply w_if | apply e_pure | apply e_set | apply e_tru | apply q_cond | apply w_ge | apply w_le | apply w_neg | apply w_eq | apply w_ne) | ((with_reducible first | apply w_get | apply e_get); · first | exact rfl | assumption))); try with_reducible apply w_end)
  refine (MW_append (by exact s5) (by (first | lia | omega)) (by simp; (first | lia | omega))).mpr ?_
  ((repeat (first | (with_reducible first | apply w_as | apply w_pure | apply w_set | apply w_tru | apply w_add | apply w_sub | apply w_lt | apply w_gt | apply w_t | apply w_f | apply w_if | apply e_pure | apply e_set | apply e_tru | apply q_cond | apply w_ge | apply w_le | apply w_neg | apply w_eq | apply w_ne) | ((with_reducible first | apply w_get | apply e_get); · first | exact rfl | assumption))); try with_reducible apply w_end)
  rw [show ks1.map V.int ++ [V.int n] = (ks1 ++ [n]).map V.int by simp]
  have hS2 : Sto (st1.set (11 + q) (.lst ((ks1 ++ [n]).map V.int))) row (upd kss q (ks1 ++ [n])) := by have := hS1.mine (ks := ks1 ++ [n]) hq; rwa [upd_upd] at this
  have hF2 : Far σ.st (st1.set (11 + q) (.lst ((ks1 ++ [n]).map V.int))) := hF.trans (Far.set (by (first | lia | omega)))
  generalize st1.set (11 + q) (.lst ((ks1 ++ [n]).map V.int)) = st2 at hS2 hF2
  clear hS1 hF s5
  unfold law_s16
  apply w_seq
  ((repeat (first | (with_reducible first | apply w_as | apply w_pure | apply w_set | apply w_tru | apply w_add | apply w_sub | apply w_lt | apply w_gt | apply w_t | apply w_f | apply w_if | apply e_pure | apply e_set | apply e_tru | apply q_cond | apply w_ge | apply w_le | apply w_neg | apply w_eq | apply w_ne) | ((with_reducible first | apply w_get | apply e_get); · first | exact rfl | assumption))); try with_reducible apply w_end)
  refine (MW_mkT (by simp)).mpr ?_
  ((repeat (first | (with_reducible first | apply w_as | apply w_pure | apply w_set | apply w_tru | apply w_add | apply w_sub | apply w_lt | apply w_gt | apply w_t | apply w_f | apply w_if | apply e_pure | apply e_set | apply e_tru | apply q_cond | apply w_ge | apply w_le | apply w_neg | apply w_eq | apply w_ne) | ((with_reducible first | apply w_get | apply e_get); · first | exact rfl | assumption))); try with_reducible apply w_end)
  refine (MW_getN (j := k) (by exact hS2.s2 q hq) rfl (by rw [slot_length]; exact hk)).mpr ?_
  rw [slot_at hk]
  ((repeat (first | (with_reducible first | apply w_as | apply w_pure | apply w_set | apply w_tru | apply w_add | apply w_sub | apply w_lt | apply w_gt | apply w_t | apply w_f | apply w_if | apply e_pure | apply e_set | apply e_tru | apply q_cond | apply w_ge | apply w_le | apply w_neg | apply w_eq | apply w_ne) | ((with_reducible first | apply w_get | apply e_get); · first | exact rfl | assumption))); try with_reducible apply w_end)
  refine (MW_setI (by exact hS2.s3) (by (first | lia | omega)) rfl hpk).mpr ?_
  ((repeat (first | (with_reducible first | apply w_as | apply w_pure | apply w_set | apply w_tru | apply w_add | apply w_sub | apply w_lt | apply w_gt | apply w_t | apply w_f | apply w_if | apply e_pure | apply e_set | apply e_tru | apply q_cond | apply w_ge | apply w_le | apply w_neg | apply w_eq | apply w_ne) | ((with_reducible first | apply w_get | apply e_get); · first | exact rfl | assumption))); try with_reducible apply w_end)
  rw [show V.tup [V.int 0, V.int n] = itm n from rfl, R.set hq hk]
  have hS3 := hS2.row (row' := lay (q + 3) ((lad (mss q)).set k (itm n)) 15 row)
  have hF3 : Far σ.st (st2.set 10 (.lst (lay (q + 3) ((lad (mss q)).set k (itm n)) 15 row))) := hF2.trans (Far.set (by (first | lia | omega)))
  generalize st2.set 10 (.lst (lay (q + 3) ((lad (mss q)).set k (itm n)) 15 row)) = st3 at hS3 hF3
  clear hS2 hF2
  unfold law_s15
  apply w_seq
  ((repeat (first | (with_reducible first | apply w_as | apply w_pure | apply w_set | apply w_tru | apply w_add | apply w_sub | apply w_lt | apply w_gt | apply w_t | apply w_f | apply w_if | apply e_pure | apply e_set | apply e_tru | apply q_cond | apply w_ge | apply w_le | apply w_neg | apply w_eq | apply w_ne) | ((with_reducible first | apply w_get | apply e_get); · first | exact rfl | assumption))); try with_reducible apply w_end)
  refine MW_list' (by exact hS3.s3) fun c st4 p4 f4 g4 => ?_
  have hc : 16 ≤ c := Nat.le_trans (st16 hS3) f4
  have hS4 := hS3.pres p4
  have hF4 : Far σ.st st4 := hF3.trans (Far.pres p4)
  ((repeat (first | (with_reducible first | apply w_as | apply w_pure | apply w_set | apply w_tru | apply w_add | apply w_sub | apply w_lt | apply w_gt | apply w_t | apply w_f | apply w_if | apply e_pure | apply e_set | apply e_tru | apply q_cond | apply w_ge | apply w_le | apply w_neg | apply w_eq | apply w_ne) | ((with_reducible first | apply w_get | apply e_get); · first | exact rfl | assumption))); try with_reducible apply w_end)
  refine (MW_getN (j := 0) (by exact hS4.s2 q hq) rfl (by rw [slot_length]; (first | lia | omega))).mpr ?_
  rw [slot_at (by (first | lia | omega))]
  ((repeat (first | (with_reducible first | apply w_as | apply w_pure | apply w_set | apply w_tru | apply w_add | apply w_sub | apply w_lt | apply w_gt | apply w_t | apply w_f | apply w_if | apply e_pure | apply e_set | apply e_tru | apply q_cond | apply w_ge | apply w_le | apply w_neg | apply w_eq | apply w_ne) | ((with_reducible first | apply w_get | apply e_get); · first | exact rfl | assumption))); try with_reducible apply w_end)
  refine (MW_getN (j := pos (q + 3) 0) (by exact hS4.s3) rfl (by rw [lay_length]; exact hp0)).mpr ?_
  rw [lay_in _ _ _ _ 0 (by (first | lia | omega)) hp0]
  ((repeat (first | (with_reducible first | apply w_as | apply w_pure | apply w_set | apply w_tru | apply w_add | apply w_sub | apply w_lt | apply w_gt | apply w_t | apply w_f | apply w_if | apply e_pure | apply e_set | apply e_tru | apply q_cond | apply w_ge | apply w_le | apply w_neg | apply w_eq | apply w_ne) | ((with_reducible first | apply w_get | apply e_get); · first | exact rfl | assumption))); try with_reducible apply w_end)
  refine (MW_mkT (by simp)).mpr ?_
  ((repeat (first | (with_reducible first | apply w_as | apply w_pure | apply w_set | apply w_tru | apply w_add | apply w_sub | apply w_lt | apply w_gt | apply w_t | apply w_f | apply w_if | apply e_pure | apply e_set | apply e_tru | apply q_cond | apply w_ge | apply w_le | apply w_neg | apply w_eq | apply w_ne) | ((with_reducible first | apply w_get | apply e_get); · first | exact rfl | assumption))); try with_reducible apply w_end)
  refine MW_swapB.mpr ?_
  ((repeat (first | (with_reducible first | apply w_as | apply w_pure | apply w_set | apply w_tru | apply w_add | apply w_sub | apply w_lt | apply w_gt | apply w_t | apply w_f | apply w_if | apply e_pure | apply e_set | apply e_tru | apply q_cond | apply w_ge | apply w_le | apply w_neg | apply w_eq | apply w_ne) | ((with_reducible first | apply w_get | apply e_get); · first | exact rfl | assumption))); try with_reducible apply w_end)
  unfold law_s14
  apply w_seq
  refine MW.mono (try_ok (c := c) (fst := fst) R hq hk ⟨hS4, h1, h2, h4, h5, h6⟩ hc rfl g4 rfl hw) ?_
  rintro f σ' ⟨rfl, e1, e2, e3⟩
  have hcl : c < st4.length := lt_of_get g4
  have e1' : σ'.st = st4.set c (.lst (lay (q + 3) (sd ltT (itm n) 0 ((lad (mss q)).set k (itm n)) k) 15 row)) := e1
  have hcs : σ'.st[c]? = some (.lst (lay (q + 3) (sd ltT (itm n) 0 ((lad (mss q)).set k (itm n)) k) 15 row)) := by rw [e1']; exact set_get g4
  have hS5 : Sto σ'.st (lay (q + 3) ((lad (mss q)).set k (itm n)) 15 row) (upd kss q (ks1 ++ [n])) := by
    rw [e1']
    exact ⟨by rw [List.getElem?_set_ne (by (first | lia | omega))]; exact hS4.s1, fun p hp => by rw [List.getElem?_set_ne (by (first | lia | omega))]; exact hS4.s2 p hp, by rw [List.getElem?_set_ne (by (first | lia | omega))]; exact hS4.s3,
      by rw [List.getElem?_set_ne (by (first | lia | omega))]; exact hS4.s4, fun p hp => by rw [List.getElem?_set_ne (by (first | lia | omega))]; exact hS4.s5 p hp⟩
  have hcn : σ.st.length ≤ c := Nat.le_trans hF3.1 f4
  have hF5 : Far σ.st σ'.st := by
    rw [e1']
    refine ⟨by rw [List.length_set]; exact hF4.1, fun j h1 h2 => ?_⟩
    rw [List.getElem?_set_ne (by (first | lia | omega))]; exact hF4.2 j h1 h2
  have e3' : ∀ y, y ≠ "told" → y ≠ "fault" → y ≠ "copy" → y ≠ "former" → y ≠ "first" → σ'.lo y = σ.lo y := by
    intro y n1 n2 n3 n4 n5
    rw [e3 y n1 n2]
    show (if y = "copy" then _ else if y = "former" then _ else if y = "first" then _ else σ.lo y) = _
    rw [if_neg n3, if_neg n4, if_neg n5]
  have U' : Up q k n row (mss q) (upd kss q (ks1 ++ [n])) σ' :=
    ⟨hS5, (e3' _ (by decide) (by decide) (by decide) (by decide) (by decide)).trans h1, (e3' _ (by decide) (by decide) (by decide) (by decide) (by decide)).trans h2, (e3' _ (by decide) (by decide) (by decide) (by decide) (by decide)).trans h4,
      (e3' _ (by decide) (by decide) (by decide) (by decide) (by decide)).trans h5, (e3' _ (by decide) (by decide) (by decide) (by decide) (by decide)).trans h6⟩
  refine MW.mono (s13_ok (fst := fst) R hq hk U' hc ((e3 "copy" (by decide) (by decide)).trans rfl) hcs Q e2 ((e3 "first" (by decide) (by decide)).trans rfl)) ?_
  rintro f σ₂ ⟨rfl, e4, e5⟩
  refine ⟨rfl, ⟨_, _, _, by rw [e4]; exact hS5.row, R.upd hq Q, upd_perm pk Q.perm⟩, by rw [e4]; exact hF5.trans (Far.set (by (first | lia | omega))), ?_⟩
  intro y hy
  rw [e5]
  simp only [List.mem_cons, List.not_mem_nil, or_false] at hy
  rcases hy with rfl | rfl | rfl | rfl | rfl | rfl | rfl <;> exact e3' _ (by decide) (by decide) (by decide) (by decide) (by decide)

theorem set_erase_perm {ms : List Int} {k : Nat} {n : Int} (hk : k < ms.length) : (ms.set k n).Perm (ms.erase (nth ms k) ++ [n]) := by
  have e : ms = ms.take k ++ nth ms k :: ms.drop (k + 1) := by
    rw [nth_getElem hk]; simp
  have h1 : ms.Perm (nth ms k :: (ms.take k ++ ms.drop (k + 1))) := by
    conv => lhs; rw [e]
    exact List.perm_middle
  have h2 : (ms.erase (nth ms k)).Perm (ms.take k ++ ms.drop (k + 1)) := by
    exact List.Perm.cons_inv ((List.perm_cons_erase (nth_mem hk)).symm.trans h1)
  have h3 : ms.set k n = ms.take k ++ n :: ms.drop (k + 1) := by rw [List.set_eq_take_append_cons_drop, if_pos hk]
  rw [h3]
  exact List.perm_middle.trans ((List.Perm.cons n h2.symm).trans (List.perm_append_singleton _ _).symm)

/-- one comes in, or gets lower -/
theorem comeB {σ : S} {q k : Nat} {n : Int} {row : List V} {mss kss : Nat → List Int} (hS : Sto σ.st row kss) (R : RowOk row mss) (hq : q < 4) (pk : ∀ q, q < 4 → (mss q).Perm (kss q))
    (h1 : σ.lo "row" = some (.obj 10)) (h2 : σ.lo "own" = some (.obj (2 + q))) (h3 : σ.lo "mine" = some (.obj (11 + q))) (h4 : σ.lo "words" = some (.str nonE.msg)) (h5 : σ.lo "at" = some (.int (k : Nat))) (h6 : σ.lo "number" = some (.int n))
    (mode : (k = (mss q).length ∧ k < 15) ∨ (k < (mss q).length ∧ n ≤ nth (mss q) k)) : MW law_s20 σ (Goal σ) := by
  have hle := R.le q hq
  have hpq := pk q hq
  have hlen : (kss q).length = (mss q).length := hpq.length_eq.symm
  have hk : k < 15 := by rcases mode with h | h <;> (first | lia | omega)
  have hkm : k ≤ (mss q).length := by rcases mode with h | h <;> (first | lia | omega)
  have hHalf := R.half hq
  have hpk : pos (q + 3) k < row.length := (hHalf _).mpr hk
  have s5 := hS.s5 q hq
  have rest : ∀ fst : Bool, ((wk ltT (itm n) 0 ((lad (mss q)).set k (itm n)) k).2 = 0 ↔ fst = true) → MW law_s18 ⟨σ.st, (σ.put "first" (.bool fst)).lo⟩ (Goal σ) := by
    intro fst hw
    unfold law_s18
    apply w_seq
    ((repeat (first | (with_reducible first | apply w_as | apply w_pure | apply w_set | apply w_tru | apply w_add | apply w_sub | apply w_lt | apply w_gt | apply w_t | apply w_f | apply w_if | apply e_pure | apply e_set | apply e_tru | apply q_cond | apply w_ge | apply w_le | apply w_neg | apply w_eq | apply w_ne) | ((with_reducible first | apply w_get | apply e_get); · first | exact rfl | assumption))); try with_reducible apply w_end)
    refine (MW_len (by exact s5)).mpr ?_
    ((repeat (first | (with_reducible first | apply w_as | apply w_pure | apply w_set | apply w_tru | apply w_add | apply w_sub | apply w_lt | apply w_gt | apply w_t | apply w_f | apply w_if | apply e_pure | apply e_set | apply e_tru | apply q_cond | apply w_ge | apply w_le | apply w_neg | apply w_eq | apply w_ne) | ((with_reducible first | apply w_get | apply e_get); · first | exact rfl | assumption))); try with_reducible apply w_end)
    by_cases hlt : k < (mss q).length
    · rw [if_pos (decide_eq_true (by rw [List.length_map]; (first | lia | omega)))]
      have hn : n ≤ nth (mss q) k := by rcases mode with h | h <;> (first | lia | omega)
      ((repeat (first | (with_reducible first | apply w_as | apply w_pure | apply w_set | apply w_tru | apply w_add | apply w_sub | apply w_lt | apply w_gt | apply w_t | apply w_f | apply w_if | apply e_pure | apply e_set | apply e_tru | apply q_cond | apply w_ge | apply w_le | apply w_neg | apply w_eq | apply w_ne) | ((with_reducible first | apply w_get | apply e_get); · first | exact rfl | assumption))); try with_reducible apply w_end)
      refine (MW_chkL (by exact s5)).mpr ?_
      ((repeat (first | (with_reducible first | apply w_as | apply w_pure | apply w_set | apply w_tru | apply w_add | apply w_sub | apply w_lt | apply w_gt | apply w_t | apply w_f | apply w_if | apply e_pure | apply e_set | apply e_tru | apply q_cond | apply w_ge | apply w_le | apply w_neg | apply w_eq | apply w_ne) | ((with_reducible first | apply w_get | apply e_get); · first | exact rfl | assumption))); try with_reducible apply w_end)
      refine (MW_getN (j := k) (by exact hS.s2 q hq) rfl (by rw [slot_length]; exact hk)).mpr ?_
      rw [slot_at hk]
      ((repeat (first | (with_reducible first | apply w_as | apply w_pure | apply w_set | apply w_tru | apply w_add | apply w_sub | apply w_lt | apply w_gt | apply w_t | apply w_f | apply w_if | apply e_pure | apply e_set | apply e_tru | apply q_cond | apply w_ge | apply w_le | apply w_neg | apply w_eq | apply w_ne) | ((with_reducible first | apply w_get | apply e_get); · first | exact rfl | assumption))); try with_reducible apply w_end)
      refine (MW_getN (j := pos (q + 3) k) (by exact hS.s3) rfl hpk).mpr ?_
      rw [R.que q hq k hk, nth_lad hlt]
      unfold itm
      ((repeat (first | (with_reducible first | apply w_as | apply w_pure | apply w_set | apply w_tru | apply w_add | apply w_sub | apply w_lt | apply w_gt | apply w_t | apply w_f | apply w_if | apply e_pure | apply e_set | apply e_tru | apply q_cond | apply w_ge | apply w_le | apply w_neg | apply w_eq | apply w_ne) | ((with_reducible first | apply w_get | apply e_get); · first | exact rfl | assumption))); try with_reducible apply w_end)
      refine (MW_getTI (j := 1) rfl (by simp)).mpr ?_
      ((repeat (first | (with_reducible first | apply w_as | apply w_pure | apply w_set | apply w_tru | apply w_add | apply w_sub | apply w_lt | apply w_gt | apply w_t | apply w_f | apply w_if | apply e_pure | apply e_set | apply e_tru | apply q_cond | apply w_ge | apply w_le | apply w_neg | apply w_eq | apply w_ne) | ((with_reducible first | apply w_get | apply e_get); · first | exact rfl | assumption))); try with_reducible apply w_end)
      refine MW_remove (by exact s5) (by (first | lia | omega)) (perm_nth hpq hlt) ?_
      ((repeat (first | (with_reducible first | apply w_as | apply w_pure | apply w_set | apply w_tru | apply w_add | apply w_sub | apply w_lt | apply w_gt | apply w_t | apply w_f | apply w_if | apply e_pure | apply e_set | apply e_tru | apply q_cond | apply w_ge | apply w_le | apply w_neg | apply w_eq | apply w_ne) | ((with_reducible first | apply w_get | apply e_get); · first | exact rfl | assumption))); try with_reducible apply w_end)
      obtain ⟨ms', Q⟩ := lower_que (ks := (kss q).erase (nth (mss q) k) ++ [n]) hlt hle (R.hp q hq) hn ((set_erase_perm hlt).trans ((hpq.erase _).append_right _))
      exact s17_ok (fst := fst) R hq pk hk h1 h2 h3 h4 h5 h6 hw (hS.mine hq) (Far.set (by (first | lia | omega))) (by have := List.length_erase_le (a := nth (mss q) k) (l := kss q); show ((kss q).erase (nth (mss q) k)).length ≤ 15; (first | lia | omega)) Q
    · rw [if_neg (by rw [decide_eq_true_eq, List.length_map]; (first | lia | omega))]
      ((repeat (first | (with_reducible first | apply w_as | apply w_pure | apply w_set | apply w_tru | apply w_add | apply w_sub | apply w_lt | apply w_gt | apply w_t | apply w_f | apply w_if | apply e_pure | apply e_set | apply e_tru | apply q_cond | apply w_ge | apply w_le | apply w_neg | apply w_eq | apply w_ne) | ((with_reducible first | apply w_get | apply e_get); · first | exact rfl | assumption))); try with_reducible apply w_end)
      have hke : k = (mss q).length := by (first | lia | omega)
      obtain ⟨ms', Q⟩ := push_que (ks := kss q) (n := n) (by (first | lia | omega)) (R.hp q hq) hpq
      rw [← hke] at Q
      exact s17_ok (ks1 := kss q) (fst := fst) R hq pk hk h1 h2 h3 h4 h5 h6 hw (by rw [upd_id]; exact hS) (Far.refl _) (by (first | lia | omega)) Q
  replace rest := fun (_ : True) => rest
  have hll : (lad (mss q)).length = 15 := lad_length hle
  unfold law_s20
  apply w_seq
  ((repeat (first | (with_reducible first | apply w_as | apply w_pure | apply w_set | apply w_tru | apply w_add | apply w_sub | apply w_lt | apply w_gt | apply w_t | apply w_f | apply w_if | apply e_pure | apply e_set | apply e_tru | apply q_cond | apply w_ge | apply w_le | apply w_neg | apply w_eq | apply w_ne) | ((with_reducible first | apply w_get | apply e_get); · first | exact rfl | assumption))); try with_reducible apply w_end)
  refine MW_eqI.mpr ?_
  ((repeat (first | (with_reducible first | apply w_as | apply w_pure | apply w_set | apply w_tru | apply w_add | apply w_sub | apply w_lt | apply w_gt | apply w_t | apply w_f | apply w_if | apply e_pure | apply e_set | apply e_tru | apply q_cond | apply w_ge | apply w_le | apply w_neg | apply w_eq | apply w_ne) | ((with_reducible first | apply w_get | apply e_get); · first | exact rfl | assumption))); try with_reducible apply w_end)
  by_cases hk0 : k = 0
  · subst hk0
    rw [if_pos (by decide)]
    ((repeat (first | (with_reducible first | apply w_as | apply w_pure | apply w_set | apply w_tru | apply w_add | apply w_sub | apply w_lt | apply w_gt | apply w_t | apply w_f | apply w_if | apply e_pure | apply e_set | apply e_tru | apply q_cond | apply w_ge | apply w_le | apply w_neg | apply w_eq | apply w_ne) | ((with_reducible first | apply w_get | apply e_get); · first | exact rfl | assumption))); try with_reducible apply w_end)
    refine rest trivial true ⟨fun _ => rfl, fun _ => ?_⟩
    rw [wk, dif_neg (by (first | lia | omega))]
  · rw [if_neg (by rw [decide_eq_true_eq]; (first | lia | omega))]
    ((repeat (first | (with_reducible first | apply w_as | apply w_pure | apply w_set | apply w_tru | apply w_add | apply w_sub | apply w_lt | apply w_gt | apply w_t | apply w_f | apply w_if | apply e_pure | apply e_set | apply e_tru | apply q_cond | apply w_ge | apply w_le | apply w_neg | apply w_eq | apply w_ne) | ((with_reducible first | apply w_get | apply e_get); · first | exact rfl | assumption))); try with_reducible apply w_end)
    refine MW_minLI (by exact s5) (by (first | lia | omega)) fun t ht hmn => ?_
    ((repeat (first | (with_reducible first | apply w_as | apply w_pure | apply w_set | apply w_tru | apply w_add | apply w_sub | apply w_lt | apply w_gt | apply w_t | apply w_f | apply w_if | apply e_pure | apply e_set | apply e_tru | apply q_cond | apply w_ge | apply w_le | apply w_neg | apply w_eq | apply w_ne) | ((with_reducible first | apply w_get | apply e_get); · first | exact rfl | assumption))); try with_reducible apply w_end)
    refine rest trivial _ ?_
    rw [decide_eq_true_eq]
    have hm0 : 0 < (mss q).length := by (first | lia | omega)
    constructor
    · intro h
      have h' := wk_zero (lt := ltT) (itm n) k _ (by (first | lia | omega)) h
      rw [nth_set_ne (by (first | lia | omega)), nth_lad hm0, lt_itm, decide_eq_true_eq] at h'
      obtain ⟨j, hj, e⟩ := List.mem_iff_getElem.mp (hpq.mem_iff.mpr ht)
      have a2 := (R.hp q hq).min j hj
      rw [nth_getElem hj, e] at a2
      (first | lia | omega)
    · intro h
      refine wk_less (lt := ltT) (itm n) k _ fun j hj => ?_
      rw [nth_set_ne (by (first | lia | omega)), nth_lad (by (first | lia | omega)), lt_itm, decide_eq_true_eq]
      have := hmn _ (perm_nth hpq (i := j) (by (first | lia | omega)))
      (first | lia | omega)
end Mine


/-! part L01f -/
set_option autoImplicit false
set_option maxRecDepth 100000
set_option linter.unusedVariables false
set_option linter.unusedSimpArgs false
open PySem PySem.W PyProof.Rows
namespace Mine

theorem Goal.back {σ σ₁ : S} {f : Fl} {σ' : S} (h : Goal σ₁ f σ') (hF : Far σ.st σ₁.st) (hlo : ∀ y ∈ ["slots", "row", "kept", "words", "drawn", "own", "mine"], σ₁.lo y = σ.lo y) : Goal σ f σ' := by
  obtain ⟨h1, h2, h3, h4⟩ := h
  exact ⟨h1, h2, hF.trans h3, fun y hy => (h4 y hy).trans (hlo y hy)⟩

noncomputable def bA : M Fl := (seqM (do let v ← (do let o ← (getv "row"); let i ← (do let o ← (getv "own"); let i ← (do let a ← (do let vs ← (do let v ← (getv "mine"); let vs ← (pure [] : M (List V)); pure (v :: vs)); lenB vs); let b ← (pure (V.int 1) : M V); subV a b); getI o i); getI o i); (fun v => setv "last" v) v; pure .next : M Fl) law_s8)
noncomputable def bB : M Fl := (seqM (do let v ← (do let vs ← (do let v ← (do let vs ← (do let v ← (getv "mine"); let vs ← (pure [] : M (List V)); pure (v :: vs)); lenB vs); let vs ← (do let v ← (getv "n"); let vs ← (pure [] : M (List V)); pure (v :: vs)); pure (v :: vs)); mkT vs); swapT ["at", "number"] v; pure .next : M Fl) law_s21)

section
variable {σ : S} {q : Nat} {row : List V} {mss kss : Nat → List Int}
theorem bA_ok (hS : Sto σ.st row kss) (R : RowOk row mss) (hq : q < 4) (pk : ∀ q, q < 4 → (mss q).Perm (kss q)) (h1 : σ.lo "row" = some (.obj 10)) (h2 : σ.lo "own" = some (.obj (2 + q))) (h3 : σ.lo "mine" = some (.obj (11 + q))) (h0 : 0 < (kss q).length) :
    MW bA σ (Goal σ) := by
  have hlen : (kss q).length = (mss q).length := (pk q hq).length_eq.symm
  have hle := R.le q hq
  have hpl : pos (q + 3) ((mss q).length - 1) < row.length := (R.half hq _).mpr (by (first | lia | omega))
  unfold bA
  apply w_seq
  ((repeat (first | (with_reducible first | apply w_as | apply w_pure | apply w_set | apply w_tru | apply w_add | apply w_sub | apply w_lt | apply w_gt | apply w_t | apply w_f | apply w_if | apply e_pure | apply e_set | apply e_tru | apply q_cond | apply w_ge | apply w_le | apply w_neg | apply w_eq | apply w_ne) | ((with_reducible first | apply w_get | apply e_get); · first | exact rfl | assumption))); try with_reducible apply w_end)
  refine (MW_len (by exact hS.s5 q hq)).mpr ?_
  ((repeat (first | (with_reducible first | apply w_as | apply w_pure | apply w_set | apply w_tru | apply w_add | apply w_sub | apply w_lt | apply w_gt | apply w_t | apply w_f | apply w_if | apply e_pure | apply e_set | apply e_tru | apply q_cond | apply w_ge | apply w_le | apply w_neg | apply w_eq | apply w_ne) | ((with_reducible first | apply w_get | apply e_get); · first | exact rfl | assumption))); try with_reducible apply w_end)
  refine (MW_getN (j := (mss q).length - 1) (by exact hS.s2 q hq) (by rw [List.length_map]; (first | lia | omega)) (by rw [slot_length]; (first | lia | omega))).mpr ?_
  rw [slot_at (by (first | lia | omega))]
  ((repeat (first | (with_reducible first | apply w_as | apply w_pure | apply w_set | apply w_tru | apply w_add | apply w_sub | apply w_lt | apply w_gt | apply w_t | apply w_f | apply w_if | apply e_pure | apply e_set | apply e_tru | apply q_cond | apply w_ge | apply w_le | apply w_neg | apply w_eq | apply w_ne) | ((with_reducible first | apply w_get | apply e_get); · first | exact rfl | assumption))); try with_reducible apply w_end)
  refine (MW_getN (j := pos (q + 3) ((mss q).length - 1)) (by exact hS.s3) rfl hpl).mpr ?_
  rw [R.que q hq _ (by (first | lia | omega)), nth_lad (by (first | lia | omega))]
  ((repeat (first | (with_reducible first | apply w_as | apply w_pure | apply w_set | apply w_tru | apply w_add | apply w_sub | apply w_lt | apply w_gt | apply w_t | apply w_f | apply w_if | apply e_pure | apply e_set | apply e_tru | apply q_cond | apply w_ge | apply w_le | apply w_neg | apply w_eq | apply w_ne) | ((with_reducible first | apply w_get | apply e_get); · first | exact rfl | assumption))); try with_reducible apply w_end)
  refine MW.mono (popA (σ := σ.put "last" (itm (nth (mss q) ((mss q).length - 1)))) (by exact hS) R hq pk h1 h2 h3 h0 rfl) fun f σ' h => h.back (Far.refl _) ?_
  intro y hy
  simp only [List.mem_cons, List.not_mem_nil, or_false] at hy
  rcases hy with rfl | rfl | rfl | rfl | rfl | rfl | rfl <;> rfl

theorem bB_ok {kd n : Int} (hS : Sto σ.st row kss) (R : RowOk row mss) (hq : q < 4) (pk : ∀ q, q < 4 → (mss q).Perm (kss q)) (h1 : σ.lo "row" = some (.obj 10)) (h2 : σ.lo "own" = some (.obj (2 + q))) (h3 : σ.lo "mine" = some (.obj (11 + q)))
    (h4 : σ.lo "words" = some (.str nonE.msg)) (h5 : σ.lo "kind" = some (.int kd)) (h6 : σ.lo "n" = some (.int n)) (hb : ¬ (kd = 3 ∧ (kss q).length ≠ 0) → (kss q).length < 15) : MW bB σ (Goal σ) := by
  have hpq := pk q hq
  have hlen : (kss q).length = (mss q).length := hpq.length_eq.symm
  have hle := R.le q hq
  have s5 := hS.s5 q hq
  have hfin : ∀ (st' : Store) (lo' : String → Option V), Pres [] σ.st st' → (∀ y ∈ ["slots", "row", "kept", "words", "drawn", "own", "mine"], lo' y = σ.lo y) → (∀ f σ', Goal ⟨st', lo'⟩ f σ' → Goal σ f σ') := by
    intro st' lo' p hl f σ' h
    exact h.back (Far.pres p) hl
  replace hfin := fun (_ : True) => hfin
  unfold bB
  apply w_seq
  ((repeat (first | (with_reducible first | apply w_as | apply w_pure | apply w_set | apply w_tru | apply w_add | apply w_sub | apply w_lt | apply w_gt | apply w_t | apply w_f | apply w_if | apply e_pure | apply e_set | apply e_tru | apply q_cond | apply w_ge | apply w_le | apply w_neg | apply w_eq | apply w_ne) | ((with_reducible first | apply w_get | apply e_get); · first | exact rfl | assumption))); try with_reducible apply w_end)
  refine (MW_len (by exact s5)).mpr ?_
  ((repeat (first | (with_reducible first | apply w_as | apply w_pure | apply w_set | apply w_tru | apply w_add | apply w_sub | apply w_lt | apply w_gt | apply w_t | apply w_f | apply w_if | apply e_pure | apply e_set | apply e_tru | apply q_cond | apply w_ge | apply w_le | apply w_neg | apply w_eq | apply w_ne) | ((with_reducible first | apply w_get | apply e_get); · first | exact rfl | assumption))); try with_reducible apply w_end)
  refine (MW_mkT (by simp)).mpr ?_
  ((repeat (first | (with_reducible first | apply w_as | apply w_pure | apply w_set | apply w_tru | apply w_add | apply w_sub | apply w_lt | apply w_gt | apply w_t | apply w_f | apply w_if | apply e_pure | apply e_set | apply e_tru | apply q_cond | apply w_ge | apply w_le | apply w_neg | apply w_eq | apply w_ne) | ((with_reducible first | apply w_get | apply e_get); · first | exact rfl | assumption))); try with_reducible apply w_end)
  refine MW_swapB.mpr ?_
  ((repeat (first | (with_reducible first | apply w_as | apply w_pure | apply w_set | apply w_tru | apply w_add | apply w_sub | apply w_lt | apply w_gt | apply w_t | apply w_f | apply w_if | apply e_pure | apply e_set | apply e_tru | apply q_cond | apply w_ge | apply w_le | apply w_neg | apply w_eq | apply w_ne) | ((with_reducible first | apply w_get | apply e_get); · first | exact rfl | assumption))); try with_reducible apply w_end)
  rw [List.length_map]
  unfold law_s21
  apply w_seq
  ((repeat (first | (with_reducible first | apply w_as | apply w_pure | apply w_set | apply w_tru | apply w_add | apply w_sub | apply w_lt | apply w_gt | apply w_t | apply w_f | apply w_if | apply e_pure | apply e_set | apply e_tru | apply q_cond | apply w_ge | apply w_le | apply w_neg | apply w_eq | apply w_ne) | ((with_reducible first | apply w_get | apply e_get); · first | exact rfl | assumption))); try with_reducible apply w_end)
  refine MW_eqI.mpr ?_
  ((repeat (first | (with_reducible first | apply w_as | apply w_pure | apply w_set | apply w_tru | apply w_add | apply w_sub | apply w_lt | apply w_gt | apply w_t | apply w_f | apply w_if | apply e_pure | apply e_set | apply e_tru | apply q_cond | apply w_ge | apply w_le | apply w_neg | apply w_eq | apply w_ne) | ((with_reducible first | apply w_get | apply e_get); · first | exact rfl | assumption))); try with_reducible apply w_end)
  have push : ∀ (st' : Store), Pres [] σ.st st' → (kss q).length < 15 → MW law_s20 ⟨st', ((σ.put "number" (.int n)).put "at" (.int ((kss q).length : Nat))).lo⟩ (Goal σ) := by
    intro st' p hlt
    refine MW.mono (comeB (σ := ⟨st', ((σ.put "number" (.int n)).put "at" (.int ((kss q).length : Nat))).lo⟩) (k := (kss q).length) (n := n) (by exact hS.pres p) R hq pk h1 h2 h3 h4 rfl rfl (.inl ⟨hlen, hlt⟩)) (hfin trivial _ _ p ?_)
    intro y hy
    simp only [List.mem_cons, List.not_mem_nil, or_false] at hy
    rcases hy with rfl | rfl | rfl | rfl | rfl | rfl | rfl <;> rfl
  replace push := fun (_ : True) => push
  by_cases hk3 : kd = 3
  · rw [if_pos (decide_eq_true hk3)]
    ((repeat (first | (with_reducible first | apply w_as | apply w_pure | apply w_set | apply w_tru | apply w_add | apply w_sub | apply w_lt | apply w_gt | apply w_t | apply w_f | apply w_if | apply e_pure | apply e_set | apply e_tru | apply q_cond | apply w_ge | apply w_le | apply w_neg | apply w_eq | apply w_ne) | ((with_reducible first | apply w_get | apply e_get); · first | exact rfl | assumption))); try with_reducible apply w_end)
    refine MW_newL' (by simp) fun k1 st1 p1 f1 g1 => ?_
    ((repeat (first | (with_reducible first | apply w_as | apply w_pure | apply w_set | apply w_tru | apply w_add | apply w_sub | apply w_lt | apply w_gt | apply w_t | apply w_f | apply w_if | apply e_pure | apply e_set | apply e_tru | apply q_cond | apply w_ge | apply w_le | apply w_neg | apply w_eq | apply w_ne) | ((with_reducible first | apply w_get | apply e_get); · first | exact rfl | assumption))); try with_reducible apply w_end)
    refine (MW_neL (bs := []) (by exact p1.get0 s5) (by exact g1)).mpr ?_
    ((repeat (first | (with_reducible first | apply w_as | apply w_pure | apply w_set | apply w_tru | apply w_add | apply w_sub | apply w_lt | apply w_gt | apply w_t | apply w_f | apply w_if | apply e_pure | apply e_set | apply e_tru | apply q_cond | apply w_ge | apply w_le | apply w_neg | apply w_eq | apply w_ne) | ((with_reducible first | apply w_get | apply e_get); · first | exact rfl | assumption))); try with_reducible apply w_end)
    by_cases hn0 : kss q = []
    · rw [decide_eq_true hn0, if_neg (by decide)]
      ((repeat (first | (with_reducible first | apply w_as | apply w_pure | apply w_set | apply w_tru | apply w_add | apply w_sub | apply w_lt | apply w_gt | apply w_t | apply w_f | apply w_if | apply e_pure | apply e_set | apply e_tru | apply q_cond | apply w_ge | apply w_le | apply w_neg | apply w_eq | apply w_ne) | ((with_reducible first | apply w_get | apply e_get); · first | exact rfl | assumption))); try with_reducible apply w_end)
      refine push trivial st1 p1 ?_
      rw [hn0]; simp
    · rw [decide_eq_false hn0, if_pos (by decide)]
      have hpos : 0 < (kss q).length := List.length_pos_iff.mpr hn0
      ((repeat (first | (with_reducible first | apply w_as | apply w_pure | apply w_set | apply w_tru | apply w_add | apply w_sub | apply w_lt | apply w_gt | apply w_t | apply w_f | apply w_if | apply e_pure | apply e_set | apply e_tru | apply q_cond | apply w_ge | apply w_le | apply w_neg | apply w_eq | apply w_ne) | ((with_reducible first | apply w_get | apply e_get); · first | exact rfl | assumption))); try with_reducible apply w_end)
      apply w_seq
      ((repeat (first | (with_reducible first | apply w_as | apply w_pure | apply w_set | apply w_tru | apply w_add | apply w_sub | apply w_lt | apply w_gt | apply w_t | apply w_f | apply w_if | apply e_pure | apply e_set | apply e_tru | apply q_cond | apply w_ge | apply w_le | apply w_neg | apply w_eq | apply w_ne) | ((with_reducible first | apply w_get | apply e_get); · first | exact rfl | assumption))); try with_reducible apply w_end)
      refine (MW_len (by exact p1.get0 s5)).mpr ?_
      ((repeat (first | (with_reducible first | apply w_as | apply w_pure | apply w_set | apply w_tru | apply w_add | apply w_sub | apply w_lt | apply w_gt | apply w_t | apply w_f | apply w_if | apply e_pure | apply e_set | apply e_tru | apply q_cond | apply w_ge | apply w_le | apply w_neg | apply w_eq | apply w_ne) | ((with_reducible first | apply w_get | apply e_get); · first | exact rfl | assumption))); try with_reducible apply w_end)
      refine MW_fmod.mpr ⟨by rw [List.length_map]; (first | lia | omega), ?_⟩
      rw [List.length_map]
      obtain ⟨k, hk⟩ : ∃ k : Nat, n % ((kss q).length : Nat) = (k : Nat) := ⟨(n % ((kss q).length : Nat)).toNat, by have := Int.emod_nonneg n (b := ((kss q).length : Nat)) (by (first | lia | omega)); (first | lia | omega)⟩
      have hkl : k < (kss q).length := by have := Int.emod_lt_of_pos n (b := ((kss q).length : Nat)) (by (first | lia | omega)); (first | lia | omega)
      rw [hk]
      have hS1 := hS.pres p1
      have hpk : pos (q + 3) k < row.length := (R.half hq _).mpr (by (first | lia | omega))
      ((repeat (first | (with_reducible first | apply w_as | apply w_pure | apply w_set | apply w_tru | apply w_add | apply w_sub | apply w_lt | apply w_gt | apply w_t | apply w_f | apply w_if | apply e_pure | apply e_set | apply e_tru | apply q_cond | apply w_ge | apply w_le | apply w_neg | apply w_eq | apply w_ne) | ((with_reducible first | apply w_get | apply e_get); · first | exact rfl | assumption))); try with_reducible apply w_end)
      unfold law_s19
      ((repeat (first | (with_reducible first | apply w_as | apply w_pure | apply w_set | apply w_tru | apply w_add | apply w_sub | apply w_lt | apply w_gt | apply w_t | apply w_f | apply w_if | apply e_pure | apply e_set | apply e_tru | apply q_cond | apply w_ge | apply w_le | apply w_neg | apply w_eq | apply w_ne) | ((with_reducible first | apply w_get | apply e_get); · first | exact rfl | assumption))); try with_reducible apply w_end)
      refine (MW_getN (j := k) (by exact hS1.s2 q hq) rfl (by rw [slot_length]; (first | lia | omega))).mpr ?_
      rw [slot_at (by (first | lia | omega))]
      ((repeat (first | (with_reducible first | apply w_as | apply w_pure | apply w_set | apply w_tru | apply w_add | apply w_sub | apply w_lt | apply w_gt | apply w_t | apply w_f | apply w_if | apply e_pure | apply e_set | apply e_tru | apply q_cond | apply w_ge | apply w_le | apply w_neg | apply w_eq | apply w_ne) | ((with_reducible first | apply w_get | apply e_get); · first | exact rfl | assumption))); try with_reducible apply w_end)
      refine (MW_getN (j := pos (q + 3) k) (by exact hS1.s3) rfl hpk).mpr ?_
      rw [R.que q hq k (by (first | lia | omega)), nth_lad (by (first | lia | omega))]
      unfold itm
      ((repeat (first | (with_reducible first | apply w_as | apply w_pure | apply w_set | apply w_tru | apply w_add | apply w_sub | apply w_lt | apply w_gt | apply w_t | apply w_f | apply w_if | apply e_pure | apply e_set | apply e_tru | apply q_cond | apply w_ge | apply w_le | apply w_neg | apply w_eq | apply w_ne) | ((with_reducible first | apply w_get | apply e_get); · first | exact rfl | assumption))); try with_reducible apply w_end)
      refine (MW_getTI (j := 1) rfl (by simp)).mpr ?_
      ((repeat (first | (with_reducible first | apply w_as | apply w_pure | apply w_set | apply w_tru | apply w_add | apply w_sub | apply w_lt | apply w_gt | apply w_t | apply w_f | apply w_if | apply e_pure | apply e_set | apply e_tru | apply q_cond | apply w_ge | apply w_le | apply w_neg | apply w_eq | apply w_ne) | ((with_reducible first | apply w_get | apply e_get); · first | exact rfl | assumption))); try with_reducible apply w_end)
      refine MW_abs.mpr ?_
      ((repeat (first | (with_reducible first | apply w_as | apply w_pure | apply w_set | apply w_tru | apply w_add | apply w_sub | apply w_lt | apply w_gt | apply w_t | apply w_f | apply w_if | apply e_pure | apply e_set | apply e_tru | apply q_cond | apply w_ge | apply w_le | apply w_neg | apply w_eq | apply w_ne) | ((with_reducible first | apply w_get | apply e_get); · first | exact rfl | assumption))); try with_reducible apply w_end)
      clear push
      refine MW.mono (comeB (σ := ⟨st1, ((((σ.put "number" (.int n)).put "at" (.int ((kss q).length : Nat))).put "at" (.int (k : Nat))).put "number" (.int (nth (mss q) k - (if n < 0 then -n else n)))).lo⟩) (k := k) (n := nth (mss q) k - (if n < 0 then -n else n)) (by exact hS1) R hq pk h1 h2 h3 h4 rfl rfl (.inr ⟨by (first | lia | omega), by split <;> (first | lia | omega)⟩)) (hfin trivial _ _ p1 ?_)
      intro y hy
      simp only [List.mem_cons, List.not_mem_nil, or_false] at hy
      rcases hy with rfl | rfl | rfl | rfl | rfl | rfl | rfl <;> rfl
  · rw [if_neg (by rw [decide_eq_true_eq]; exact hk3)]
    ((repeat (first | (with_reducible first | apply w_as | apply w_pure | apply w_set | apply w_tru | apply w_add | apply w_sub | apply w_lt | apply w_gt | apply w_t | apply w_f | apply w_if | apply e_pure | apply e_set | apply e_tru | apply q_cond | apply w_ge | apply w_le | apply w_neg | apply w_eq | apply w_ne) | ((with_reducible first | apply w_get | apply e_get); · first | exact rfl | assumption))); try with_reducible apply w_end)
    exact push trivial σ.st (Pres.refl _ _) (hb (fun h => hk3 h.1))
end

theorem nth_four {q a : Nat} (hq : q < 4) : nth [V.obj a, .obj (a + 1), .obj (a + 2), .obj (a + 3)] q = .obj (a + q) := by
  match q, hq with
  | 0, _ => rfl
  | 1, _ => rfl
  | 2, _ => rfl
  | 3, _ => rfl

/-- one call -/
structure Lp (D : Nat) (dr : List Int) (σ : S) : Prop where
  ok : ∃ row mss kss, Sto σ.st row kss ∧ RowOk row mss ∧ ∀ q, q < 4 → (mss q).Perm (kss q)
  h1 : σ.lo "slots" = some (.obj 1)
  h2 : σ.lo "row" = some (.obj 10)
  h3 : σ.lo "kept" = some (.obj 15)
  h4 : σ.lo "words" = some (.str nonE.msg)
  d : σ.st[D]? = some (.lst (dr.map V.int))

theorem body_ok {σ : S} {D : Nat} {dr : List Int} {x : Int} (L : Lp D dr σ) (hD : 16 ≤ D) (hx : σ.lo "x" = some (.int x)) : MW law_l24_b σ (fun f σ' => f = .next ∧ Lp D dr σ') := by
  obtain ⟨⟨row, mss, kss, hS, R, pk⟩, h1, h2, h3, h4, hd⟩ := L
  obtain ⟨q, hq⟩ : ∃ q : Nat, x % 4 = (q : Nat) := ⟨(x % 4).toNat, by (first | lia | omega)⟩
  have hq4 : q < 4 := by (first | lia | omega)
  have hDl := lt_of_get hd
  unfold law_l24_b
  apply w_seq
  ((repeat (first | (with_reducible first | apply w_as | apply w_pure | apply w_set | apply w_tru | apply w_add | apply w_sub | apply w_lt | apply w_gt | apply w_t | apply w_f | apply w_if | apply e_pure | apply e_set | apply e_tru | apply q_cond | apply w_ge | apply w_le | apply w_neg | apply w_eq | apply w_ne) | ((with_reducible first | apply w_get | apply e_get); · first | exact rfl | assumption))); try with_reducible apply w_end)
  refine MW_fmod.mpr ⟨by (first | lia | omega), ?_⟩
  ((repeat (first | (with_reducible first | apply w_as | apply w_pure | apply w_set | apply w_tru | apply w_add | apply w_sub | apply w_lt | apply w_gt | apply w_t | apply w_f | apply w_if | apply e_pure | apply e_set | apply e_tru | apply q_cond | apply w_ge | apply w_le | apply w_neg | apply w_eq | apply w_ne) | ((with_reducible first | apply w_get | apply e_get); · first | exact rfl | assumption))); try with_reducible apply w_end)
  refine (MW_getN (j := q) (by exact hS.s1) hq (by simp; (first | lia | omega))).mpr ?_
  rw [nth_four hq4]
  ((repeat (first | (with_reducible first | apply w_as | apply w_pure | apply w_set | apply w_tru | apply w_add | apply w_sub | apply w_lt | apply w_gt | apply w_t | apply w_f | apply w_if | apply e_pure | apply e_set | apply e_tru | apply q_cond | apply w_ge | apply w_le | apply w_neg | apply w_eq | apply w_ne) | ((with_reducible first | apply w_get | apply e_get); · first | exact rfl | assumption))); try with_reducible apply w_end)
  refine MW_fmod.mpr ⟨by (first | lia | omega), ?_⟩
  ((repeat (first | (with_reducible first | apply w_as | apply w_pure | apply w_set | apply w_tru | apply w_add | apply w_sub | apply w_lt | apply w_gt | apply w_t | apply w_f | apply w_if | apply e_pure | apply e_set | apply e_tru | apply q_cond | apply w_ge | apply w_le | apply w_neg | apply w_eq | apply w_ne) | ((with_reducible first | apply w_get | apply e_get); · first | exact rfl | assumption))); try with_reducible apply w_end)
  refine (MW_getN (j := q) (by exact hS.s4) hq (by simp; (first | lia | omega))).mpr ?_
  rw [nth_four hq4]
  ((repeat (first | (with_reducible first | apply w_as | apply w_pure | apply w_set | apply w_tru | apply w_add | apply w_sub | apply w_lt | apply w_gt | apply w_t | apply w_f | apply w_if | apply e_pure | apply e_set | apply e_tru | apply q_cond | apply w_ge | apply w_le | apply w_neg | apply w_eq | apply w_ne) | ((with_reducible first | apply w_get | apply e_get); · first | exact rfl | assumption))); try with_reducible apply w_end)
  refine MW_fdiv.mpr ⟨by (first | lia | omega), ?_⟩
  ((repeat (first | (with_reducible first | apply w_as | apply w_pure | apply w_set | apply w_tru | apply w_add | apply w_sub | apply w_lt | apply w_gt | apply w_t | apply w_f | apply w_if | apply e_pure | apply e_set | apply e_tru | apply q_cond | apply w_ge | apply w_le | apply w_neg | apply w_eq | apply w_ne) | ((with_reducible first | apply w_get | apply e_get); · first | exact rfl | assumption))); try with_reducible apply w_end)
  refine MW_fmod.mpr ⟨by (first | lia | omega), ?_⟩
  ((repeat (first | (with_reducible first | apply w_as | apply w_pure | apply w_set | apply w_tru | apply w_add | apply w_sub | apply w_lt | apply w_gt | apply w_t | apply w_f | apply w_if | apply e_pure | apply e_set | apply e_tru | apply q_cond | apply w_ge | apply w_le | apply w_neg | apply w_eq | apply w_ne) | ((with_reducible first | apply w_get | apply e_get); · first | exact rfl | assumption))); try with_reducible apply w_end)
  refine MW_fdiv.mpr ⟨by (first | lia | omega), ?_⟩
  ((repeat (first | (with_reducible first | apply w_as | apply w_pure | apply w_set | apply w_tru | apply w_add | apply w_sub | apply w_lt | apply w_gt | apply w_t | apply w_f | apply w_if | apply e_pure | apply e_set | apply e_tru | apply q_cond | apply w_ge | apply w_le | apply w_neg | apply w_eq | apply w_ne) | ((with_reducible first | apply w_get | apply e_get); · first | exact rfl | assumption))); try with_reducible apply w_end)
  refine (MW_mkT (by simp)).mpr ?_
  ((repeat (first | (with_reducible first | apply w_as | apply w_pure | apply w_set | apply w_tru | apply w_add | apply w_sub | apply w_lt | apply w_gt | apply w_t | apply w_f | apply w_if | apply e_pure | apply e_set | apply e_tru | apply q_cond | apply w_ge | apply w_le | apply w_neg | apply w_eq | apply w_ne) | ((with_reducible first | apply w_get | apply e_get); · first | exact rfl | assumption))); try with_reducible apply w_end)
  refine MW_unpack4.mpr ?_
  rw [MW_consT]
  ((repeat (first | (with_reducible first | apply w_as | apply w_pure | apply w_set | apply w_tru | apply w_add | apply w_sub | apply w_lt | apply w_gt | apply w_t | apply w_f | apply w_if | apply e_pure | apply e_set | apply e_tru | apply q_cond | apply w_ge | apply w_le | apply w_neg | apply w_eq | apply w_ne) | ((with_reducible first | apply w_get | apply e_get); · first | exact rfl | assumption))); try with_reducible apply w_end)
  rw [MW_consT]
  ((repeat (first | (with_reducible first | apply w_as | apply w_pure | apply w_set | apply w_tru | apply w_add | apply w_sub | apply w_lt | apply w_gt | apply w_t | apply w_f | apply w_if | apply e_pure | apply e_set | apply e_tru | apply q_cond | apply w_ge | apply w_le | apply w_neg | apply w_eq | apply w_ne) | ((with_reducible first | apply w_get | apply e_get); · first | exact rfl | assumption))); try with_reducible apply w_end)
  rw [MW_consT]
  ((repeat (first | (with_reducible first | apply w_as | apply w_pure | apply w_set | apply w_tru | apply w_add | apply w_sub | apply w_lt | apply w_gt | apply w_t | apply w_f | apply w_if | apply e_pure | apply e_set | apply e_tru | apply q_cond | apply w_ge | apply w_le | apply w_neg | apply w_eq | apply w_ne) | ((with_reducible first | apply w_get | apply e_get); · first | exact rfl | assumption))); try with_reducible apply w_end)
  rw [MW_consT]
  ((repeat (first | (with_reducible first | apply w_as | apply w_pure | apply w_set | apply w_tru | apply w_add | apply w_sub | apply w_lt | apply w_gt | apply w_t | apply w_f | apply w_if | apply e_pure | apply e_set | apply e_tru | apply q_cond | apply w_ge | apply w_le | apply w_neg | apply w_eq | apply w_ne) | ((with_reducible first | apply w_get | apply e_get); · first | exact rfl | assumption))); try with_reducible apply w_end)
  -- the end of a call
  have key : ∀ (σ₁ : S), Pres [] σ.st σ₁.st → σ₁.lo = ((((σ.put "own" (.obj (2 + q))).put "mine" (.obj (11 + q))).put "kind" (.int (x / 4 % 4))).put "n" (.int (x / 16))).lo → ∀ f σ', Goal σ₁ f σ' →
      (match f with | .next => MW law_s22 σ' (fun f σ' => f = .next ∧ Lp D dr σ') | .brk => .brk = Fl.next ∧ Lp D dr σ' | .cont => .cont = Fl.next ∧ Lp D dr σ' | .ret v => .ret v = Fl.next ∧ Lp D dr σ') := by
    rintro σ₁ p hl f σ' ⟨rfl, ⟨row', mss', kss', hS', R', pk'⟩, hF, hlo⟩
    have g : ∀ y ∈ ["slots", "row", "kept", "words", "drawn", "own", "mine"], σ'.lo y = ((((σ.put "own" (.obj (2 + q))).put "mine" (.obj (11 + q))).put "kind" (.int (x / 4 % 4))).put "n" (.int (x / 16))).lo y := fun y hy => by rw [hlo y hy, hl]
    have e : ∀ y ∈ ["slots", "row", "kept", "words"], σ'.lo y = σ.lo y := by
      intro y hy
      rw [g y (by simp only [List.mem_cons, List.not_mem_nil, or_false] at hy ⊢; rcases hy with rfl | rfl | rfl | rfl <;> simp)]
      simp only [List.mem_cons, List.not_mem_nil, or_false] at hy
      rcases hy with rfl | rfl | rfl | rfl <;> rfl
    refine s22_ok hS' R' hq4 (pk' q hq4) ((e _ (by simp)).trans h2) ((g "own" (by simp)).trans rfl) ((g "mine" (by simp)).trans rfl) fun st' p' => ⟨rfl, ⟨row', mss', kss', hS'.pres p', R', pk'⟩, (e _ (by simp)).trans h1, (e _ (by simp)).trans h2, (e _ (by simp)).trans h3, (e _ (by simp)).trans h4, ?_⟩
    refine p'.get0 ?_
    rw [hF.2 D hD (Nat.lt_of_lt_of_le hDl p.1)]
    exact p.get0 hd
  replace key := fun (_ : True) => key
  have s5 := hS.s5 q hq4
  generalize hkd : x / 4 % 4 = kd at key
  have hkr : 0 ≤ kd ∧ kd < 4 := by (first | lia | omega)
  have hle : (kss q).length ≤ 15 := by rw [← (pk q hq4).length_eq]; exact R.le q hq4
  have hA : ∀ st', Pres [] σ.st st' → 0 < (kss q).length → MW bA ⟨st', ((((σ.put "own" (.obj (2 + q))).put "mine" (.obj (11 + q))).put "kind" (.int kd)).put "n" (.int (x / 16))).lo⟩ (fun f σ' => match f with | .next => MW law_s22 σ' (fun f σ' => f = .next ∧ Lp D dr σ') | .brk => .brk = Fl.next ∧ Lp D dr σ' | .cont => .cont = Fl.next ∧ Lp D dr σ' | .ret v => .ret v = Fl.next ∧ Lp D dr σ') := by
    intro st' p h0
    exact MW.mono (bA_ok (σ := ⟨st', ((((σ.put "own" (.obj (2 + q))).put "mine" (.obj (11 + q))).put "kind" (.int kd)).put "n" (.int (x / 16))).lo⟩) (by exact hS.pres p) R hq4 pk h2 rfl rfl h0) (key trivial ⟨st', _⟩ p rfl)
  have hB : ∀ st', Pres [] σ.st st' → (¬ (kd = 3 ∧ (kss q).length ≠ 0) → (kss q).length < 15) → MW bB ⟨st', ((((σ.put "own" (.obj (2 + q))).put "mine" (.obj (11 + q))).put "kind" (.int kd)).put "n" (.int (x / 16))).lo⟩ (fun f σ' => match f with | .next => MW law_s22 σ' (fun f σ' => f = .next ∧ Lp D dr σ') | .brk => .brk = Fl.next ∧ Lp D dr σ' | .cont => .cont = Fl.next ∧ Lp D dr σ' | .ret v => .ret v = Fl.next ∧ Lp D dr σ') := by
    intro st' p hb
    exact MW.mono (bB_ok (σ := ⟨st', ((((σ.put "own" (.obj (2 + q))).put "mine" (.obj (11 + q))).put "kind" (.int kd)).put "n" (.int (x / 16))).lo⟩) (kd := kd) (n := x / 16) (by exact hS.pres p) R hq4 pk h2 rfl rfl h4 rfl rfl hb) (key trivial ⟨st', _⟩ p rfl)
  replace hA := fun (_ : True) => hA
  replace hB := fun (_ : True) => hB
  clear key
  unfold law_s23
  apply w_seq
  ((repeat (first | (with_reducible first | apply w_as | apply w_pure | apply w_set | apply w_tru | apply w_add | apply w_sub | apply w_lt | apply w_gt | apply w_t | apply w_f | apply w_if | apply e_pure | apply e_set | apply e_tru | apply q_cond | apply w_ge | apply w_le | apply w_neg | apply w_eq | apply w_ne) | ((with_reducible first | apply w_get | apply e_get); · first | exact rfl | assumption))); try with_reducible apply w_end)
  refine MW_eqI.mpr ?_
  ((repeat (first | (with_reducible first | apply w_as | apply w_pure | apply w_set | apply w_tru | apply w_add | apply w_sub | apply w_lt | apply w_gt | apply w_t | apply w_f | apply w_if | apply e_pure | apply e_set | apply e_tru | apply q_cond | apply w_ge | apply w_le | apply w_neg | apply w_eq | apply w_ne) | ((with_reducible first | apply w_get | apply e_get); · first | exact rfl | assumption))); try with_reducible apply w_end)
  by_cases hk2 : kd = 2
  · rw [if_pos (decide_eq_true hk2)]
    ((repeat (first | (with_reducible first | apply w_as | apply w_pure | apply w_set | apply w_tru | apply w_add | apply w_sub | apply w_lt | apply w_gt | apply w_t | apply w_f | apply w_if | apply e_pure | apply e_set | apply e_tru | apply q_cond | apply w_ge | apply w_le | apply w_neg | apply w_eq | apply w_ne) | ((with_reducible first | apply w_get | apply e_get); · first | exact rfl | assumption))); try with_reducible apply w_end)
    refine MW_newL' (by simp) fun k1 st1 p1 f1 g1 => ?_
    ((repeat (first | (with_reducible first | apply w_as | apply w_pure | apply w_set | apply w_tru | apply w_add | apply w_sub | apply w_lt | apply w_gt | apply w_t | apply w_f | apply w_if | apply e_pure | apply e_set | apply e_tru | apply q_cond | apply w_ge | apply w_le | apply w_neg | apply w_eq | apply w_ne) | ((with_reducible first | apply w_get | apply e_get); · first | exact rfl | assumption))); try with_reducible apply w_end)
    refine (MW_neL (bs := []) (by exact p1.get0 s5) (by exact g1)).mpr ?_
    ((repeat (first | (with_reducible first | apply w_as | apply w_pure | apply w_set | apply w_tru | apply w_add | apply w_sub | apply w_lt | apply w_gt | apply w_t | apply w_f | apply w_if | apply e_pure | apply e_set | apply e_tru | apply q_cond | apply w_ge | apply w_le | apply w_neg | apply w_eq | apply w_ne) | ((with_reducible first | apply w_get | apply e_get); · first | exact rfl | assumption))); try with_reducible apply w_end)
    by_cases hn0 : kss q = []
    · rw [decide_eq_true hn0, if_neg (by decide)]
      ((repeat (first | (with_reducible first | apply w_as | apply w_pure | apply w_set | apply w_tru | apply w_add | apply w_sub | apply w_lt | apply w_gt | apply w_t | apply w_f | apply w_if | apply e_pure | apply e_set | apply e_tru | apply q_cond | apply w_ge | apply w_le | apply w_neg | apply w_eq | apply w_ne) | ((with_reducible first | apply w_get | apply e_get); · first | exact rfl | assumption))); try with_reducible apply w_end)
      rw [if_neg (by rw [decide_eq_true_eq]; (first | lia | omega))]
      ((repeat (first | (with_reducible first | apply w_as | apply w_pure | apply w_set | apply w_tru | apply w_add | apply w_sub | apply w_lt | apply w_gt | apply w_t | apply w_f | apply w_if | apply e_pure | apply e_set | apply e_tru | apply q_cond | apply w_ge | apply w_le | apply w_neg | apply w_eq | apply w_ne) | ((with_reducible first | apply w_get | apply e_get); · first | exact rfl | assumption))); try with_reducible apply w_end)
      exact hB trivial st1 p1 (fun _ => by rw [hn0]; simp)
    · rw [decide_eq_false hn0, if_pos (by decide)]
      ((repeat (first | (with_reducible first | apply w_as | apply w_pure | apply w_set | apply w_tru | apply w_add | apply w_sub | apply w_lt | apply w_gt | apply w_t | apply w_f | apply w_if | apply e_pure | apply e_set | apply e_tru | apply q_cond | apply w_ge | apply w_le | apply w_neg | apply w_eq | apply w_ne) | ((with_reducible first | apply w_get | apply e_get); · first | exact rfl | assumption))); try with_reducible apply w_end)
      exact hA trivial st1 p1 (List.length_pos_iff.mpr hn0)
  · rw [if_neg (by rw [decide_eq_true_eq]; exact hk2)]
    ((repeat (first | (with_reducible first | apply w_as | apply w_pure | apply w_set | apply w_tru | apply w_add | apply w_sub | apply w_lt | apply w_gt | apply w_t | apply w_f | apply w_if | apply e_pure | apply e_set | apply e_tru | apply q_cond | apply w_ge | apply w_le | apply w_neg | apply w_eq | apply w_ne) | ((with_reducible first | apply w_get | apply e_get); · first | exact rfl | assumption))); try with_reducible apply w_end)
    by_cases hlt : kd < 2
    · rw [if_pos (decide_eq_true hlt)]
      ((repeat (first | (with_reducible first | apply w_as | apply w_pure | apply w_set | apply w_tru | apply w_add | apply w_sub | apply w_lt | apply w_gt | apply w_t | apply w_f | apply w_if | apply e_pure | apply e_set | apply e_tru | apply q_cond | apply w_ge | apply w_le | apply w_neg | apply w_eq | apply w_ne) | ((with_reducible first | apply w_get | apply e_get); · first | exact rfl | assumption))); try with_reducible apply w_end)
      refine (MW_len (by exact s5)).mpr ?_
      ((repeat (first | (with_reducible first | apply w_as | apply w_pure | apply w_set | apply w_tru | apply w_add | apply w_sub | apply w_lt | apply w_gt | apply w_t | apply w_f | apply w_if | apply e_pure | apply e_set | apply e_tru | apply q_cond | apply w_ge | apply w_le | apply w_neg | apply w_eq | apply w_ne) | ((with_reducible first | apply w_get | apply e_get); · first | exact rfl | assumption))); try with_reducible apply w_end)
      refine MW_eqI.mpr ?_
      ((repeat (first | (with_reducible first | apply w_as | apply w_pure | apply w_set | apply w_tru | apply w_add | apply w_sub | apply w_lt | apply w_gt | apply w_t | apply w_f | apply w_if | apply e_pure | apply e_set | apply e_tru | apply q_cond | apply w_ge | apply w_le | apply w_neg | apply w_eq | apply w_ne) | ((with_reducible first | apply w_get | apply e_get); · first | exact rfl | assumption))); try with_reducible apply w_end)
      by_cases h15 : (kss q).length = 15
      · rw [if_pos (decide_eq_true (by rw [List.length_map]; (first | lia | omega)))]
        ((repeat (first | (with_reducible first | apply w_as | apply w_pure | apply w_set | apply w_tru | apply w_add | apply w_sub | apply w_lt | apply w_gt | apply w_t | apply w_f | apply w_if | apply e_pure | apply e_set | apply e_tru | apply q_cond | apply w_ge | apply w_le | apply w_neg | apply w_eq | apply w_ne) | ((with_reducible first | apply w_get | apply e_get); · first | exact rfl | assumption))); try with_reducible apply w_end)
        exact hA trivial σ.st (Pres.refl _ _) (by (first | lia | omega))
      · rw [if_neg (by rw [decide_eq_true_eq, List.length_map]; (first | lia | omega))]
        ((repeat (first | (with_reducible first | apply w_as | apply w_pure | apply w_set | apply w_tru | apply w_add | apply w_sub | apply w_lt | apply w_gt | apply w_t | apply w_f | apply w_if | apply e_pure | apply e_set | apply e_tru | apply q_cond | apply w_ge | apply w_le | apply w_neg | apply w_eq | apply w_ne) | ((with_reducible first | apply w_get | apply e_get); · first | exact rfl | assumption))); try with_reducible apply w_end)
        exact hB trivial σ.st (Pres.refl _ _) (fun _ => by (first | lia | omega))
    · rw [if_neg (by rw [decide_eq_true_eq]; exact hlt)]
      ((repeat (first | (with_reducible first | apply w_as | apply w_pure | apply w_set | apply w_tru | apply w_add | apply w_sub | apply w_lt | apply w_gt | apply w_t | apply w_f | apply w_if | apply e_pure | apply e_set | apply e_tru | apply q_cond | apply w_ge | apply w_le | apply w_neg | apply w_eq | apply w_ne) | ((with_reducible first | apply w_get | apply e_get); · first | exact rfl | assumption))); try with_reducible apply w_end)
      refine hB trivial σ.st (Pres.refl _ _) (fun h => ?_)
      have : kd = 3 := by (first | lia | omega)
      have : (kss q).length = 0 := by
        by_cases h' : (kss q).length = 0
        · exact h'
        · exact absurd ⟨this, h'⟩ h
      (first | lia | omega)
end Mine


/-! part L01 -/
set_option autoImplicit false
set_option maxRecDepth 100000
set_option linter.unusedVariables false
set_option linter.unusedSimpArgs false
open PySem PySem.W PyProof.Rows
namespace Mine

noncomputable def row0 : List V := List.replicate 3 V.none ++ List.replicate 60 inf
noncomputable def c30M : M V := ((do let vs ← (do let v ← (pure (V.int 4) : M V); let vs ← (pure [] : M (List V)); pure (v :: vs)); rangeB vs) >>= compTail [] law_c30)
noncomputable def rowM : M V := (do let a ← (do let a ← (do let vs ← (do let v ← (pure V.none : M V); let vs ← (pure [] : M (List V)); pure (v :: vs)); newL vs); let b ← (pure (V.int 3) : M V); mulLV a b); let b ← (do let a ← (do let vs ← (do let v ← (do let vs ← (do let v ← (pure (V.int 1) : M V); let vs ← (pure [] : M (List V)); pure (v :: vs)); mkT vs); let vs ← (pure [] : M (List V)); pure (v :: vs)); newL vs); let b ← (pure (V.int 60) : M V); mulLV a b); addV a b)
noncomputable def keptM : M V := (do let vs ← (do let v ← (do let vs ← (pure [] : M (List V)); newL vs); let vs ← (do let v ← (do let vs ← (pure [] : M (List V)); newL vs); let vs ← (do let v ← (do let vs ← (pure [] : M (List V)); newL vs); let vs ← (do let v ← (do let vs ← (pure [] : M (List V)); newL vs); let vs ← (pure [] : M (List V)); pure (v :: vs)); pure (v :: vs)); pure (v :: vs)); pure (v :: vs)); newL vs)
noncomputable def st6 (c0 : Cel) : Store := [c0, .lst [.obj 2, .obj 3, .obj 4, .obj 5], .lst (slotV 0), .lst (slotV 1), .lst (slotV 2), .lst (slotV 3)]
noncomputable def st11 (c0 : Cel) : Store := st6 c0 ++ [.lst [.none], .lst (List.replicate 3 .none), .lst [inf], .lst (List.replicate 60 inf), .lst row0]
noncomputable def st16' (c0 : Cel) : Store := st11 c0 ++ [.lst [], .lst [], .lst [], .lst [], .lst [.obj 11, .obj 12, .obj 13, .obj 14]]
theorem slots_ok (c0 : Cel) (lo : String → Option V) : c30M ⟨[c0], lo⟩ = .ok (.obj 1) ⟨st6 c0, lo⟩ := by kernel_rfl
theorem rowM_ok (c0 : Cel) (lo : String → Option V) : rowM ⟨st6 c0, lo⟩ = .ok (.obj 10) ⟨st11 c0, lo⟩ := by kernel_rfl
theorem keptM_ok (c0 : Cel) (lo : String → Option V) : keptM ⟨st11 c0, lo⟩ = .ok (.obj 15) ⟨st16' c0, lo⟩ := by kernel_rfl
theorem sto0 (c0 : Cel) : Sto (st16' c0) row0 (fun _ => []) := by
  refine ⟨rfl, fun q hq => ?_, rfl, rfl, fun q hq => ?_⟩
  · match q, hq with
    | 0, _ => rfl
    | 1, _ => rfl
    | 2, _ => rfl
    | 3, _ => rfl
  · match q, hq with
    | 0, _ => rfl
    | 1, _ => rfl
    | 2, _ => rfl
    | 3, _ => rfl
theorem row0_ok : RowOk row0 (fun _ => []) := by
  refine ⟨rfl, fun j hj => ?_, fun q hq i hi => ?_, fun _ _ => by simp, fun _ _ => by intro j h0 hl; simp at hl⟩
  · match j, hj with
    | 0, _ => rfl
    | 1, _ => rfl
    | 2, _ => rfl
  · have h1 := pos_ge3 q i
    have h2 := (half15 hq i).mpr hi
    rw [nth_lad_inf (by simp) hi]
    unfold row0
    exact nth_inf (by simpa using h1) (by simp; (first | lia | omega))

theorem MW_eqSame {σ : S} {a b : Nat} {vs : List V} {Q : V → S → Prop} (h1 : σ.st[a]? = some (.lst vs)) (h2 : σ.st[b]? = some (.lst vs)) (hk : ∀ v ∈ vs, v = .none ∨ IsT1 v) (q : Q (.bool true) σ) : MW (eqV (.obj a) (.obj b)) σ Q := by
  obtain ⟨ds, e, c⟩ := kinds_data (st := σ.st) hk
  refine (MW_fun_ok (a := .bool true) (σ' := σ) ?_).mpr q
  have e1 : toD σ.st 6 (.obj a) = some (.list ds) := by rw [toD, h1]; dsimp only; rw [e]; rfl
  have e2 : toD σ.st 6 (.obj b) = some (.list ds) := by rw [toD, h2]; dsimp only; rw [e]; rfl
  unfold eqV
  rw [e1, e2]
  dsimp only
  rw [PySem.SeqAt.eqv_refl (.list ds) (by simp [PyData.canLay0, c])]

/-- the end -/
theorem s25_ok {σ : S} {D : Nat} {dr : List Int} (L : Lp D dr σ) : MW law_s25 σ (fun f σ' => (match f with | .ret u => u | _ => .none) = V.bool true) := by
  obtain ⟨⟨row, mss, kss, hS, R, pk⟩, h1, h2, h3, h4, hd⟩ := L
  have hlen := R.len
  unfold law_s25
  ((repeat (first | (with_reducible first | apply w_as | apply w_pure | apply w_set | apply w_tru | apply w_add | apply w_sub | apply w_lt | apply w_gt | apply w_t | apply w_f | apply w_if | apply e_pure | apply e_set | apply e_tru | apply q_cond | apply w_ge | apply w_le | apply w_neg | apply w_eq | apply w_ne) | ((with_reducible first | apply w_get | apply e_get); · first | exact rfl | assumption))); try with_reducible apply w_end)
  refine MW_sl0 3 (by exact hS.s3) rfl fun k1 st1 p1 f1 g1 => ?_
  ((repeat (first | (with_reducible first | apply w_as | apply w_pure | apply w_set | apply w_tru | apply w_add | apply w_sub | apply w_lt | apply w_gt | apply w_t | apply w_f | apply w_if | apply e_pure | apply e_set | apply e_tru | apply q_cond | apply w_ge | apply w_le | apply w_neg | apply w_eq | apply w_ne) | ((with_reducible first | apply w_get | apply e_get); · first | exact rfl | assumption))); try with_reducible apply w_end)
  refine MW_newL' (by simp) fun k2 st2 p2 f2 g2 => ?_
  ((repeat (first | (with_reducible first | apply w_as | apply w_pure | apply w_set | apply w_tru | apply w_add | apply w_sub | apply w_lt | apply w_gt | apply w_t | apply w_f | apply w_if | apply e_pure | apply e_set | apply e_tru | apply q_cond | apply w_ge | apply w_le | apply w_neg | apply w_eq | apply w_ne) | ((with_reducible first | apply w_get | apply e_get); · first | exact rfl | assumption))); try with_reducible apply w_end)
  refine MW_mulL' (by exact g2) (by simp) fun k3 st3 p3 f3 g3 => ?_
  ((repeat (first | (with_reducible first | apply w_as | apply w_pure | apply w_set | apply w_tru | apply w_add | apply w_sub | apply w_lt | apply w_gt | apply w_t | apply w_f | apply w_if | apply e_pure | apply e_set | apply e_tru | apply q_cond | apply w_ge | apply w_le | apply w_neg | apply w_eq | apply w_ne) | ((with_reducible first | apply w_get | apply e_get); · first | exact rfl | assumption))); try with_reducible apply w_end)
  have e1 : row.take 3 = [V.none, .none, .none] := by
    refine ext_nth (by simp; (first | lia | omega)) fun j hj => ?_
    have hj' : j < 3 := by simp at hj; (first | lia | omega)
    have : nth (row.take 3) j = nth row j := by unfold nth; rw [List.getElem?_take_of_lt hj']
    rw [this, R.non j hj']
    match j, hj' with
    | 0, _ => rfl
    | 1, _ => rfl
    | 2, _ => rfl
  rw [e1] at g1
  have e3 : (List.replicate (3 : Int).toNat [V.none]).flatten = [V.none, .none, .none] := rfl
  rw [e3] at g3
  have P3 : Pres [] σ.st st3 := p1.trans (p2.trans p3)
  refine MW_eqSame (by exact p3.get0 (p2.get0 g1)) (by exact g3) (by intro v hv; simp at hv; exact .inl hv) ?_
  ((repeat (first | (with_reducible first | apply w_as | apply w_pure | apply w_set | apply w_tru | apply w_add | apply w_sub | apply w_lt | apply w_gt | apply w_t | apply w_f | apply w_if | apply e_pure | apply e_set | apply e_tru | apply q_cond | apply w_ge | apply w_le | apply w_neg | apply w_eq | apply w_ne) | ((with_reducible first | apply w_get | apply e_get); · first | exact rfl | assumption))); try with_reducible apply w_end)
  refine MW_rng1 ?_
  ((repeat (first | (with_reducible first | apply w_as | apply w_pure | apply w_set | apply w_tru | apply w_add | apply w_sub | apply w_lt | apply w_gt | apply w_t | apply w_f | apply w_if | apply e_pure | apply e_set | apply e_tru | apply q_cond | apply w_ge | apply w_le | apply w_neg | apply w_eq | apply w_ne) | ((with_reducible first | apply w_get | apply e_get); · first | exact rfl | assumption))); try with_reducible apply w_end)
  have hS3 := hS.pres P3
  have h15 := st16 hS3
  refine MW_compTail (ok_rng (by decide)) ?_
  show MW (loopC 4096 law_c1_t law_c1_i (law_c1_e st3.length) _) _ _
  refine MW_loopC 4 (fun i σ' => Pres [] st3 σ'.st ∧ σ'.st[st3.length]? = some (.lst []) ∧ ∀ x ∈ ["kept", "row", "slots"], σ'.lo x = σ.lo x) ?_ ?_ 4096 _ (by (first | lia | omega)) ⟨Pres.app .., List.getElem?_concat_length, fun x hx => by
    show restr _ σ.lo x = _
    simp only [restr, if_pos hx]⟩
  · rintro σ' ⟨q1, q2, q3⟩
    refine ⟨rfl, ?_⟩
    dsimp only
    ((repeat (first | (with_reducible first | apply w_as | apply w_pure | apply w_set | apply w_tru | apply w_add | apply w_sub | apply w_lt | apply w_gt | apply w_t | apply w_f | apply w_if | apply e_pure | apply e_set | apply e_tru | apply q_cond | apply w_ge | apply w_le | apply w_neg | apply w_eq | apply w_ne) | ((with_reducible first | apply w_get | apply e_get); · first | exact rfl | assumption))); try with_reducible apply w_end)
    refine MW_newL' (by simp) fun k5 st5 p5 f5 g5 => ?_
    ((repeat (first | (with_reducible first | apply w_as | apply w_pure | apply w_set | apply w_tru | apply w_add | apply w_sub | apply w_lt | apply w_gt | apply w_t | apply w_f | apply w_if | apply e_pure | apply e_set | apply e_tru | apply q_cond | apply w_ge | apply w_le | apply w_neg | apply w_eq | apply w_ne) | ((with_reducible first | apply w_get | apply e_get); · first | exact rfl | assumption))); try with_reducible apply w_end)
    refine (MW_eqL (as := []) (bs := []) (by exact p5.get0 q2) (by exact g5)).mpr ?_
    ((repeat (first | (with_reducible first | apply w_as | apply w_pure | apply w_set | apply w_tru | apply w_add | apply w_sub | apply w_lt | apply w_gt | apply w_t | apply w_f | apply w_if | apply e_pure | apply e_set | apply e_tru | apply q_cond | apply w_ge | apply w_le | apply w_neg | apply w_eq | apply w_ne) | ((with_reducible first | apply w_get | apply e_get); · first | exact rfl | assumption))); try with_reducible apply w_end)
    rfl
  · rintro i σ' hi ⟨q1, q2, q3⟩
    have hS' := hS3.pres q1
    have l1 := (q3 "kept" (by simp)).trans h3
    have l2 := (q3 "row" (by simp)).trans h2
    have l3 := (q3 "slots" (by simp)).trans h1
    refine ⟨.int (i : Nat), ?_, ?_⟩
    · rw [nxt_rng]
      have : i < rngLen 0 4 1 := hi
      rw [if_pos this]
      simp
    unfold law_c1_t law_c1_i
    ((repeat (first | (with_reducible first | apply w_as | apply w_pure | apply w_set | apply w_tru | apply w_add | apply w_sub | apply w_lt | apply w_gt | apply w_t | apply w_f | apply w_if | apply e_pure | apply e_set | apply e_tru | apply q_cond | apply w_ge | apply w_le | apply w_neg | apply w_eq | apply w_ne) | ((with_reducible first | apply w_get | apply e_get); · first | exact rfl | assumption))); try with_reducible apply w_end)
    refine (MW_getN (j := i) (by exact hS'.s1) rfl (by simp; (first | lia | omega))).mpr ?_
    rw [nth_four hi]
    ((repeat (first | (with_reducible first | apply w_as | apply w_pure | apply w_set | apply w_tru | apply w_add | apply w_sub | apply w_lt | apply w_gt | apply w_t | apply w_f | apply w_if | apply e_pure | apply e_set | apply e_tru | apply q_cond | apply w_ge | apply w_le | apply w_neg | apply w_eq | apply w_ne) | ((with_reducible first | apply w_get | apply e_get); · first | exact rfl | assumption))); try with_reducible apply w_end)
    refine (MW_getN (j := i) (by exact hS'.s4) rfl (by simp; (first | lia | omega))).mpr ?_
    rw [nth_four hi]
    ((repeat (first | (with_reducible first | apply w_as | apply w_pure | apply w_set | apply w_tru | apply w_add | apply w_sub | apply w_lt | apply w_gt | apply w_t | apply w_f | apply w_if | apply e_pure | apply e_set | apply e_tru | apply q_cond | apply w_ge | apply w_le | apply w_neg | apply w_eq | apply w_ne) | ((with_reducible first | apply w_get | apply e_get); · first | exact rfl | assumption))); try with_reducible apply w_end)
    obtain ⟨st', e, p⟩ := law_holds_ok hS'.s3 (hS'.s2 i hi) (hS'.s5 i hi) hi R (pk i hi)
    refine MW_callF' (by exact e) ?_
    clear e
    ((repeat (first | (with_reducible first | apply w_as | apply w_pure | apply w_set | apply w_tru | apply w_add | apply w_sub | apply w_lt | apply w_gt | apply w_t | apply w_f | apply w_if | apply e_pure | apply e_set | apply e_tru | apply q_cond | apply w_ge | apply w_le | apply w_neg | apply w_eq | apply w_ne) | ((with_reducible first | apply w_get | apply e_get); · first | exact rfl | assumption))); try with_reducible apply w_end)
    rw [if_neg (by decide)]
    refine ⟨q1.trans p, p.get0 q2, ?_⟩
    intro x hx
    rw [← q3 x hx]
    simp only [List.mem_cons, List.not_mem_nil, or_false] at hx
    rcases hx with rfl | rfl | rfl <;> rfl

theorem law_true (ns : List Int) (hns : ns.length ≤ 63) : ∃ st', f_law [.obj 0] [.lst (ns.map .int)] = .ok (.bool true) st' := by
  suffices h : ∃ v st', f_law [.obj 0] [.lst (ns.map .int)] = .ok v st' ∧ v = .bool true by
    obtain ⟨v, st', e, rfl⟩ := h; exact ⟨st', e⟩
  unfold f_law
  refine funM_ex (params := ["script"]) (vs := [.obj 0]) (R := fun v _ => v = .bool true) (by rfl) ?_
  generalize hc0 : Cel.lst (ns.map .int) = c0
  unfold law_m
  apply w_seq
  ((repeat (first | (with_reducible first | apply w_as | apply w_pure | apply w_set | apply w_tru | apply w_add | apply w_sub | apply w_lt | apply w_gt | apply w_t | apply w_f | apply w_if | apply e_pure | apply e_set | apply e_tru | apply q_cond | apply w_ge | apply w_le | apply w_neg | apply w_eq | apply w_ne) | ((with_reducible first | apply w_get | apply e_get); · first | exact rfl | assumption))); try with_reducible apply w_end)
  unfold law_s33
  apply w_seq
  refine MW_bind.mpr ((MW_fun_ok (m := c30M) (slots_ok c0 _)).mpr ?_)
  ((repeat (first | (with_reducible first | apply w_as | apply w_pure | apply w_set | apply w_tru | apply w_add | apply w_sub | apply w_lt | apply w_gt | apply w_t | apply w_f | apply w_if | apply e_pure | apply e_set | apply e_tru | apply q_cond | apply w_ge | apply w_le | apply w_neg | apply w_eq | apply w_ne) | ((with_reducible first | apply w_get | apply e_get); · first | exact rfl | assumption))); try with_reducible apply w_end)
  unfold law_s32
  apply w_seq
  refine MW_bind.mpr ((MW_fun_ok (m := rowM) (rowM_ok c0 _)).mpr ?_)
  ((repeat (first | (with_reducible first | apply w_as | apply w_pure | apply w_set | apply w_tru | apply w_add | apply w_sub | apply w_lt | apply w_gt | apply w_t | apply w_f | apply w_if | apply e_pure | apply e_set | apply e_tru | apply q_cond | apply w_ge | apply w_le | apply w_neg | apply w_eq | apply w_ne) | ((with_reducible first | apply w_get | apply e_get); · first | exact rfl | assumption))); try with_reducible apply w_end)
  unfold law_s29
  apply w_seq
  refine MW_bind.mpr ((MW_fun_ok (m := keptM) (keptM_ok c0 _)).mpr ?_)
  ((repeat (first | (with_reducible first | apply w_as | apply w_pure | apply w_set | apply w_tru | apply w_add | apply w_sub | apply w_lt | apply w_gt | apply w_t | apply w_f | apply w_if | apply e_pure | apply e_set | apply e_tru | apply q_cond | apply w_ge | apply w_le | apply w_neg | apply w_eq | apply w_ne) | ((with_reducible first | apply w_get | apply e_get); · first | exact rfl | assumption))); try with_reducible apply w_end)
  have hS := sto0 c0
  have g0 : (st16' c0)[0]? = some (.lst (ns.map V.int)) := by rw [← hc0]; rfl
  have hl0 : (st16' c0).length = 16 := rfl
  generalize hst : st16' c0 = st at hS g0 hl0
  clear hst hc0
  unfold law_s28
  apply w_seq
  ((repeat (first | (with_reducible first | apply w_as | apply w_pure | apply w_set | apply w_tru | apply w_add | apply w_sub | apply w_lt | apply w_gt | apply w_t | apply w_f | apply w_if | apply e_pure | apply e_set | apply e_tru | apply q_cond | apply w_ge | apply w_le | apply w_neg | apply w_eq | apply w_ne) | ((with_reducible first | apply w_get | apply e_get); · first | exact rfl | assumption))); try with_reducible apply w_end)
  refine MW_newL' (by simp) fun k1 st1 p1 f1 g1 => ?_
  ((repeat (first | (with_reducible first | apply w_as | apply w_pure | apply w_set | apply w_tru | apply w_add | apply w_sub | apply w_lt | apply w_gt | apply w_t | apply w_f | apply w_if | apply e_pure | apply e_set | apply e_tru | apply q_cond | apply w_ge | apply w_le | apply w_neg | apply w_eq | apply w_ne) | ((with_reducible first | apply w_get | apply e_get); · first | exact rfl | assumption))); try with_reducible apply w_end)
  refine (MW_len (by exact p1.get0 g0)).mpr ?_
  ((repeat (first | (with_reducible first | apply w_as | apply w_pure | apply w_set | apply w_tru | apply w_add | apply w_sub | apply w_lt | apply w_gt | apply w_t | apply w_f | apply w_if | apply e_pure | apply e_set | apply e_tru | apply q_cond | apply w_ge | apply w_le | apply w_neg | apply w_eq | apply w_ne) | ((with_reducible first | apply w_get | apply e_get); · first | exact rfl | assumption))); try with_reducible apply w_end)
  refine MW_min2I.mpr ?_
  ((repeat (first | (with_reducible first | apply w_as | apply w_pure | apply w_set | apply w_tru | apply w_add | apply w_sub | apply w_lt | apply w_gt | apply w_t | apply w_f | apply w_if | apply e_pure | apply e_set | apply e_tru | apply q_cond | apply w_ge | apply w_le | apply w_neg | apply w_eq | apply w_ne) | ((with_reducible first | apply w_get | apply e_get); · first | exact rfl | assumption))); try with_reducible apply w_end)
  refine MW_rng1 ?_
  ((repeat (first | (with_reducible first | apply w_as | apply w_pure | apply w_set | apply w_tru | apply w_add | apply w_sub | apply w_lt | apply w_gt | apply w_t | apply w_f | apply w_if | apply e_pure | apply e_set | apply e_tru | apply q_cond | apply w_ge | apply w_le | apply w_neg | apply w_eq | apply w_ne) | ((with_reducible first | apply w_get | apply e_get); · first | exact rfl | assumption))); try with_reducible apply w_end)
  rw [List.length_map]
  obtain ⟨w, hw, hw16⟩ : ∃ w : Nat, (if ((ns.length : Nat) : Int) < 16 then ((ns.length : Nat) : Int) else 16) = (w : Nat) ∧ w ≤ 16 := by
    by_cases h : ((ns.length : Nat) : Int) < 16
    · exact ⟨ns.length, if_pos h, by (first | lia | omega)⟩
    · exact ⟨16, if_neg h, by (first | lia | omega)⟩
  rw [hw]
  have P1 : 0 < st1.length := by have := p1.1; have : st.length ≤ st1.length := this; (first | lia | omega)
  refine MW_compGrow (us := (List.range w).map fun (j : Nat) => V.int (0 + j)) (n := 4096) (t := law_c26_t) (c := law_c26_i)
    (e := (do let vs ← (do let v ← (do let o ← (getv "script"); let i ← (do let a ← (getv "k"); let b ← (pure V.none : M V); let c ← (pure (V.int 16) : M V); pure (a, b, c)); sliceV o i); let vs ← (pure [] : M (List V)); pure (v :: vs)); sumB vs))
    (fun v => match v with | .int k => some (.int (pickV ns (some k) none (some 16)).sum) | _ => none) (fun _ _ => rfl) (ok_rng (rngU_small (by (first | lia | omega)) (by (first | lia | omega)) (by (first | lia | omega)))) P1 (fun σ' i _ => nxt_rngU σ' i (by (first | lia | omega))) (by simp; (first | lia | omega)) (by simp; (first | lia | omega)) ?_ ?_
  · intro v hv σ' hag hlo
    obtain ⟨j, hj, rfl⟩ := List.mem_map.mp hv
    have h0 : σ'.st[0]? = some (.lst (ns.map V.int)) := (hag 0 P1).trans (p1.get0 g0)
    have l1 : σ'.lo "script" = some (.obj 0) := (hlo "script" (by simp)).trans rfl
    unfold law_c26_t law_c26_i
    ((repeat (first | (with_reducible first | apply w_as | apply w_pure | apply w_set | apply w_tru | apply w_add | apply w_sub | apply w_lt | apply w_gt | apply w_t | apply w_f | apply w_if | apply e_pure | apply e_set | apply e_tru | apply q_cond | apply w_ge | apply w_le | apply w_neg | apply w_eq | apply w_ne) | ((with_reducible first | apply w_get | apply e_get); · first | exact rfl | assumption))); try with_reducible apply w_end)
    refine ⟨rfl, ?_, ?_⟩
    · intro x hx
      rw [List.mem_singleton.mp hx]; rfl
    ((repeat (first | (with_reducible first | apply w_as | apply w_pure | apply w_set | apply w_tru | apply w_add | apply w_sub | apply w_lt | apply w_gt | apply w_t | apply w_f | apply w_if | apply e_pure | apply e_set | apply e_tru | apply q_cond | apply w_ge | apply w_le | apply w_neg | apply w_eq | apply w_ne) | ((with_reducible first | apply w_get | apply e_get); · first | exact rfl | assumption))); try with_reducible apply w_end)
    refine ⟨rfl, rfl, ?_⟩
    ((repeat (first | (with_reducible first | apply w_as | apply w_pure | apply w_set | apply w_tru | apply w_add | apply w_sub | apply w_lt | apply w_gt | apply w_t | apply w_f | apply w_if | apply e_pure | apply e_set | apply e_tru | apply q_cond | apply w_ge | apply w_le | apply w_neg | apply w_eq | apply w_ne) | ((with_reducible first | apply w_get | apply e_get); · first | exact rfl | assumption))); try with_reducible apply w_end)
    refine MW_sliceS (by exact h0) (lo := some (0 + (j : Int))) (hi := none) (st := some 16) rfl rfl rfl (by decide) fun k2 st2 p2 f2 g2 => ?_
    rw [pickV_map] at g2
    ((repeat (first | (with_reducible first | apply w_as | apply w_pure | apply w_set | apply w_tru | apply w_add | apply w_sub | apply w_lt | apply w_gt | apply w_t | apply w_f | apply w_if | apply e_pure | apply e_set | apply e_tru | apply q_cond | apply w_ge | apply w_le | apply w_neg | apply w_eq | apply w_ne) | ((with_reducible first | apply w_get | apply e_get); · first | exact rfl | assumption))); try with_reducible apply w_end)
    refine (MW_sum (by exact g2)).mpr ?_
    refine ⟨rfl, p2, ?_⟩
    intro x hx
    rfl
  intro k2 st2 p2 f2 g2
  obtain ⟨dr, hdr⟩ : ∃ dr : List Int, ((List.range w).map fun (j : Nat) => V.int (0 + j)).filterMap (fun v => match v with | .int k => some (V.int (pickV ns (some k) none (some 16)).sum) | _ => none) = dr.map V.int ∧ dr.length = w := by
    refine ⟨(List.range w).map fun (j : Nat) => (pickV ns (some (0 + (j : Int))) none (some 16)).sum, ?_, by simp⟩
    rw [List.filterMap_map, List.map_map]
    show List.filterMap (fun (j : Nat) => some (V.int (pickV ns (some (0 + (j : Int))) none (some 16)).sum)) _ = _
    rw [List.filterMap_eq_map']; rfl
  rw [hdr.1] at g2
  ((repeat (first | (with_reducible first | apply w_as | apply w_pure | apply w_set | apply w_tru | apply w_add | apply w_sub | apply w_lt | apply w_gt | apply w_t | apply w_f | apply w_if | apply e_pure | apply e_set | apply e_tru | apply q_cond | apply w_ge | apply w_le | apply w_neg | apply w_eq | apply w_ne) | ((with_reducible first | apply w_get | apply e_get); · first | exact rfl | assumption))); try with_reducible apply w_end)
  refine MW_addL' (as := [81, 53, 65, 17, 109, 9, 114, 114].map V.int) (bs := dr.map V.int) (by exact p2.get0 g1) (by exact g2) (by simp; (first | lia | omega)) fun D st3 p3 f3 g3 => ?_
  rw [← List.map_append] at g3
  have hdl : ([81, 53, 65, 17, 109, 9, 114, 114] ++ dr).length ≤ 24 := by simp; (first | lia | omega)
  generalize ([81, 53, 65, 17, 109, 9, 114, 114] ++ dr : List Int) = ds at g3 hdl
  ((repeat (first | (with_reducible first | apply w_as | apply w_pure | apply w_set | apply w_tru | apply w_add | apply w_sub | apply w_lt | apply w_gt | apply w_t | apply w_f | apply w_if | apply e_pure | apply e_set | apply e_tru | apply q_cond | apply w_ge | apply w_le | apply w_neg | apply w_eq | apply w_ne) | ((with_reducible first | apply w_get | apply e_get); · first | exact rfl | assumption))); try with_reducible apply w_end)
  have hD : 16 ≤ D := by
    have a1 : st.length ≤ st1.length := p1.1
    have a2 : st1.length ≤ st2.length := p2.1
    have a3 : st2.length ≤ D := f3
    (first | lia | omega)
  have P3 : Pres [] st st3 := p1.trans (p2.trans p3)
  have hS3 := hS.pres P3
  unfold law_s27
  apply w_seq
  ((repeat (first | (with_reducible first | apply w_as | apply w_pure | apply w_set | apply w_tru | apply w_add | apply w_sub | apply w_lt | apply w_gt | apply w_t | apply w_f | apply w_if | apply e_pure | apply e_set | apply e_tru | apply q_cond | apply w_ge | apply w_le | apply w_neg | apply w_eq | apply w_ne) | ((with_reducible first | apply w_get | apply e_get); · first | exact rfl | assumption))); try with_reducible apply w_end)
  refine (MW_okL (by exact g3)).mpr ?_
  refine MW_for ds.length (fun i σ => Lp D ds σ) ?_ ?_ 4096 0 _ (Nat.zero_le _) (by (first | lia | omega)) ⟨⟨row0, _, _, hS3, row0_ok, fun q hq => List.Perm.refl _⟩, rfl, rfl, rfl, ?_, g3⟩
  · intro σ L
    refine ⟨by rw [nxt_objI L.d]; simp, ?_⟩
    exact s25_ok L
  · intro i σ hi L
    refine ⟨.int ds[i], by rw [nxt_objI L.d]; simp [hi], ?_⟩
    unfold law_l24_t
    ((repeat (first | (with_reducible first | apply w_as | apply w_pure | apply w_set | apply w_tru | apply w_add | apply w_sub | apply w_lt | apply w_gt | apply w_t | apply w_f | apply w_if | apply e_pure | apply e_set | apply e_tru | apply q_cond | apply w_ge | apply w_le | apply w_neg | apply w_eq | apply w_ne) | ((with_reducible first | apply w_get | apply e_get); · first | exact rfl | assumption))); try with_reducible apply w_end)
    have L' : Lp D ds (σ.put "x" (.int ds[i])) := ⟨L.ok, L.h1, L.h2, L.h3, L.h4, L.d⟩
    refine MW.mono (body_ok L' hD rfl) ?_
    rintro f σ' ⟨rfl, h⟩
    exact h
  · rw [msg_eq]; rfl
end Mine


/-! part J01 -/
open PySem PySem.W PyProof.Rows
set_option Elab.async false
set_option maxRecDepth 100000
set_option maxHeartbeats 8000000
namespace Mine
noncomputable def vw : Program := view PySem.Challenge.pw_dm0136_01 [1, 2, 4, 5]
theorem left : LeftO PySem.Challenge.pw_dm0136_01 vw [] (fun s => xlAt vw [] s && recOk (PySem.Challenge.rw_dm0136_01.row.toRowW.records) s) (Hook.obs Hook.none) (Hook.val Hook.none) 3000 := fun w => by
  kernel_rfl
theorem recs_of {p q : Program} (e : recsOf p = recsOf q) : ∀ d ∈ recsOf p, d ∈ recsOf q := e ▸ fun _ h => h
end Mine
theorem PySem.Challenge.cw_dm0136_01_holds : PySem.Challenge.rw_dm0136_01.Holds := by
  refine holds_law (by kernel_rfl) fun said => ?_
  refine holds_open (q := Mine.vw) (loose := []) (Xt := fun s => xlAt Mine.vw [] s && recOk (RowW.records PySem.Challenge.rw_dm0136_01.row.toRowW) s) (XP := XL Mine.vw []) (Yf := Hook.obs Hook.none) (Ya := Hook.val Hook.none) (YP := Hook.says Hook.none) (N := 3000) Mine.left (Hook.of Hook.none) (Hook.keeps Hook.none) (fun s e => xl_of s (Bool.and_eq_true_iff.mp e).1) XL.keeps (by rfl) (by rfl) (by rfl) (fun s e => recFacts_of (Bool.and_eq_true_iff.mp e).2) (by rfl) (by first | assumption | decide +kernel) (by decide +kernel) ⟨rfl, rfl, rfl, rfl, rfl, by decide +kernel⟩ ?hw ?hc
  case hw => w_witness2
  intro w s₀ s₁ mg mb G Y fa o pm cd doc dV kV ho hd hcd hD hmg hg args vals as hpre hlay hrd hwl hlo
  refine Ground.open G ?_
  intro T B D TE TW
  wrow_args hpre hlay hrd hwl hlo
  rename_i ns _ _ _ _ _ _ _ l _ _ _ _ w1 _ _ _ hn _
  have hmg' : mg (Str.ofString "law") = some (.ref fa) := hmg
  clear hD hcd hd ho hmg B D TE TW G Y
  refine enter_call ?_
  refine codeAny_mono ?_ (fun _ _ g => GoodW.toG g)
  obtain ⟨vs, hL, hI⟩ := Mine.well_script w1
  have hn' : ns.length ≤ 63 := by omega
  obtain ⟨st', hlaw⟩ := Mine.law_true ns hn'
  refine Mine.top_law T hg (Mine.has_all (Mine.recs_of (by kernel_rfl)) ?_) (by decide) hmg' hL hI hn' hlaw ?_ ?_
  · intro x hx
    show mg (Str.ofString x) = none
    simp only [Mine.bltNames, List.mem_cons, List.not_mem_nil, or_false] at hx
    rcases hx with rfl | rfl | rfl | rfl | rfl | rfl | rfl | rfl | rfl <;> exact T.free _ (by decide +kernel) (by decide +kernel) (by decide +kernel) (by decide +kernel) (by decide +kernel)
  · exact raisesW_false (by wrow_none_raised)
  · wrow_post
