import PyProof.Rows.All
import Wide.All
import OpenK.AllK
import Wide.FinOn
import Lean
import PySem.Challenge.RW_dm0136_05
set_option Elab.async false
set_option maxHeartbeats 8000000
namespace Mine

/-! part N0 -/
section
/-! small facts of naturals, by hand: their proofs are far shorter than a decision procedure's -/
theorem n_pred {a n : Nat} (h : 1 ≤ n) : a + n - 1 - (n - 1) = a := by rw [Nat.add_sub_assoc h, Nat.add_sub_cancel]
theorem n_flip {a n i j : Nat} (h : i < j) (hj : j < n) : a + n - 1 - j < a + n - 1 - i :=
  Nat.sub_lt_sub_left (Nat.lt_of_lt_of_le h (Nat.le_trans (Nat.le_sub_one_of_lt hj) (Nat.sub_le_sub_right (Nat.le_add_left n a) 1))) h
theorem n_back {a n j : Nat} (h : a ≤ j) (hj : j < n) : a + n - 1 - j < n := by
  have h1 : 1 ≤ n := Nat.lt_of_le_of_lt (Nat.zero_le _) hj
  rw [Nat.add_sub_assoc h1]
  exact Nat.lt_of_le_of_lt (Nat.le_trans (Nat.sub_le_sub_left h _) (by rw [Nat.add_sub_cancel_left]; exact Nat.le_refl _)) (Nat.sub_lt h1 Nat.one_pos)
theorem n_less {a i j : Nat} (h : i ≤ j) (ne : ¬ a - j = a - i) : a - j < a - i := Nat.lt_of_le_of_ne (Nat.sub_le_sub_left h a) ne
theorem n_next {a i k : Nat} (h : a - i = k + 1) : a - (i + 1) = k := by rw [Nat.sub_add_eq, h, Nat.add_sub_cancel]
theorem n_lt_l {a b i k : Nat} (h : min a b - i = k + 1) : i < a := Nat.lt_of_lt_of_le (Nat.lt_of_sub_eq_succ h) (Nat.min_le_left ..)
theorem n_lt_r {a b i k : Nat} (h : min a b - i = k + 1) : i < b := Nat.lt_of_lt_of_le (Nat.lt_of_sub_eq_succ h) (Nat.min_le_right ..)
theorem n_min_sub {x m a c : Nat} (h : a < c) (h2 : a < m + 1) (hx : x = m + 1 - min c (m + 1)) : x ≤ m - a := by
  have : a + 1 ≤ min c (m + 1) := Nat.le_min.mpr ⟨h, h2⟩
  rw [hx]
  exact Nat.le_trans (Nat.sub_le_sub_left this _) (by rw [Nat.add_sub_add_right]; exact Nat.le_refl _)
theorem n_min_add {m a c d : Nat} (h : a < c) (h2 : a < m - d) : d + a + 1 ≤ d + min c (m - d) := Nat.add_le_add_left (Nat.le_min.mpr ⟨h, h2⟩) d
theorem n_min_or {a b : Nat} {P : Prop} (h : a = 0 ∨ (a < b ∧ P)) (hb : 0 < b) : a < b := h.elim (fun e => e ▸ hb) (·.1)
theorem n_min_lt {c m i : Nat} (h : i < m + 1 - min c (m + 1)) (ne : ¬ i = m - c) : i < m - c := by
  have e : i < m + 1 - c := by
    rcases Nat.le_total c (m + 1) with q | q
    · rwa [Nat.min_eq_left q] at h
    · rw [Nat.min_eq_right q, Nat.sub_self] at h; exact absurd h (Nat.not_lt_zero _)
  have hc : c ≤ m := Nat.le_of_lt_succ (Nat.lt_of_sub_pos (Nat.lt_of_le_of_lt (Nat.zero_le _) e))
  rw [Nat.succ_sub hc] at e
  exact Nat.lt_of_le_of_ne (Nat.le_of_lt_succ e) ne
theorem n_sub_len {i lo n : Nat} (h : lo ≤ n) : i - lo = i - min lo n := by rw [Nat.min_eq_left h]
theorem n_drop {i lo n k : Nat} (h : lo ≤ n) (hi : ¬ i < lo + k) : i = lo + k + (i - (min lo n + k)) := by rw [Nat.min_eq_left h, Nat.add_sub_of_le (Nat.not_lt.mp hi)]
end

/-! part F1 -/
set_option autoImplicit false
set_option maxRecDepth 100000
open PySem PySem.W PyProof.Rows
section
/-- plain values: what a program's value is, without tokens and addresses; a list is a place in the store -/
inductive V where
  | none
  | bool (b : Bool)
  | int (i : Int)
  | str (x : Str)
  | tup (vs : List V)
  | obj (l : Nat)
  | fn (x : String)
  | rng (a b c : Int)
  deriving Inhabited

inductive Cel where
  | lst (vs : List V)
  deriving Inhabited

noncomputable abbrev Store := List Cel

structure Exc where
  cls : String
  msg : Str

/-- the state that a frame's code sees: the store and the frame's names -/
structure S where
  st : Store
  lo : String → Option V

inductive Res (σ α : Type) where
  | ok (a : α) (s : σ)
  | exc (e : Exc) (s : σ)
  | stuck

noncomputable abbrev M (α : Type) := S → Res S α

namespace M
variable {α β : Type}
@[simp] noncomputable def pure (a : α) : M α := fun σ => .ok a σ
@[simp] noncomputable def bind (m : M α) (f : α → M β) : M β := fun σ => match m σ with
  | .ok a σ' => f a σ'
  | .exc e σ' => .exc e σ'
  | .stuck => .stuck
noncomputable instance : Monad M where
  pure := M.pure
  bind := M.bind
theorem bind_def (m : M α) (f : α → M β) (σ : S) : (m >>= f) σ = (match m σ with
  | .ok a σ' => f a σ'
  | .exc e σ' => .exc e σ'
  | .stuck => .stuck) := rfl
theorem bind_ok {m : M α} {f : α → M β} {σ σ' : S} {a : α} (h : m σ = .ok a σ') : (m >>= f) σ = f a σ' := by rw [bind_def, h]
end M
noncomputable def stuck {α : Type} : M α := fun _ => .stuck

/-- what stands around all frames -/
structure Glo where
  prog : Program
  w : World
  p : Program
  loose : List Str
  mean : ExcName → Option Value
  mg : Str → Option Value
  mb : Str → Option Value
  base : Heap
  os : OsState
  top : Top p loose mean mg mb base

mutual
noncomputable def Rep (K : Glo) (h : Heap) (ρ : List Addr) : V → Value → Prop
  | .none, w => w = .none
  | .bool b, w => w = .bool b
  | .int i, w => ∃ t, w = .int i t
  | .str x, w => ∃ t, w = .str x t
  | .tup vs, w => vs.length ≤ 1000000 ∧ ∃ a ws, w = .ref a ∧ IsTup h a ws.toArray ∧ RepL K h ρ vs ws
  | .obj l, w => ∃ a, ρ[l]? = some a ∧ w = .ref a
  | .fn x, w => K.mg (Str.ofString x) = some w ∧ ∃ a, w = .ref a
  | .rng a b c, w => ∃ r t u v, w = .ref r ∧ IsRange h r a b c t u v
noncomputable def RepL (K : Glo) (h : Heap) (ρ : List Addr) : List V → List Value → Prop
  | [], ws => ws = []
  | v :: vs, ws => ∃ x r, ws = x :: r ∧ Rep K h ρ v x ∧ RepL K h ρ vs r
end

noncomputable def CelRep (K : Glo) (h : Heap) (ρ : List Addr) : Cel → Addr → Prop
  | .lst vs, a => vs.length ≤ 1000000 ∧ ∃ ws n, IsL h a ws.toArray n ∧ RepL K h ρ vs ws

structure GRel (K : Glo) (st : Store) (ρ : List Addr) (s : Shared) : Prop where
  gens : s.gens = #[]
  os : s.os = K.os
  base : ∀ b o, K.base.get? b = some o → s.heap.get? b = some o
  len : ρ.length = st.length
  cell : ∀ (l : Nat) (a : Addr) (c : Cel), ρ[l]? = some a → st[l]? = some c → CelRep K s.heap ρ c a
  nodup : ρ.Nodup
  above : ∀ (l : Nat) (a : Addr), ρ[l]? = some a → l ≠ 0 → K.base.get? a = none

/-- what a frame's object may become: a namespace (a frame) may get slots, nothing else turns -/
noncomputable def Like (o o' : Obj) : Prop := o' = o ∨ (∃ es n, o.data = .dict es n) ∧ ∃ sl, o' = { o with slots := sl }
theorem Like.refl (o : Obj) : Like o o := .inl rfl
theorem Like.trans {o o₁ o₂ : Obj} (x : Like o o₁) (y : Like o₁ o₂) : Like o o₂ := by
  rcases x with rfl | ⟨d, sl, rfl⟩
  · exact y
  · rcases y with rfl | ⟨_, sl', rfl⟩
    · exact .inr ⟨d, sl, rfl⟩
    · exact .inr ⟨d, sl', rfl⟩
theorem Like.same {o o' : Obj} (x : Like o o') (hd : ∀ es n, o.data ≠ .dict es n) : o' = o := by
  rcases x with rfl | ⟨⟨es, n, d⟩, _⟩
  · rfl
  · exact absurd d (hd es n)
theorem Like.data {o o' : Obj} (x : Like o o') : o'.data = o.data ∧ o'.cls = o.cls ∧ o'.dict = o.dict := by
  rcases x with rfl | ⟨_, sl, rfl⟩ <;> exact ⟨rfl, rfl, rfl⟩
noncomputable def Froz (o : Obj) : Prop := (o.cls = .type "tuple" ∧ ∃ xs n, o.data = .seq xs n) ∨ (o.cls = .type "range" ∧ ∃ vs, o.data = .fields vs)

structure Ext (mine ρ ρ' : List Addr) (h h' : Heap) : Prop where
  pre : ρ <+: ρ'
  alive : ∀ b o, h.get? b = some o → ∃ o', h'.get? b = some o'
  new : ∀ a ∈ ρ', a ∈ ρ ∨ h.get? a = none
  keep : ∀ b o, h.get? b = some o → b ∉ ρ → b ∉ mine → ∃ o', h'.get? b = some o' ∧ Like o o'
  froz : ∀ b o, h.get? b = some o → Froz o → h'.get? b = some o

structure Frm where
  env : Env
  A : Around
  mine : List Addr
  nh : Bool := true

noncomputable def VarAt (env : Env) (h : Heap) (x : Str) (w : Value) : Prop :=
  (env.kindOf x = some .local ∧ ∃ m, h.Ns env.locals m ∧ m x = some w) ∨
  ((env.kindOf x = some .cell ∨ env.kindOf x = some .free) ∧ ∃ c, env.cells.lookup x = some c ∧ h.IsCell c (some w))

/-- the frames on the stack lie in the heap -/
noncomputable def FramesOk (K : Glo) (h : Heap) (l : List Env) : Prop := ∀ env ∈ l, env.scope.kind ≠ .module ∧ ∃ L o es n, env.frame = some L ∧ K.base.get? L = none ∧ h.get? L = some o ∧ o.data = .dict es n
noncomputable def FrsOk (K : Glo) (F : Frm) (h : Heap) : Prop := ∃ env₀ outer, F.A.frames = some (env₀ :: outer) ∧ env₀.frame = F.env.frame ∧ FramesOk K h (env₀ :: outer)
theorem FramesOk.next {K : Glo} {h h' : Heap} {l : List Env} (x : FramesOk K h l) (d : ∀ b o es n, (∃ env ∈ l, env.frame = some b) → h.get? b = some o → o.data = .dict es n → ∃ o' es' n', h'.get? b = some o' ∧ o'.data = .dict es' n') : FramesOk K h' l := by
  intro env he
  obtain ⟨k, L, o, es, n, f, b, g, dd⟩ := x env he
  obtain ⟨o', es', n', g', d'⟩ := d L o es n ⟨env, he, f⟩ g dd
  exact ⟨k, L, o', es', n', f, b, g', d'⟩
theorem FrsOk.next {K : Glo} {F : Frm} {h h' : Heap} (x : FrsOk K F h) (d : ∀ b o es n, h.get? b = some o → o.data = .dict es n → ∃ o' es' n', h'.get? b = some o' ∧ o'.data = .dict es' n') : FrsOk K F h' := by
  obtain ⟨e, l, a1, a2, a3⟩ := x
  exact ⟨e, l, a1, a2, a3.next fun b o es n _ => d b o es n⟩
theorem FrsOk.kept {K : Glo} {F : Frm} {h h' : Heap} (x : FrsOk K F h) (hk : ∀ b o, h.get? b = some o → h'.get? b = some o) : FrsOk K F h' := x.next fun b o es n g d => ⟨o, es, n, hk b o g, d⟩

structure Rel (K : Glo) (F : Frm) (σ : S) (ρ : List Addr) (s : Shared) : Prop extends GRel K σ.st ρ s where
  vars : ∀ x v, σ.lo x = some v → ∃ w, VarAt F.env s.heap (Str.ofString x) w ∧ Rep K s.heap ρ v w
  loc : ∃ m, s.heap.Ns F.env.locals m
  cels : ∀ x c, F.env.cells.lookup x = some c → ∃ v, s.heap.IsCell c v
  mineAbove : ∀ a ∈ F.mine, K.base.get? a = none ∧ ∃ o, s.heap.get? a = some o
  mineApart : ∀ a ∈ F.mine, a ∉ ρ
  mineLoc : F.env.locals ∈ F.mine
  frs : FrsOk K F s.heap

/-- an exception's own objects: itself, the head of its trace; n: a frame has noted it; P: what its flight mark may be -/
noncomputable def XObj (n : Bool) (P : Value → Prop) (e : Exc) (X : List Addr) (v : Value) (h : Heap) : Prop := e.cls ≠ "range" ∧ ∃ a t tok oe vs, v = .ref a ∧ a ∈ X ∧ IsTup h t #[.str e.msg tok] ∧
  h.get? a = some oe ∧ oe.cls = .type e.cls ∧ oe.data = .fields vs ∧ vs[0]? = some (.ref t) ∧
  ((n = false ∧ vs[1]? = some .none) ∨ ∃ T oT ts fl, T ∈ X ∧ T ≠ a ∧ vs[1]? = some (.ref T) ∧ h.get? T = some oT ∧ oT.data = .fields ts ∧ oT.cls = .type "traceback" ∧ ts[3]? = some fl ∧ P fl)
noncomputable def FlF (F : Frm) (fl : Value) : Prop := fl = .none ∨ ∃ L, F.env.frame = some L ∧ fl = rawInt L
/-- an exception on its way, seen from frame F, made since h₀ -/
noncomputable def XRepB (n : Bool) (K : Glo) (F : Frm) (e : Exc) (h₀ : Heap) (v : Value) (s : Shared) : Prop := ∃ X, (∀ b ∈ X, h₀.get? b = none) ∧ (∀ b ∈ X, K.base.get? b = none ∧ b ∉ F.mine) ∧ XObj n (FlF F) e X v s.heap
noncomputable abbrev XRep (K : Glo) (F : Frm) (e : Exc) (h₀ : Heap) (v : Value) (s : Shared) : Prop := XRepB false K F e h₀ v s
noncomputable abbrev XRepN (K : Glo) (F : Frm) (e : Exc) (h₀ : Heap) (v : Value) (s : Shared) : Prop := XRepB true K F e h₀ v s
theorem XRepB.x {n : Bool} {K : Glo} {F : Frm} {e : Exc} {h₀ : Heap} {v : Value} {s : Shared} (x : XRepB n K F e h₀ v s) : XRep K F e h₀ v s := by
  obtain ⟨X, f, g, h0, a, t, tok, oe, vs, h1, h2, h4, h5, h6, h7, h8, h9⟩ := x
  refine ⟨X, f, g, h0, a, t, tok, oe, vs, h1, h2, h4, h5, h6, h7, h8, ?_⟩
  rcases h9 with ⟨_, h⟩ | h
  · exact .inl ⟨rfl, h⟩
  · exact .inr h

/-- from s, t does what the outcome tells -/
noncomputable def Run {α β : Type} (K : Glo) (F : Frm) (t : Sem α) (R : Heap → List Addr → β → α → Prop) (out : Res S β) (ρ : List Addr) (s : Shared) : Prop :=
  match out with
  | .stuck => True
  | .ok b σ' => wpAny (model K.prog K.w) F.A t (fun a s' => ∃ ρ', Rel K F σ' ρ' s' ∧ Ext F.mine ρ ρ' s.heap s'.heap ∧ R s'.heap ρ' b a) (fun _ _ => False) s
  | .exc e σ' => wpAny (model K.prog K.w) F.A t (fun _ _ => False) (fun v s' => ∃ ρ', Rel K F σ' ρ' s' ∧ Ext F.mine ρ ρ' s.heap s'.heap ∧ XRep K F e s.heap v s') s

/-! ### Rep and Ext -/

theorem Ext.refl (mine ρ : List Addr) (h : Heap) : Ext mine ρ ρ h h :=
  ⟨List.prefix_refl _, fun _ o e => ⟨o, e⟩, fun _ ha => .inl ha, fun _ o e _ _ => ⟨o, e, .refl _⟩, fun _ _ e _ => e⟩

theorem Ext.trans {mine ρ ρ₁ ρ₂ : List Addr} {h h₁ h₂ : Heap} (x : Ext mine ρ ρ₁ h h₁) (y : Ext mine ρ₁ ρ₂ h₁ h₂) : Ext mine ρ ρ₂ h h₂ where
  pre := x.pre.trans y.pre
  alive := fun b o e => by
    obtain ⟨o1, e1⟩ := x.alive b o e
    exact y.alive b o1 e1
  new := fun a ha => by
    rcases y.new a ha with h1 | h1
    · exact x.new a h1
    · refine .inr ?_
      cases e : h.get? a with
      | none => rfl
      | some o =>
        obtain ⟨o1, e1⟩ := x.alive a o e
        rw [h1] at e1; cases e1
  keep := fun b o e n1 n2 => by
    obtain ⟨o1, e1, l1⟩ := x.keep b o e n1 n2
    have hn : b ∉ ρ₁ := fun hb => by
      rcases x.new b hb with h1 | h1
      · exact n1 h1
      · rw [e] at h1; cases h1
    obtain ⟨o2, e2, l2⟩ := y.keep b _ e1 hn n2
    exact ⟨o2, e2, l1.trans l2⟩
  froz := fun b o e f => y.froz b o (x.froz b o e f) f

theorem XRepB.up {n : Bool} {K : Glo} {F : Frm} {e : Exc} {mine ρ ρ₁ : List Addr} {h h₁ : Heap} {v : Value} {s : Shared} (q : XRepB n K F e h₁ v s) (x : Ext mine ρ ρ₁ h h₁) : XRepB n K F e h v s := by
  obtain ⟨X, f, g⟩ := q
  refine ⟨X, fun b hb => ?_, g⟩
  cases e : h.get? b with
  | none => rfl
  | some o => obtain ⟨o', e'⟩ := x.alive b o e; rw [f b hb] at e'; cases e'

theorem getElem?_prefix {α : Type} {l l' : List α} {i : Nat} {a : α} (h : l <+: l') (e : l[i]? = some a) : l'[i]? = some a := by
  obtain ⟨t, rfl⟩ := h
  rw [List.getElem?_append_left]
  · exact e
  · exact (List.getElem?_eq_some_iff.mp e).1

mutual
theorem Rep.mono' {K : Glo} {ρ ρ' : List Addr} {h h' : Heap} (hp : ρ <+: ρ') (ht : ∀ b o, h.get? b = some o → Froz o → h'.get? b = some o) : ∀ {v : V} {w : Value}, Rep K h ρ v w → Rep K h' ρ' v w
  | .none, _, r => by simpa only [Rep] using r
  | .bool _, _, r => by simpa only [Rep] using r
  | .int _, _, r => by simpa only [Rep] using r
  | .str _, _, r => by simpa only [Rep] using r
  | .tup vs, w, r => by
    simp only [Rep] at r ⊢
    obtain ⟨hl, a, ws, e, t, r⟩ := r
    obtain ⟨o, e1, c, n, d⟩ := t
    exact ⟨hl, a, ws, e, ⟨o, ht _ _ e1 (.inl ⟨c, _, n, d⟩), c, n, d⟩, RepL.mono' hp ht r⟩
  | .obj l, w, r => by
    simp only [Rep] at r ⊢
    obtain ⟨a, e, e2⟩ := r
    exact ⟨a, getElem?_prefix hp e, e2⟩
  | .fn _, _, r => by simpa only [Rep] using r
  | .rng _ _ _, _, r => by
    simp only [Rep] at r ⊢
    obtain ⟨a, t, u, v, e, i⟩ := r
    exact ⟨a, t, u, v, e, ht _ _ i (.inr ⟨rfl, _, rfl⟩)⟩
theorem RepL.mono' {K : Glo} {ρ ρ' : List Addr} {h h' : Heap} (hp : ρ <+: ρ') (ht : ∀ b o, h.get? b = some o → Froz o → h'.get? b = some o) : ∀ {vs : List V} {ws : List Value}, RepL K h ρ vs ws → RepL K h' ρ' vs ws
  | [], _, r => by simpa only [RepL] using r
  | v :: vs, ws, r => by
    simp only [RepL] at r ⊢
    obtain ⟨x, r', e, r1, r2⟩ := r
    exact ⟨x, r', e, Rep.mono' hp ht r1, RepL.mono' hp ht r2⟩
end
theorem Rep.mono {K : Glo} {mine ρ ρ' : List Addr} {h h' : Heap} {v : V} {w : Value} (r : Rep K h ρ v w) (x : Ext mine ρ ρ' h h') : Rep K h' ρ' v w := Rep.mono' x.pre x.froz r
theorem RepL.mono {K : Glo} {mine ρ ρ' : List Addr} {h h' : Heap} {vs : List V} {ws : List Value} (r : RepL K h ρ vs ws) (x : Ext mine ρ ρ' h h') : RepL K h' ρ' vs ws := RepL.mono' x.pre x.froz r

section
variable {K : Glo} {h : Heap} {ρ : List Addr}
theorem Rep.none_iff {w : Value} : Rep K h ρ .none w ↔ w = .none := by simp only [Rep]
theorem Rep.bool_iff {b : Bool} {w : Value} : Rep K h ρ (.bool b) w ↔ w = .bool b := by simp only [Rep]
theorem Rep.int_iff {i : Int} {w : Value} : Rep K h ρ (.int i) w ↔ ∃ t, w = .int i t := by simp only [Rep]
theorem Rep.str_iff {x : Str} {w : Value} : Rep K h ρ (.str x) w ↔ ∃ t, w = .str x t := by simp only [Rep]
theorem Rep.tup_iff {vs : List V} {w : Value} : Rep K h ρ (.tup vs) w ↔ vs.length ≤ 1000000 ∧ ∃ a ws, w = .ref a ∧ IsTup h a ws.toArray ∧ RepL K h ρ vs ws := by simp only [Rep]
theorem Rep.obj_iff {l : Nat} {w : Value} : Rep K h ρ (.obj l) w ↔ ∃ a, ρ[l]? = some a ∧ w = .ref a := by simp only [Rep]
theorem Rep.rng_iff {a b c : Int} {w : Value} : Rep K h ρ (.rng a b c) w ↔ ∃ r t u v, w = .ref r ∧ IsRange h r a b c t u v := by simp only [Rep]
theorem Rep.int (i : Int) (t : Tok) : Rep K h ρ (.int i) (.int i t) := Rep.int_iff.mpr ⟨t, rfl⟩
theorem Rep.str (x : Str) (t : Tok) : Rep K h ρ (.str x) (.str x t) := Rep.str_iff.mpr ⟨t, rfl⟩
theorem Rep.bool (b : Bool) : Rep K h ρ (.bool b) (.bool b) := Rep.bool_iff.mpr rfl
theorem Rep.none : Rep K h ρ .none .none := Rep.none_iff.mpr rfl
theorem RepL.nil_iff {ws : List Value} : RepL K h ρ [] ws ↔ ws = [] := by simp only [RepL]
theorem RepL.cons_iff {v : V} {vs : List V} {ws : List Value} : RepL K h ρ (v :: vs) ws ↔ ∃ x r, ws = x :: r ∧ Rep K h ρ v x ∧ RepL K h ρ vs r := by simp only [RepL]
theorem RepL.nil : RepL K h ρ [] [] := RepL.nil_iff.mpr rfl
theorem RepL.cons {v : V} {vs : List V} {w : Value} {ws : List Value} (r1 : Rep K h ρ v w) (r2 : RepL K h ρ vs ws) : RepL K h ρ (v :: vs) (w :: ws) := RepL.cons_iff.mpr ⟨w, ws, rfl, r1, r2⟩
theorem RepL.length : ∀ {vs : List V} {ws : List Value}, RepL K h ρ vs ws → ws.length = vs.length
  | [], _, r => by rw [RepL.nil_iff.mp r]; rfl
  | v :: vs, ws, r => by
    obtain ⟨x, r', rfl, _, r2⟩ := RepL.cons_iff.mp r
    simp [RepL.length r2]
theorem RepL.append : ∀ {vs us : List V} {ws xs : List Value}, RepL K h ρ vs ws → RepL K h ρ us xs → RepL K h ρ (vs ++ us) (ws ++ xs)
  | [], _, _, _, r, q => by rw [RepL.nil_iff.mp r]; exact q
  | v :: vs, us, ws, xs, r, q => by
    obtain ⟨x, r', rfl, r1, r2⟩ := RepL.cons_iff.mp r
    exact RepL.cons r1 (RepL.append r2 q)
theorem RepL.get? : ∀ {vs : List V} {ws : List Value}, RepL K h ρ vs ws → ∀ {i : Nat} {v : V}, vs[i]? = some v → ∃ w, ws[i]? = some w ∧ Rep K h ρ v w
  | [], _, _, i, v, e => by simp at e
  | u :: vs, ws, r, i, v, e => by
    obtain ⟨x, r', rfl, r1, r2⟩ := RepL.cons_iff.mp r
    cases i with
    | zero => simp only [List.getElem?_cons_zero, Option.some.injEq] at e; subst e; exact ⟨x, by simp, r1⟩
    | succ i => simp only [List.getElem?_cons_succ] at e ⊢; exact RepL.get? r2 e
theorem RepL.getW : ∀ {vs : List V} {ws : List Value}, RepL K h ρ vs ws → ∀ {i : Nat} {w : Value}, ws[i]? = some w → ∃ v, vs[i]? = some v ∧ Rep K h ρ v w
  | [], ws, r, i, w, e => by rw [RepL.nil_iff.mp r] at e; simp at e
  | u :: vs, ws, r, i, w, e => by
    obtain ⟨x, r', rfl, r1, r2⟩ := RepL.cons_iff.mp r
    cases i with
    | zero => simp only [List.getElem?_cons_zero, Option.some.injEq] at e; subst e; exact ⟨u, by simp, r1⟩
    | succ i => simp only [List.getElem?_cons_succ] at e ⊢; exact RepL.getW r2 e
theorem RepL.set : ∀ {vs : List V} {ws : List Value}, RepL K h ρ vs ws → ∀ (i : Nat) {v : V} {w : Value}, Rep K h ρ v w → RepL K h ρ (vs.set i v) (ws.set i w)
  | [], _, r, i, v, w, _ => by rw [RepL.nil_iff.mp r]; exact RepL.nil
  | u :: vs, ws, r, i, v, w, q => by
    obtain ⟨x, r', rfl, r1, r2⟩ := RepL.cons_iff.mp r
    cases i with
    | zero => exact RepL.cons q r2
    | succ i => exact RepL.cons r1 (RepL.set r2 i q)
theorem RepL.eraseIdx : ∀ {vs : List V} {ws : List Value}, RepL K h ρ vs ws → ∀ (i : Nat), RepL K h ρ (vs.eraseIdx i) (ws.eraseIdx i)
  | [], _, r, i => by rw [RepL.nil_iff.mp r]; simp [RepL.nil]
  | u :: vs, ws, r, i => by
    obtain ⟨x, r', rfl, r1, r2⟩ := RepL.cons_iff.mp r
    cases i with
    | zero => exact r2
    | succ i => exact RepL.cons r1 (RepL.eraseIdx r2 i)
end

/-! ### Run -/
section
variable {K : Glo} {F : Frm} {α β γ δ : Type}

theorem Run.stuck {t : Sem α} {R : Heap → List Addr → β → α → Prop} {ρ : List Addr} {s : Shared} : Run K F t R (.stuck : Res S β) ρ s := trivial

theorem Run.pure {a : α} {b : β} {σ : S} {R : Heap → List Addr → β → α → Prop} {ρ : List Addr} {s : Shared} (rel : Rel K F σ ρ s) (r : R s.heap ρ b a) :
    Run K F (Pure.pure a) R (.ok b σ) ρ s := wpAny_pure ⟨ρ, rel, Ext.refl .., r⟩

theorem Run.bind {t : Sem α} {f : α → Sem γ} {R : Heap → List Addr → β → α → Prop} {R' : Heap → List Addr → δ → γ → Prop} {m : M β} {k : β → M δ} {σ : S} {ρ : List Addr} {s : Shared}
    (h1 : Run K F t R (m σ) ρ s)
    (h2 : ∀ b σ' ρ' s' a, m σ = .ok b σ' → Rel K F σ' ρ' s' → Ext F.mine ρ ρ' s.heap s'.heap → R s'.heap ρ' b a → Run K F (f a) R' (k b σ') ρ' s') :
    Run K F (t >>= f) R' ((m >>= k) σ) ρ s := by
  rw [M.bind_def]
  cases e : m σ with
  | stuck => trivial
  | exc x σ' =>
    rw [e] at h1
    exact wpAny_bind (wpAny_mono h1 (fun _ _ h => h.elim) fun _ _ h => h)
  | ok b σ' =>
    rw [e] at h1
    dsimp only
    have key : ∀ {P : Prop} {b' : Res S δ}, k b σ' = b' → P → P := fun _ p => p
    cases e2 : k b σ' with
    | stuck => trivial
    | ok d σ'' =>
      refine wpAny_bind (wpAny_mono h1 (fun a s' h => ?_) fun _ _ h => h.elim)
      obtain ⟨ρ', rel, x, r⟩ := h
      have := h2 b σ' ρ' s' a e rel x r
      rw [e2] at this
      exact wpAny_mono this (fun c s'' h => by obtain ⟨ρ'', rel', x', r'⟩ := h; exact ⟨ρ'', rel', x.trans x', r'⟩) fun _ _ h => h
    | exc y σ'' =>
      refine wpAny_bind (wpAny_mono h1 (fun a s' h => ?_) fun _ _ h => h.elim)
      obtain ⟨ρ', rel, x, r⟩ := h
      have := h2 b σ' ρ' s' a e rel x r
      rw [e2] at this
      exact wpAny_mono this (fun _ _ h => h) fun c s'' h => by obtain ⟨ρ'', rel', x', r'⟩ := h; exact ⟨ρ'', rel', x.trans x', r'.up x⟩

/-- the same with the first part's outcome told by a plain command that leaves the frame's state as it is -/
theorem Run.step {t : Sem α} {f : α → Sem γ} {R' : Heap → List Addr → δ → γ → Prop} {out : Res S δ} {ρ : List Addr} {s : Shared}
    (h : ∀ (Q : α → Shared → Prop) (E : Value → Shared → Prop), (∀ a, Q a s) → wpAny (model K.prog K.w) F.A t Q E s)
    (h2 : ∀ a, Run K F (f a) R' out ρ s) : Run K F (t >>= f) R' out ρ s := by
  cases out with
  | stuck => trivial
  | ok d σ' => exact wpAny_bind (h _ _ fun a => h2 a)
  | exc y σ' => exact wpAny_bind (h _ _ fun a => h2 a)

theorem Run.standAt {p : Pos} {f : Unit → Sem γ} {R' : Heap → List Addr → δ → γ → Prop} {out : Res S δ} {ρ : List Addr} {s : Shared} (h2 : Run K F (f ()) R' out ρ s) :
    Run K F (PySem.standAt p >>= f) R' out ρ s := Run.step (fun _ _ h => wpAny_standAt (h ())) fun _ => h2

theorem Run.holding {vs : List Value} {t : Sem α} {R : Heap → List Addr → β → α → Prop} {out : Res S β} {ρ : List Addr} {s : Shared} (h : Run K F t R out ρ s) : Run K F (PySem.holding vs t) R out ρ s := by
  cases out with
  | stuck => trivial
  | ok d σ' => exact wpAny_holding h
  | exc y σ' => exact wpAny_holding h

theorem Run.operate {vs : List Value} {t : Sem Value} {R : Heap → List Addr → β → Value → Prop} {out : Res S β} {ρ : List Addr} {s : Shared} (h : Run K F t R out ρ s) : Run K F (PySem.operate vs t) R out ρ s := by
  cases out with
  | stuck => trivial
  | ok d σ' => exact wpAny_operating h
  | exc y σ' => exact wpAny_operating h
end

end

/-! part F2 -/
set_option autoImplicit false
set_option maxRecDepth 100000
open PySem PySem.W PyProof.Rows
section
theorem ofString_inj {a b : String} (h : Str.ofString a = Str.ofString b) : a = b := by
  have h1 : (cpsOfBytes 0 0 a.toByteArray.data.toList).toArray = (cpsOfBytes 0 0 b.toByteArray.data.toList).toArray := congrArg Str.cps h
  have h2 := congrArg Array.toList h1
  rw [cpsOfBytes_string, cpsOfBytes_string] at h2
  have h3 : a.toList.map Char.toNat = b.toList.map Char.toNat := by simpa using h2
  have h4 : a.toList = b.toList := List.map_inj_right (fun x y e => Char.toNat_inj.mp e) |>.mp h3
  exact String.toList_inj.mp h4

theorem CelRep.mono {K : Glo} {h h' : Heap} {ρ ρ' : List Addr} {c : Cel} {a : Addr} (x : CelRep K h ρ c a) (hp : ρ <+: ρ') (ht : ∀ b o, h.get? b = some o → Froz o → h'.get? b = some o)
    (hl : ∀ items n, IsL h a items n → IsL h' a items n) : CelRep K h' ρ' c a := by
  cases c with
  | lst vs => obtain ⟨h0, ws, n, h1, h2⟩ := x; exact ⟨h0, ws, n, hl _ _ h1, RepL.mono' hp ht h2⟩

theorem VarAt.mono {env : Env} {h h' : Heap} {x : Str} {w : Value} (v : VarAt env h x w) (hn : ∀ m, h.Ns env.locals m → h'.Ns env.locals m)
    (hc : ∀ c u, env.cells.lookup x = some c → h.IsCell c (some u) → h'.IsCell c (some u)) : VarAt env h' x w := by
  rcases v with ⟨k, m, n, e⟩ | ⟨k, c, e, n⟩
  · exact .inl ⟨k, m, hn m n, e⟩
  · exact .inr ⟨k, c, e, hc c w e n⟩

section
variable {K : Glo} {F : Frm} {σ : S} {ρ ρ' : List Addr} {s s' : Shared} {mine : List Addr} {h h' : Heap}

theorem kept_tup (hk : ∀ b o, h.get? b = some o → h'.get? b = some o) : ∀ b o, h.get? b = some o → Froz o → h'.get? b = some o := fun _ _ e _ => hk _ _ e

theorem Ext.kept (hk : ∀ b o, h.get? b = some o → h'.get? b = some o) : Ext mine ρ ρ h h' :=
  ⟨List.prefix_refl _, fun _ o e => ⟨o, hk _ _ e⟩, fun _ ha => .inl ha, fun _ o e _ _ => ⟨o, hk _ _ e, .refl _⟩, kept_tup hk⟩

theorem GRel.kept {st : Store} (rel : GRel K st ρ s) (hk : ∀ b o, s.heap.get? b = some o → s'.heap.get? b = some o) (hg : s'.gens = s.gens) (ho : s'.os = s.os) : GRel K st ρ s' where
  gens := hg.trans rel.gens
  os := ho.trans rel.os
  base := fun b o e => hk _ _ (rel.base b o e)
  len := rel.len
  cell := fun l a c h1 h2 => (rel.cell l a c h1 h2).mono (List.prefix_refl _) (kept_tup hk) fun _ _ x => hk _ _ x
  nodup := rel.nodup
  above := rel.above

theorem Rel.kept (rel : Rel K F σ ρ s) (hk : ∀ b o, s.heap.get? b = some o → s'.heap.get? b = some o) (hg : s'.gens = s.gens) (ho : s'.os = s.os) : Rel K F σ ρ s' where
  toGRel := rel.toGRel.kept hk hg ho
  vars := fun x v e => by
    obtain ⟨w, h1, h2⟩ := rel.vars x v e
    exact ⟨w, h1.mono (fun m n => n.keeps hk) (fun c u _ n => n.keeps hk), Rep.mono' (List.prefix_refl _) (kept_tup hk) h2⟩
  loc := let ⟨m, n⟩ := rel.loc; ⟨m, n.keeps hk⟩
  cels := fun x c e => let ⟨v, n⟩ := rel.cels x c e; ⟨v, n.keeps hk⟩
  mineAbove := fun a ha => let ⟨h1, o, h2⟩ := rel.mineAbove a ha; ⟨h1, o, hk _ _ h2⟩
  mineApart := rel.mineApart
  mineLoc := rel.mineLoc
  frs := rel.frs.kept hk

theorem Rel.tok (rel : Rel K F σ ρ s) (t : Nat) : Rel K F σ ρ { s with toks := t } := rel.kept (fun _ _ e => e) rfl rfl
theorem Rel.push (rel : Rel K F σ ρ s) (o : Obj) (t : Nat) : Rel K F σ ρ { s with heap := s.heap.push o, toks := t } := rel.kept (fun _ _ e => Heap.get?_push_of_some o e) rfl rfl
theorem Ext.push (o : Obj) : Ext mine ρ ρ h (h.push o) := Ext.kept fun _ _ e => Heap.get?_push_of_some o e

theorem GRel.alive {st : Store} (rel : GRel K st ρ s) {a : Addr} (ha : a ∈ ρ) : ∃ items, s.heap.IsList a items := by
  obtain ⟨l, hl⟩ := List.mem_iff_getElem?.mp ha
  have h1 : l < ρ.length := (List.getElem?_eq_some_iff.mp hl).1
  rw [rel.len] at h1
  have h2 : st[l]? = some st[l] := List.getElem?_eq_getElem h1
  have h3 := rel.cell l a _ hl h2
  cases hc : st[l] with
  | lst vs => rw [hc] at h3; obtain ⟨_, ws, n, h4, _⟩ := h3; exact ⟨_, h4.isList⟩

theorem list_ne_tup {a b : Addr} {i : Array Value} {o' : Obj} (h1 : h.IsList a i) (e' : h.get? b = some o') (f : Froz o') : b ≠ a := by
  rintro rfl
  obtain ⟨o, e, c, _⟩ := h1
  rw [e] at e'; cases e'
  rcases f with ⟨f, _⟩ | ⟨f, _⟩
  · rw [c] at f; exact absurd f (by decide)
  · rw [c] at f; exact absurd f (by decide)
theorem froz_ne_dict {o : Obj} (f : Froz o) : ∀ es n, o.data ≠ .dict es n := by
  rintro es n d
  rcases f with ⟨_, _, _, f⟩ | ⟨_, _, f⟩ <;> (rw [d] at f; cases f)
theorem froz_ne_cell {o : Obj} (f : Froz o) : ∀ v, o.data ≠ .cell v := by
  rintro v d
  rcases f with ⟨_, _, _, f⟩ | ⟨_, _, f⟩ <;> (rw [d] at f; cases f)
theorem list_ne_ns {a b : Addr} {i : Array Value} {m : Str → Option Value} (h1 : h.IsList a i) (h2 : h.Ns b m) : b ≠ a := by
  rintro rfl
  obtain ⟨o, e, _, n, d⟩ := h1
  obtain ⟨o', es, ep, e', d', _⟩ := h2
  rw [e] at e'; cases e'; rw [d] at d'; cases d'
theorem list_ne_cell {a b : Addr} {i : Array Value} {v : Option Value} (h1 : h.IsList a i) (h2 : h.IsCell b v) : b ≠ a := by
  rintro rfl
  obtain ⟨o, e, _, n, d⟩ := h1
  obtain ⟨o', e', d'⟩ := h2
  rw [e] at e'; cases e'; rw [d] at d'; cases d'
theorem ns_ne_tup {a b : Addr} {o' : Obj} {m : Str → Option Value} (h1 : h.Ns a m) (e' : h.get? b = some o') (f : Froz o') : b ≠ a := by
  rintro rfl
  obtain ⟨o, es, ep, e, d', _⟩ := h1
  rw [e] at e'; cases e'; exact froz_ne_dict f _ _ d'
theorem cell_ne_tup {a b : Addr} {o' : Obj} {v : Option Value} (h1 : h.IsCell a v) (e' : h.get? b = some o') (f : Froz o') : b ≠ a := by
  rintro rfl
  obtain ⟨o, e, d'⟩ := h1
  rw [e] at e'; cases e'; exact froz_ne_cell f _ d'
theorem cell_ne_ns {a b : Addr} {v : Option Value} {m : Str → Option Value} (h1 : h.IsCell a v) (h2 : h.Ns b m) : b ≠ a := by
  rintro rfl
  obtain ⟨o', es, ep, e', d', _⟩ := h2
  obtain ⟨o, e, d⟩ := h1
  rw [e] at e'; cases e'; rw [d] at d'; cases d'

theorem nodup_get {α : Type} : ∀ {l : List α}, l.Nodup → ∀ {i j : Nat} {a : α}, l[i]? = some a → l[j]? = some a → i = j
  | [], _, i, j, a, h1, _ => by simp at h1
  | x :: l, n, i, j, a, h1, h2 => by
    obtain ⟨n1, n2⟩ := List.nodup_cons.mp n
    cases i with
    | zero =>
      cases j with
      | zero => rfl
      | succ j =>
        simp only [List.getElem?_cons_zero, Option.some.injEq] at h1; subst h1
        exact absurd (List.mem_of_getElem? (by simpa using h2)) n1
    | succ i =>
      cases j with
      | zero =>
        simp only [List.getElem?_cons_zero, Option.some.injEq] at h2; subst h2
        exact absurd (List.mem_of_getElem? (by simpa using h1)) n1
      | succ j => exact congrArg (· + 1) (nodup_get n2 (by simpa using h1) (by simpa using h2))

/-- a list of the store is replaced -/
theorem GRel.upd {st : Store} {l n : Nat} {a : Addr} {vs : List V} {ws : List Value} (rel : GRel K st ρ s) (hl : ρ[l]? = some a) (hl0 : l ≠ 0) (hs : Heap.SameBut a s.heap s'.heap)
    (hL : IsL s'.heap a ws.toArray n) (hr : RepL K s.heap ρ vs ws) (hln : vs.length ≤ 1000000) (hg : s'.gens = s.gens) (ho : s'.os = s.os) :
    GRel K (st.set l (.lst vs)) ρ s' ∧ Ext mine ρ ρ s.heap s'.heap := by
  have ha : a ∈ ρ := List.mem_of_getElem? hl
  obtain ⟨items, hold⟩ := rel.alive ha
  have ht : ∀ b o, s.heap.get? b = some o → Froz o → s'.heap.get? b = some o := fun b o e f => (hs.2 b (list_ne_tup hold e f)).trans e
  refine ⟨⟨hg.trans rel.gens, ho.trans rel.os, ?_, ?_, ?_, rel.nodup, rel.above⟩, ?_⟩
  · intro b o e
    have hne : b ≠ a := by rintro rfl; rw [rel.above l _ hl hl0] at e; cases e
    exact (hs.2 b hne).trans (rel.base b o e)
  · rw [rel.len, List.length_set]
  · intro k b c h1 h2
    by_cases hk : k = l
    · subst hk
      rw [hl] at h1; cases h1
      have h3 : k < st.length := by rw [← rel.len]; exact (List.getElem?_eq_some_iff.mp hl).1
      rw [List.getElem?_set_self h3] at h2; cases h2
      exact ⟨hln, ws, n, hL, RepL.mono' (List.prefix_refl _) ht hr⟩
    · rw [List.getElem?_set_ne (Ne.symm hk)] at h2
      have hne : b ≠ a := fun e => hk (nodup_get rel.nodup (e ▸ h1) hl)
      exact (rel.cell k b c h1 h2).mono (List.prefix_refl _) ht fun it n' x => (hs.2 b hne).trans x
  · refine ⟨List.prefix_refl _, fun b o e => ?_, fun _ hb => .inl hb, fun b o e n1 _ => ⟨o, (hs.2 b (fun x => n1 (x ▸ ha))).trans e, .refl _⟩, ht⟩
    by_cases hb : b = a
    · subst hb; exact ⟨_, hL⟩
    · exact ⟨o, (hs.2 b hb).trans e⟩

theorem Rel.upd {l n : Nat} {a : Addr} {vs : List V} {ws : List Value} (rel : Rel K F σ ρ s) (hl : ρ[l]? = some a) (hl0 : l ≠ 0) (hs : Heap.SameBut a s.heap s'.heap)
    (hL : IsL s'.heap a ws.toArray n) (hr : RepL K s.heap ρ vs ws) (hln : vs.length ≤ 1000000) (hg : s'.gens = s.gens) (ho : s'.os = s.os) :
    Rel K F { σ with st := σ.st.set l (.lst vs) } ρ s' ∧ Ext F.mine ρ ρ s.heap s'.heap := by
  obtain ⟨g, x⟩ := rel.toGRel.upd (mine := F.mine) hl hl0 hs hL hr hln hg ho
  have ha : a ∈ ρ := List.mem_of_getElem? hl
  obtain ⟨items, hold⟩ := rel.toGRel.alive ha
  refine ⟨{ toGRel := g, vars := ?_, loc := ?_, cels := ?_, mineAbove := ?_, mineApart := rel.mineApart, mineLoc := rel.mineLoc, frs := rel.frs.next fun b o es n g d => ⟨o, es, n, (hs.2 b (by
      rintro rfl
      obtain ⟨o', g', _, n', d'⟩ := hold
      rw [g] at g'; cases g'; rw [d] at d'; cases d')).trans g, d⟩ }, x⟩
  · intro y v e
    obtain ⟨w, h1, h2⟩ := rel.vars y v e
    exact ⟨w, h1.mono (fun m n => n.sameBut hs (list_ne_ns hold n)) (fun c u _ n => n.sameBut hs (list_ne_cell hold n)), h2.mono x⟩
  · obtain ⟨m, n⟩ := rel.loc; exact ⟨m, n.sameBut hs (list_ne_ns hold n)⟩
  · intro y c e
    obtain ⟨v, n⟩ := rel.cels y c e; exact ⟨v, n.sameBut hs (list_ne_cell hold n)⟩
  · intro b hb
    obtain ⟨h1, o, h2⟩ := rel.mineAbove b hb
    obtain ⟨o', h3⟩ := x.alive b o h2
    exact ⟨h1, o', h3⟩

/-- a new list -/
theorem GRel.newList {st : Store} {vs : List V} {ws : List Value} {o : Obj} (rel : GRel K st ρ s) (ho : o = { cls := .type "list", data := .seq ws.toArray }) (hr : RepL K s.heap ρ vs ws) (hln : vs.length ≤ 1000000) (t : Nat) :
    GRel K (st ++ [.lst vs]) (ρ ++ [s.heap.objs.size]) { s with heap := s.heap.push o, toks := t } ∧ Ext mine ρ (ρ ++ [s.heap.objs.size]) s.heap (s.heap.push o) := by
  have hk : ∀ b o', s.heap.get? b = some o' → (s.heap.push o).get? b = some o' := fun _ _ e => Heap.get?_push_of_some o e
  have hpre : ρ <+: ρ ++ [s.heap.objs.size] := List.prefix_append _ _
  have hnew : s.heap.get? s.heap.objs.size = none := Heap.get?_none_of_le (Nat.le_refl _)
  have hL : IsL (s.heap.push o) s.heap.objs.size ws.toArray 0 := by
    subst ho; exact Heap.get?_push_size _ rfl
  refine ⟨⟨rel.gens, rel.os, fun b o' e => hk _ _ (rel.base b o' e), ?_, ?_, ?_, ?_⟩, ⟨hpre, fun b o' e => ⟨o', hk _ _ e⟩, ?_, fun b o' e _ _ => ⟨o', hk _ _ e, .refl _⟩, kept_tup hk⟩⟩
  · simp [rel.len]
  · intro l a c h1 h2
    by_cases hl : l < st.length
    · rw [List.getElem?_append_left (by rw [rel.len]; exact hl)] at h1
      rw [List.getElem?_append_left hl] at h2
      exact (rel.cell l a c h1 h2).mono hpre (kept_tup hk) fun _ _ x => hk _ _ x
    · have hl' : l = st.length := by
        rcases List.getElem?_eq_some_iff.mp h2 with ⟨h3, _⟩
        simp at h3; (first | lia | omega)
      subst hl'
      rw [← rel.len, List.getElem?_concat_length] at h1; cases h1
      rw [List.getElem?_concat_length] at h2; cases h2
      exact ⟨hln, ws, 0, hL, RepL.mono' hpre (kept_tup hk) hr⟩
  · refine List.nodup_append.mpr ⟨rel.nodup, by simp, ?_⟩
    intro a ha b hb
    simp only [List.mem_singleton] at hb; subst hb
    rintro rfl
    obtain ⟨_, o', e, _⟩ := rel.alive ha
    rw [hnew] at e; cases e
  · intro l a hla hl0
    by_cases hlt : l < ρ.length
    · rw [List.getElem?_append_left hlt] at hla
      exact rel.above l a hla hl0
    · have ha : a = s.heap.objs.size := by
        have hm := List.mem_of_getElem? hla
        rw [List.getElem?_append_right (by (first | lia | omega))] at hla
        have := List.mem_of_getElem? hla
        simpa using this
      subst ha
      cases e : K.base.get? s.heap.objs.size with
      | none => rfl
      | some o' => have := rel.base _ _ e; rw [hnew] at this; cases this
  · intro a ha
    rcases List.mem_append.mp ha with ha | ha
    · exact .inl ha
    · simp only [List.mem_singleton] at ha; subst ha; exact .inr hnew

theorem Rel.newList {vs : List V} {ws : List Value} {o : Obj} (rel : Rel K F σ ρ s) (ho : o = { cls := .type "list", data := .seq ws.toArray }) (hr : RepL K s.heap ρ vs ws) (hln : vs.length ≤ 1000000) (t : Nat) :
    Rel K F { σ with st := σ.st ++ [.lst vs] } (ρ ++ [s.heap.objs.size]) { s with heap := s.heap.push o, toks := t } ∧ Ext F.mine ρ (ρ ++ [s.heap.objs.size]) s.heap (s.heap.push o) := by
  obtain ⟨g, x⟩ := rel.toGRel.newList (mine := F.mine) ho hr hln t
  have hk : ∀ b o', s.heap.get? b = some o' → (s.heap.push o).get? b = some o' := fun _ _ e => Heap.get?_push_of_some o e
  have r := rel.push o t
  refine ⟨{ toGRel := g, vars := ?_, loc := r.loc, cels := r.cels, mineAbove := r.mineAbove, mineApart := ?_, mineLoc := r.mineLoc, frs := r.frs }, x⟩
  · intro y v e
    obtain ⟨w, h1, h2⟩ := rel.vars y v e
    exact ⟨w, h1.mono (fun m n => n.keeps hk) (fun c u _ n => n.keeps hk), h2.mono x⟩
  · intro a ha hb
    rcases List.mem_append.mp hb with hb | hb
    · exact rel.mineApart a ha hb
    · simp only [List.mem_singleton] at hb; subst hb
      obtain ⟨_, o', e⟩ := rel.mineAbove _ ha
      rw [Heap.get?_none_of_le (Nat.le_refl _)] at e; cases e

/-- a name is bound -/
noncomputable def S.put (σ : S) (x : String) (v : V) : S := { σ with lo := fun y => if y = x then some v else σ.lo y }

theorem Ext.mineBut {a : Addr} (ha : a ∈ mine) (hs : Heap.SameBut a h h') (hal : ∃ o, h'.get? a = some o) (ht : ∀ b o, h.get? b = some o → Froz o → b ≠ a) : Ext mine ρ ρ h h' where
  pre := List.prefix_refl _
  alive := fun b o e => by
    by_cases hb : b = a
    · subst hb; exact hal
    · exact ⟨o, (hs.2 b hb).trans e⟩
  new := fun _ hb => .inl hb
  keep := fun b o e _ n => ⟨o, (hs.2 b (fun x => n (x ▸ ha))).trans e, .refl _⟩
  froz := fun b o e f => (hs.2 b (ht b o e f)).trans e

theorem GRel.mineBut {st : Store} {a : Addr} (rel : GRel K st ρ s) (hb : K.base.get? a = none) (hnl : a ∉ ρ) (hs : Heap.SameBut a s.heap s'.heap) (ht : ∀ b o, s.heap.get? b = some o → Froz o → b ≠ a)
    (hg : s'.gens = s.gens) (ho : s'.os = s.os) : GRel K st ρ s' where
  gens := hg.trans rel.gens
  os := ho.trans rel.os
  base := fun b o e => (hs.2 b (by rintro rfl; rw [hb] at e; cases e)).trans (rel.base b o e)
  len := rel.len
  cell := fun l b c h1 h2 => by
    have hne : b ≠ a := fun e => hnl (e ▸ List.mem_of_getElem? h1)
    refine (rel.cell l b c h1 h2).mono (List.prefix_refl _) (fun d o e f => (hs.2 d (ht d o e f)).trans e) fun it n' x => ?_
    · exact (hs.2 b hne).trans x
  nodup := rel.nodup
  above := rel.above

theorem Rel.setLocal {x : String} {v : V} {w : Value} {m : Str → Option Value} (rel : Rel K F σ ρ s) (hk : F.env.kindOf (Str.ofString x) = some .local) (hm : s.heap.Ns F.env.locals m)
    (hn : s'.heap.Ns F.env.locals (fun y => if y = Str.ofString x then some w else m y)) (hs : Heap.SameBut F.env.locals s.heap s'.heap) (hr : Rep K s.heap ρ v w)
    (hg : s'.gens = s.gens) (ho : s'.os = s.os) : Rel K F (σ.put x v) ρ s' ∧ Ext F.mine ρ ρ s.heap s'.heap := by
  have ht : ∀ b o, s.heap.get? b = some o → Froz o → b ≠ F.env.locals := fun b o e f => ns_ne_tup hm e f
  have hal : ∃ o, s'.heap.get? F.env.locals = some o := by obtain ⟨o, _, _, e, _⟩ := hn; exact ⟨o, e⟩
  have ext : Ext F.mine ρ ρ s.heap s'.heap := Ext.mineBut rel.mineLoc hs hal ht
  have hfr : FrsOk K F s'.heap := rel.frs.next fun b o es n g d => by
    by_cases hb : b = F.env.locals
    · subst hb
      obtain ⟨o', es', ep', g', d', _⟩ := hn
      exact ⟨o', _, _, g', d'⟩
    · exact ⟨o, es, n, (hs.2 b hb).trans g, d⟩
  refine ⟨{ toGRel := rel.toGRel.mineBut (rel.mineAbove _ rel.mineLoc).1 (rel.mineApart _ rel.mineLoc) hs ht hg ho, vars := ?_, loc := ⟨_, hn⟩, cels := ?_, mineAbove := ?_, mineApart := rel.mineApart, mineLoc := rel.mineLoc, frs := hfr }, ext⟩
  · intro y u e
    by_cases hy : y = x
    · subst hy
      simp only [S.put, if_true, Option.some.injEq] at e
      subst e
      exact ⟨w, .inl ⟨hk, _, hn, by simp⟩, hr.mono ext⟩
    · simp only [S.put, if_neg hy] at e
      obtain ⟨w', h1, h2⟩ := rel.vars y u e
      refine ⟨w', ?_, h2.mono ext⟩
      rcases h1 with ⟨k1, m1, n1, e1⟩ | ⟨k1, c, e1, n1⟩
      · refine .inl ⟨k1, _, hn, ?_⟩
        have hne : ¬ Str.ofString y = Str.ofString x := fun q => hy (ofString_inj q)
        rw [if_neg hne]
        obtain ⟨o1, es1, ep1, g1, d1, _, f1⟩ := n1
        obtain ⟨o2, es2, ep2, g2, d2, _, f2⟩ := hm
        rw [g1] at g2; cases g2; rw [d1] at d2; cases d2
        rw [← f2, f1]; exact e1
      · exact .inr ⟨k1, c, e1, n1.sameBut hs (fun q => cell_ne_ns n1 hm q.symm)⟩
  · intro y c e
    obtain ⟨v', n⟩ := rel.cels y c e
    exact ⟨v', n.sameBut hs (fun q => cell_ne_ns n hm q.symm)⟩
  · intro b hb
    obtain ⟨h1, o, h2⟩ := rel.mineAbove b hb
    obtain ⟨o', h3⟩ := ext.alive b o h2
    exact ⟨h1, o', h3⟩

theorem Rel.setCell {x : String} {v : V} {w : Value} {c : Addr} {v₀ : Option Value} (rel : Rel K F σ ρ s) (hk : F.env.kindOf (Str.ofString x) = some .cell) (hc : F.env.cells.lookup (Str.ofString x) = some c) (hmine : c ∈ F.mine)
    (hinj : ∀ y, F.env.cells.lookup y = some c → y = Str.ofString x) (h0 : s.heap.IsCell c v₀)
    (hn : s'.heap.IsCell c (some w)) (hs : Heap.SameBut c s.heap s'.heap) (hr : Rep K s.heap ρ v w)
    (hg : s'.gens = s.gens) (ho : s'.os = s.os) : Rel K F (σ.put x v) ρ s' ∧ Ext F.mine ρ ρ s.heap s'.heap := by
  have ht : ∀ b o, s.heap.get? b = some o → Froz o → b ≠ c := fun b o e f => cell_ne_tup h0 e f
  have hal : ∃ o, s'.heap.get? c = some o := by obtain ⟨o, e, _⟩ := hn; exact ⟨o, e⟩
  have ext : Ext F.mine ρ ρ s.heap s'.heap := Ext.mineBut hmine hs hal ht
  refine ⟨{ toGRel := rel.toGRel.mineBut (rel.mineAbove _ hmine).1 (rel.mineApart _ hmine) hs ht hg ho, vars := ?_, loc := ?_, cels := ?_, mineAbove := ?_, mineApart := rel.mineApart, mineLoc := rel.mineLoc, frs := rel.frs.next fun b o es n g d => ⟨o, es, n, (hs.2 b (by
      rintro rfl
      obtain ⟨o', g', d'⟩ := h0
      rw [g] at g'; cases g'; rw [d] at d'; cases d')).trans g, d⟩ }, ext⟩
  · intro y u e
    by_cases hy : y = x
    · subst hy
      simp only [S.put, if_true, Option.some.injEq] at e
      subst e
      exact ⟨w, .inr ⟨.inl hk, c, hc, hn⟩, hr.mono ext⟩
    · simp only [S.put, if_neg hy] at e
      obtain ⟨w', h1, h2⟩ := rel.vars y u e
      refine ⟨w', ?_, h2.mono ext⟩
      rcases h1 with ⟨k1, m1, n1, e1⟩ | ⟨k1, c', e1, n1⟩
      · exact .inl ⟨k1, m1, n1.sameBut hs (cell_ne_ns h0 n1), e1⟩
      · have hne : c' ≠ c := by rintro rfl; exact hy (ofString_inj (hinj _ e1))
        exact .inr ⟨k1, c', e1, n1.sameBut hs hne⟩
  · obtain ⟨m, n⟩ := rel.loc; exact ⟨m, n.sameBut hs (cell_ne_ns h0 n)⟩
  · intro y c' e
    obtain ⟨v', n⟩ := rel.cels y c' e
    by_cases hcc : c' = c
    · subst hcc; exact ⟨_, hn⟩
    · exact ⟨v', n.sameBut hs hcc⟩
  · intro b hb
    obtain ⟨h1, o, h2⟩ := rel.mineAbove b hb
    obtain ⟨o', h3⟩ := ext.alive b o h2
    exact ⟨h1, o', h3⟩
end

end

/-! part F3 -/
set_option autoImplicit false
set_option maxRecDepth 100000
open PySem PySem.W PyProof.Rows
section
inductive Fl where
  | next | brk | cont
  | ret (v : V)

noncomputable def FlRep (K : Glo) (h : Heap) (ρ : List Addr) : Fl → Flow → Prop
  | .next, f => f = .next
  | .brk, f => f = .brk
  | .cont, f => f = .cont
  | .ret v, f => ∃ w, f = .ret w ∧ Rep K h ρ v w

noncomputable def SimE (K : Glo) (F : Frm) (e : Expr) (m : M V) : Prop := ∀ σ ρ s, Rel K F σ ρ s → Run K F (eval e F.env) (Rep K) (m σ) ρ s
noncomputable def BRep (_ : Heap) (_ : List Addr) (b : Bool) (a : Bool) : Prop := a = b
noncomputable def SimB (K : Glo) (F : Frm) (e : Expr) (m : M Bool) : Prop := ∀ σ ρ s, Rel K F σ ρ s → Run K F (isTrue e F.env (eval e F.env)) BRep (m σ) ρ s
noncomputable def SimS (K : Glo) (F : Frm) (st : Stmt) (m : M Fl) : Prop := ∀ σ ρ s, Rel K F σ ρ s → Run K F (exec st F.env) (FlRep K) (m σ) ρ s
noncomputable def SimSs (K : Glo) (F : Frm) (st : List Stmt) (m : M Fl) : Prop := ∀ σ ρ s, Rel K F σ ρ s → Run K F (execs st F.env) (FlRep K) (m σ) ρ s
noncomputable def URep (_ : Heap) (_ : List Addr) (_ : Unit) (_ : Unit) : Prop := True
noncomputable def SimT (K : Glo) (F : Frm) (e : Expr) (m : V → M Unit) : Prop := ∀ σ ρ s v w, Rel K F σ ρ s → Rep K s.heap ρ v w → Run K F (assign e F.env w) URep (m v σ) ρ s

structure FOk (F : Frm) : Prop where
  kind : F.env.scope.kind = .function
  glob : F.env.globals = mainGlobals
  blt : F.env.builtins = builtinsNs
  hd : F.nh = true → F.A.handled = none
  units : F.A.units + 1000 < cLine

noncomputable def getv (x : String) : M V := fun σ => match σ.lo x with | some v => .ok v σ | none => .stuck
noncomputable def setv (x : String) (v : V) : M Unit := fun σ => .ok () (σ.put x v)

variable {K : Glo} {F : Frm}

theorem Run.ok {α β : Type} {t : Sem α} {R : Heap → List Addr → β → α → Prop} {b : β} {σ' : S} {ρ : List Addr} {s : Shared}
    (h : wpAny (model K.prog K.w) F.A t (fun a s' => ∃ ρ', Rel K F σ' ρ' s' ∧ Ext F.mine ρ ρ' s.heap s'.heap ∧ R s'.heap ρ' b a) (fun _ _ => False) s) : Run K F t R (.ok b σ') ρ s := h

/-! ### names and constants -/
theorem simE_name (fk : FOk F) (x : String) (pos : Pos) (hd : (Str.ofString x == ("__debug__" : Str)) = false := by decide) (hc : (Str.ofString x == ("__classdict__" : Str)) = false := by decide) :
    SimE K F (.Name (Str.ofString x) pos) (getv x) := by
  intro σ ρ s rel
  unfold getv
  cases e : σ.lo x with
  | none => exact Run.stuck
  | some v =>
    dsimp only
    obtain ⟨w, h1, h2⟩ := rel.vars x v e
    refine Run.ok (wpAny_Name ?_ hd)
    have fin : ∃ ρ', Rel K F σ ρ' s ∧ Ext F.mine ρ ρ' s.heap s.heap ∧ Rep K s.heap ρ' v w := ⟨ρ, rel, Ext.refl .., h2⟩
    rcases h1 with ⟨k, m, n, em⟩ | ⟨k | k, c, ec, n⟩
    · exact wpAny_loadName_local fk.kind k n em fin
    · exact wpAny_loadName_cell fk.kind k ec n fin
    · exact wpAny_loadName_free fk.kind k ec n fin hc

theorem simE_none (k : Nat) (pos : Pos) : SimE K F (.Constant .none k pos) (pure .none) := fun _ ρ _ rel => Run.ok (wpAny_Constant_none ⟨ρ, rel, Ext.refl .., Rep.none⟩)
theorem simE_bool (b : Bool) (k : Nat) (pos : Pos) : SimE K F (.Constant (.bool b) k pos) (pure (.bool b)) := fun _ ρ _ rel => Run.ok (wpAny_Constant_bool ⟨ρ, rel, Ext.refl .., Rep.bool b⟩)
theorem simE_int (i : Int) (k : Nat) (pos : Pos) : SimE K F (.Constant (.int i) k pos) (pure (.int i)) := fun _ ρ _ rel => Run.ok (wpAny_Constant_int ⟨ρ, rel.tok _, Ext.refl .., Rep.int ..⟩)
theorem simE_str (x : Str) (k : Nat) (pos : Pos) : SimE K F (.Constant (.str x) k pos) (pure (.str x)) := fun _ ρ _ rel => Run.ok (wpAny_Constant_str ⟨ρ, rel.tok _, Ext.refl .., Rep.str ..⟩)

/-! ### operators -/
noncomputable def BinOk (K : Glo) (op : Operator) (f : V → V → M V) : Prop :=
  ∀ F : Frm, FOk F → ∀ σ ρ s a b wa wb, Rel K F σ ρ s → Rep K s.heap ρ a wa → Rep K s.heap ρ b wb → Run K F (binaryOp op wa wb) (Rep K) (f a b σ) ρ s
noncomputable def CmpOk (K : Glo) (op : CmpOp) (f : V → V → M V) : Prop :=
  ∀ F : Frm, FOk F → ∀ σ ρ s a b wa wb, Rel K F σ ρ s → Rep K s.heap ρ a wa → Rep K s.heap ρ b wb → Run K F (compareOp op wa wb) (Rep K) (f a b σ) ρ s
noncomputable def TruOk (K : Glo) (f : V → M Bool) : Prop :=
  ∀ F : Frm, FOk F → ∀ σ ρ s a wa, Rel K F σ ρ s → Rep K s.heap ρ a wa → Run K F (truthy wa) BRep (f a σ) ρ s

theorem simE_bin (fk : FOk F) {op : Operator} {f : V → V → M V} (ho : BinOk K op f) {l r : Expr} {ml mr : M V} (pos : Pos) (hl : SimE K F l ml) (hr : SimE K F r mr) :
    SimE K F (.BinOp l op r pos) (do let a ← ml; let b ← mr; f a b) := by
  intro σ ρ s rel
  rw [eval_BinOp]
  refine Run.bind (hl σ ρ s rel) fun a σ₁ ρ₁ s₁ wa _ rel₁ x₁ ra => ?_
  refine Run.bind (Run.holding (hr σ₁ ρ₁ s₁ rel₁)) fun b σ₂ ρ₂ s₂ wb _ rel₂ x₂ rb => ?_
  exact Run.standAt (Run.operate (ho F fk σ₂ ρ₂ s₂ a b wa wb rel₂ (ra.mono x₂) rb))

theorem simE_cmp (fk : FOk F) {op : CmpOp} {f : V → V → M V} (ho : CmpOk K op f) {l r : Expr} {ml mr : M V} (pos : Pos) (hl : SimE K F l ml) (hr : SimE K F r mr)
    (hm : behindInMarks op r = false := by rfl) :
    SimE K F (.Compare l [op] [r] pos) (do let a ← ml; let b ← mr; f a b) := by
  intro σ ρ s rel
  have e : eval (.Compare l [op] [r] pos) F.env = (do let left ← eval l F.env; let rv ← holding [left] (eval r F.env); standAt pos; operate [left, rv] (compareOp op left rv)) := by
    rw [eval_Compare1]
    simp only [markedBehindIn_of_false hm]
  rw [e]
  refine Run.bind (hl σ ρ s rel) fun a σ₁ ρ₁ s₁ wa _ rel₁ x₁ ra => ?_
  refine Run.bind (Run.holding (hr σ₁ ρ₁ s₁ rel₁)) fun b σ₂ ρ₂ s₂ wb _ rel₂ x₂ rb => ?_
  exact Run.standAt (Run.operate (ho F fk σ₂ ρ₂ s₂ a b wa wb rel₂ (ra.mono x₂) rb))

theorem simB_cmp (fk : FOk F) {op : CmpOp} {f : V → V → M V} (ho : CmpOk K op f) {tr : V → M Bool} (ht : TruOk K tr) {l r : Expr} {ml mr : M V} (pos : Pos) (hl : SimE K F l ml) (hr : SimE K F r mr)
    (hm : behindInMarks op r = false := by rfl) :
    SimB K F (.Compare l [op] [r] pos) (do let a ← ml; let b ← mr; let c ← f a b; tr c) := by
  intro σ ρ s rel
  have e : isTrue (.Compare l [op] [r] pos) F.env (eval (.Compare l [op] [r] pos) F.env) = (do let left ← eval l F.env; let rv ← holding [left] (eval r F.env); standAt pos; let c ← operate [left, rv] (compareOp op left rv); holding [c] (truthy c)) := by
    rw [isTrue_Compare1]
    simp only [markedBehindIn_of_false hm]
  rw [e]
  refine Run.bind (hl σ ρ s rel) fun a σ₁ ρ₁ s₁ wa _ rel₁ x₁ ra => ?_
  refine Run.bind (Run.holding (hr σ₁ ρ₁ s₁ rel₁)) fun b σ₂ ρ₂ s₂ wb _ rel₂ x₂ rb => ?_
  refine Run.standAt (Run.bind (Run.operate (ho F fk σ₂ ρ₂ s₂ a b wa wb rel₂ (ra.mono x₂) rb)) fun c σ₃ ρ₃ s₃ wc _ rel₃ x₃ rc => ?_)
  exact Run.holding (ht F fk σ₃ ρ₃ s₃ c wc rel₃ rc)

theorem simB_val (fk : FOk F) {tr : V → M Bool} (ht : TruOk K tr) {e : Expr} {m : M V} (he : SimE K F e m)
    (hi : isTrue e F.env (eval e F.env) = (do let v ← eval e F.env; standAt e.pos; holding [v] (truthy v)) := by rfl) :
    SimB K F e (do let v ← m; tr v) := by
  intro σ ρ s rel
  rw [hi]
  refine Run.bind (he σ ρ s rel) fun a σ₁ ρ₁ s₁ wa _ rel₁ x₁ ra => ?_
  exact Run.standAt (Run.holding (ht F fk σ₁ ρ₁ s₁ a wa rel₁ ra))

theorem simB_not {e : Expr} {m : M Bool} (pos : Pos) (he : SimB K F e m) : SimB K F (.UnaryOp .Not e pos) (do let b ← m; pure (!b)) := by
  intro σ ρ s rel
  show Run K F (do return !(← isTrue e F.env (eval e F.env))) BRep _ ρ s
  refine Run.bind (he σ ρ s rel) fun b σ₁ ρ₁ s₁ wb _ rel₁ x₁ rb => ?_
  have : wb = b := rb
  subst this
  exact Run.pure rel₁ rfl

noncomputable def SimAll (K : Glo) (F : Frm) (op : BoolOp) (es : List Expr) (m : M Bool) : Prop := ∀ σ ρ s, Rel K F σ ρ s → Run K F (allTrue op es F.env) BRep (m σ) ρ s
theorem simAll_and_nil : SimAll K F .And [] (pure true) := fun _ _ _ rel => Run.pure rel rfl
theorem simAll_or_nil : SimAll K F .Or [] (pure false) := fun _ _ _ rel => Run.pure rel rfl
theorem simAll_and {e : Expr} {es : List Expr} {m ms : M Bool} (he : SimB K F e m) (hs : SimAll K F .And es ms) : SimAll K F .And (e :: es) (do if (← m) = true then ms else pure false) := by
  intro σ ρ s rel
  show Run K F (do match BoolOp.And, ← isTrue e F.env (eval e F.env) with
    | .And, false => pure false
    | .Or, true => pure true
    | _, _ => allTrue .And es F.env) BRep _ ρ s
  refine Run.bind (he σ ρ s rel) fun b σ₁ ρ₁ s₁ wb _ rel₁ x₁ rb => ?_
  have : wb = b := rb
  subst this
  cases wb with
  | false => simp only [Bool.false_eq_true, if_false]; exact Run.pure rel₁ rfl
  | true => simp only [if_true]; exact hs σ₁ ρ₁ s₁ rel₁
theorem simAll_or {e : Expr} {es : List Expr} {m ms : M Bool} (he : SimB K F e m) (hs : SimAll K F .Or es ms) : SimAll K F .Or (e :: es) (do if (← m) = true then pure true else ms) := by
  intro σ ρ s rel
  show Run K F (do match BoolOp.Or, ← isTrue e F.env (eval e F.env) with
    | .And, false => pure false
    | .Or, true => pure true
    | _, _ => allTrue .Or es F.env) BRep _ ρ s
  refine Run.bind (he σ ρ s rel) fun b σ₁ ρ₁ s₁ wb _ rel₁ x₁ rb => ?_
  have : wb = b := rb
  subst this
  cases wb with
  | false => simp only [Bool.false_eq_true, if_false]; exact hs σ₁ ρ₁ s₁ rel₁
  | true => simp only [if_true]; exact Run.pure rel₁ rfl
theorem simB_boolop {op : BoolOp} {es : List Expr} {m : M Bool} (pos : Pos) (h : SimAll K F op es m) : SimB K F (.BoolOp op es pos) m := fun σ ρ s rel => h σ ρ s rel

theorem simE_ite {test body orelse : Expr} {mt : M Bool} {mb mo : M V} (pos : Pos) (ht : SimB K F test mt) (hb : SimE K F body mb) (ho : SimE K F orelse mo) :
    SimE K F (.IfExp test body orelse pos) (do if (← mt) = true then mb else mo) := by
  intro σ ρ s rel
  show Run K F (do if ← isTrue test F.env (eval test F.env) then eval body F.env else eval orelse F.env) (Rep K) _ ρ s
  refine Run.bind (ht σ ρ s rel) fun b σ₁ ρ₁ s₁ wb _ rel₁ x₁ rb => ?_
  have : wb = b := rb
  subst this
  cases wb with
  | false => simp only [Bool.false_eq_true, if_false]; exact ho σ₁ ρ₁ s₁ rel₁
  | true => simp only [if_true]; exact hb σ₁ ρ₁ s₁ rel₁

/-! ### several expressions -/
noncomputable def SimEs (K : Glo) (F : Frm) (es : List Expr) (m : M (List V)) : Prop := ∀ (pos : Pos) σ ρ s, Rel K F σ ρ s → Run K F (spliced (backTo pos (starEach es F.env))) (RepL K) (m σ) ρ s
theorem simEs_nil : SimEs K F [] (pure []) := fun _ _ _ _ rel => Run.pure rel RepL.nil
theorem spliced_cons_eq (x : Sem Value) (rest : List (Bool × Sem Value)) : spliced ((false, x) :: rest) = (do let v ← x; let vs ← holding [v] (spliced rest); pure ([v] ++ vs)) := by
  rfl
theorem simEs_cons {e : Expr} {es : List Expr} {m : M V} {ms : M (List V)} (he : SimE K F e m) (hs : SimEs K F es ms)
    (hst : starEach (e :: es) F.env = (false, eval e F.env) :: starEach es F.env := by rfl) : SimEs K F (e :: es) (do let v ← m; let vs ← ms; pure (v :: vs)) := by
  intro pos σ ρ s rel
  rw [hst]
  show Run K F (spliced ((false, eval e F.env) :: backTo pos (starEach es F.env))) _ _ ρ s
  rw [spliced_cons_eq]
  refine Run.bind (he σ ρ s rel) fun a σ₁ ρ₁ s₁ wa _ rel₁ x₁ ra => ?_
  refine Run.bind (Run.holding (hs pos σ₁ ρ₁ s₁ rel₁)) fun b σ₂ ρ₂ s₂ wb _ rel₂ x₂ rb => ?_
  exact Run.pure rel₂ (RepL.cons (ra.mono x₂) rb)

/-! ### displays -/
noncomputable def newL (vs : List V) : M V := fun σ => if vs.length ≤ 1000000 then .ok (.obj σ.st.length) { σ with st := σ.st ++ [.lst vs] } else .stuck
theorem sizeLine_ge {n : Nat} (h : n ≤ 1000000) : n ≤ sizeLine := by rw [sizeLine_eq]; (first | lia | omega)

theorem run_newList {σ : S} {ρ : List Addr} {s : Shared} {vs : List V} {ws : List Value} (rel : Rel K F σ ρ s) (r : RepL K s.heap ρ vs ws) : Run K F (newList ws) (Rep K) (newL vs σ) ρ s := by
  unfold newL
  by_cases hn : vs.length ≤ 1000000
  · rw [if_pos hn]
    obtain ⟨rel', x⟩ := rel.newList (o := { cls := .type "list", data := .seq ws.toArray }) rfl r hn s.toks
    refine Run.ok (wpAny_newList ⟨_, rel', x, ?_⟩ (sizeLine_ge (by rw [r.length]; exact hn)))
    refine Rep.obj_iff.mpr ⟨_, ?_, rfl⟩
    rw [← rel.len, List.getElem?_concat_length]
  · rw [if_neg hn]; exact Run.stuck

theorem simE_list {es : List Expr} {ms : M (List V)} (pos : Pos) (hs : SimEs K F es ms) : SimE K F (.List es pos) (do let vs ← ms; newL vs) := by
  intro σ ρ s rel
  show Run K F (do standAt pos; newList (← spliced (backTo pos (starEach es F.env)))) (Rep K) _ ρ s
  refine Run.standAt (Run.bind (hs pos σ ρ s rel) fun a σ₁ ρ₁ s₁ wa _ rel₁ x₁ ra => ?_)
  exact run_newList rel₁ ra

theorem run_newTuple {σ : S} {ρ : List Addr} {s : Shared} {vs : List V} {ws : List Value} (rel : Rel K F σ ρ s) (r : RepL K s.heap ρ vs ws) (hn : vs.length ≤ 1000000) : Run K F (newTuple ws) (Rep K) (.ok (.tup vs) σ) ρ s := by
  have x : Ext F.mine ρ ρ s.heap (s.heap.push { cls := .type "tuple", data := .seq ws.toArray }) := Ext.push _
  refine Run.ok (wpAny_newTuple ⟨ρ, rel.push _ s.toks, x, ?_⟩ (sizeLine_ge (by rw [r.length]; exact hn)))
  exact Rep.tup_iff.mpr ⟨hn, _, ws, rfl, IsTup.new _ _, r.mono x⟩

noncomputable def mkT (vs : List V) : M V := fun σ => if vs.length ≤ 1000000 then .ok (.tup vs) σ else .stuck
theorem simE_tuple {es : List Expr} {ms : M (List V)} (k : Nat) (pos : Pos) (hs : SimEs K F es ms) : SimE K F (.Tuple es k pos) (do let vs ← ms; mkT vs) := by
  intro σ ρ s rel
  show Run K F (do standAt pos; newTuple (← spliced (backTo pos (starEach es F.env)))) (Rep K) _ ρ s
  refine Run.standAt (Run.bind (hs pos σ ρ s rel) fun a σ₁ ρ₁ s₁ wa _ rel₁ x₁ ra => ?_)
  unfold mkT
  split
  · exact run_newTuple rel₁ ra ‹_›
  · exact Run.stuck

/-! ### statements -/
theorem simSs_nil : SimSs K F [] (pure .next) := fun _ _ _ rel => Run.pure rel rfl
noncomputable def seqM (a b : M Fl) : M Fl := do
  match ← a with
  | .next => b
  | f => pure f
theorem simSs_cons {st : Stmt} {sts : List Stmt} {m ms : M Fl} (h : SimS K F st m) (hs : SimSs K F sts ms) : SimSs K F (st :: sts) (seqM m ms) := by
  intro σ ρ s rel
  show Run K F (do match ← exec st F.env with | .next => execs sts F.env | f => pure f) _ _ ρ s
  refine Run.bind (h σ ρ s rel) fun f σ₁ ρ₁ s₁ wf _ rel₁ x₁ rf => ?_
  cases f with
  | next => have : wf = .next := rf; subst this; exact hs σ₁ ρ₁ s₁ rel₁
  | brk => have : wf = .brk := rf; subst this; exact Run.pure rel₁ rfl
  | cont => have : wf = .cont := rf; subst this; exact Run.pure rel₁ rfl
  | ret v => obtain ⟨w, e, r⟩ := rf; subst e; exact Run.pure rel₁ ⟨w, rfl, r⟩
theorem simSs_one {st : Stmt} {m : M Fl} (h : SimS K F st m) : SimSs K F [st] m := by
  intro σ ρ s rel
  have := simSs_cons h simSs_nil σ ρ s rel
  have e : seqM m (pure .next) σ = m σ := by
    unfold seqM
    rw [M.bind_def]
    cases m σ with
    | stuck => rfl
    | exc x y => rfl
    | ok f y => cases f <;> rfl
  rw [e] at this; exact this

theorem simS_break (pos : Pos) : SimS K F (.Break pos) (pure .brk) := fun _ _ _ rel => Run.standAt (Run.pure rel rfl)
theorem simS_continue (pos : Pos) : SimS K F (.Continue pos) (pure .cont) := fun _ _ _ rel => Run.standAt (Run.pure rel rfl)
theorem simS_return {e : Expr} {m : M V} (pos : Pos) (h : SimE K F e m) : SimS K F (.Return (some e) pos) (do let v ← m; pure (.ret v)) := by
  intro σ ρ s rel
  rw [exec_Return_some]
  exact Run.standAt (Run.bind (h σ ρ s rel) fun v σ₁ ρ₁ s₁ w _ rel₁ x₁ r => Run.pure rel₁ ⟨w, rfl, r⟩)
theorem simS_if {test : Expr} {body orelse : List Stmt} {mt : M Bool} {mb mo : M Fl} (pos : Pos) (ht : SimB K F test mt) (hb : SimSs K F body mb) (ho : SimSs K F orelse mo) :
    SimS K F (.If test body orelse pos) (do if (← mt) = true then mb else mo) := by
  intro σ ρ s rel
  rw [exec_If]
  refine Run.standAt (Run.bind (ht σ ρ s rel) fun b σ₁ ρ₁ s₁ wb _ rel₁ x₁ rb => ?_)
  have : wb = b := rb
  subst this
  cases wb with
  | false => simp only [Bool.false_eq_true, if_false]; exact ho σ₁ ρ₁ s₁ rel₁
  | true => simp only [if_true]; exact hb σ₁ ρ₁ s₁ rel₁

theorem interactive_of (fk : FOk F) : interactive F.env = false := by
  unfold interactive; rw [fk.kind]; rfl
theorem run_dropValue {e : Expr} {pos : Pos} {v : Value} {σ : S} {ρ : List Addr} {s : Shared} (rel : Rel K F σ ρ s) : Run K F (dropValue e pos v) (FlRep K) (.ok .next σ) ρ s :=
  Run.ok (wpAny_dropValue ⟨ρ, rel, Ext.refl .., rfl⟩)
theorem simS_expr (fk : FOk F) {e : Expr} {m : M V} (pos : Pos) (h : SimE K F e m) (hs : swapsWith e none pos.line F.env = pure false := by rfl) :
    SimS K F (.Expr e pos) (do let _ ← m; pure .next) := by
  intro σ ρ s rel
  rw [exec_Expr F.env e pos (interactive_of fk) hs]
  exact Run.standAt (Run.bind (h σ ρ s rel) fun v σ₁ ρ₁ s₁ w _ rel₁ x₁ r => run_dropValue rel₁)

theorem simT_local (x : String) (pos : Pos) (fk : FOk F) (hk : F.env.kindOf (Str.ofString x) = some .local) : SimT K F (.Name (Str.ofString x) pos) (fun v => setv x v) := by
  intro σ ρ s v w rel r
  refine Run.ok (wpAny_assign_Name ?_)
  obtain ⟨m, hm⟩ := rel.loc
  refine wpAny_storeName_local hk hm (fun h' hn hs => ?_) (by rw [fk.kind]; rfl)
  obtain ⟨rel', x'⟩ := rel.setLocal (s' := { s with heap := h', toks := s.toks + 1 }) hk hm hn hs r rfl rfl
  exact ⟨ρ, rel', x', trivial⟩
theorem simT_cell (x : String) (pos : Pos) (fk : FOk F) {c : Addr} (hk : F.env.kindOf (Str.ofString x) = some .cell) (hc : F.env.cells.lookup (Str.ofString x) = some c) (hm : c ∈ F.mine)
    (hinj : ∀ y, F.env.cells.lookup y = some c → y = Str.ofString x) : SimT K F (.Name (Str.ofString x) pos) (fun v => setv x v) := by
  intro σ ρ s v w rel r
  refine Run.ok (wpAny_assign_Name ?_)
  obtain ⟨v₀, h0⟩ := rel.cels _ _ hc
  refine wpAny_storeName_cell fk.kind hk hc h0 (fun h' hn hs => ?_)
  obtain ⟨rel', x'⟩ := rel.setCell (s' := { s with heap := h' }) hk hc hm hinj h0 hn hs r rfl rfl
  exact ⟨ρ, rel', x', trivial⟩

theorem exec_Assign1 (env : Env) (targets : List Expr) (value : Expr) (pos : Pos) : exec (.Assign targets value pos) env = (do
    standAt pos
    if ← swapsWithSole targets value pos.line env then do
      evalThenUse value env fun v => assignAll v ((assignEach targets env).map (·.2))
      pure .next
    else do
      let v ← eval value env
      assignStores env v (← swappedStores targets value env) ((assignEach targets env).map (·.2))) := by rfl
theorem pureBind {α β : Type} (a : α) (f : α → Sem β) : (pure a >>= f) = f a := rfl

/-- target = value, the target no tuple -/
theorem simS_assign {t e : Expr} {mt : V → M Unit} {m : M V} (pos : Pos) (ht : SimT K F t mt) (h : SimE K F e m)
    (hs : swapsWith e (some t) pos.line F.env = pure false := by rfl) (hsw : swappedStores [t] e F.env = pure none := by rfl)
    (hst : assignEach [t] F.env = [(false, assign t F.env)] := by rfl) :
    SimS K F (.Assign [t] e pos) (do let v ← m; mt v; pure .next) := by
  intro σ ρ s rel
  rw [exec_Assign1]
  refine Run.standAt ?_
  rw [show swapsWithSole [t] e pos.line F.env = pure false from hs, pureBind, if_neg Bool.false_ne_true]
  refine Run.bind (h σ ρ s rel) fun v σ₁ ρ₁ s₁ w _ rel₁ x₁ r => ?_
  rw [hsw, hst, pureBind]
  show Run K F (do assign t F.env w; (pure Flow.next : Sem Flow)) _ _ ρ₁ s₁
  exact Run.bind (ht σ₁ ρ₁ s₁ v w rel₁ r) fun _ σ₂ ρ₂ s₂ _ _ rel₂ _ _ => Run.pure rel₂ rfl

end

/-! part F4 -/
set_option autoImplicit false
set_option maxRecDepth 100000
open PySem PySem.W PyProof.Rows
section
variable {K : Glo} {F : Frm}

noncomputable def QO {α β : Type} (K : Glo) (F : Frm) (R : Heap → List Addr → β → α → Prop) (out : Res S β) (ρ : List Addr) (h : Heap) : α → Shared → Prop :=
  fun a s' => ∃ b σ' ρ', out = .ok b σ' ∧ Rel K F σ' ρ' s' ∧ Ext F.mine ρ ρ' h s'.heap ∧ R s'.heap ρ' b a
noncomputable def EO {β : Type} (K : Glo) (F : Frm) (out : Res S β) (ρ : List Addr) (h : Heap) : Value → Shared → Prop :=
  fun v s' => ∃ e σ' ρ', out = .exc e σ' ∧ Rel K F σ' ρ' s' ∧ Ext F.mine ρ ρ' h s'.heap ∧ XRep K F e h v s'

theorem Run.wp {α β : Type} {t : Sem α} {R : Heap → List Addr → β → α → Prop} {out : Res S β} {ρ : List Addr} {s : Shared} (h : Run K F t R out ρ s) (hne : out ≠ .stuck) :
    wpAny (model K.prog K.w) F.A t (QO K F R out ρ s.heap) (EO K F out ρ s.heap) s := by
  cases out with
  | stuck => exact absurd rfl hne
  | ok b σ' => exact wpAny_mono h (fun a s' ⟨ρ', h1, h2, h3⟩ => ⟨b, σ', ρ', rfl, h1, h2, h3⟩) fun _ _ h => h.elim
  | exc e σ' => exact wpAny_mono h (fun _ _ h => h.elim) fun a s' ⟨ρ', h1, h2, h3⟩ => ⟨e, σ', ρ', rfl, h1, h2, h3⟩
theorem Run.of_wp {α β : Type} {t : Sem α} {R : Heap → List Addr → β → α → Prop} {out : Res S β} {ρ : List Addr} {s : Shared}
    (h : out ≠ .stuck → wpAny (model K.prog K.w) F.A t (QO K F R out ρ s.heap) (EO K F out ρ s.heap) s) : Run K F t R out ρ s := by
  cases out with
  | stuck => trivial
  | ok b σ' =>
    refine wpAny_mono (h (by simp)) (fun a s' hq => ?_) fun a s' he => ?_
    · obtain ⟨b', σ'', ρ', e, h1, h2, h3⟩ := hq; cases e; exact ⟨ρ', h1, h2, h3⟩
    · obtain ⟨_, _, _, e, _⟩ := he; cases e
  | exc x σ' =>
    refine wpAny_mono (h (by simp)) (fun a s' hq => ?_) fun a s' he => ?_
    · obtain ⟨_, _, _, e, _⟩ := hq; cases e
    · obtain ⟨b', σ'', ρ', e, h1, h2, h3⟩ := he; cases e; exact ⟨ρ', h1, h2, h3⟩

/-- a step of a loop: what the outcome does not tell is told by what comes after -/
theorem Run.stepW {α β γ : Type} {t : Sem α} {R : Heap → List Addr → β → α → Prop} {m : M β} {f : β → M γ} {σ : S} {out : Res S γ} {ρ ρ₀ : List Addr} {h₀ : Heap} {s : Shared} {Q : α → Shared → Prop} {E : Value → Shared → Prop}
    (r : Run K F t R (m σ) ρ s) (x : Ext F.mine ρ₀ ρ h₀ s.heap) (hne : out ≠ .stuck) (e : (m >>= f) σ = out) (hE : ∀ {v s'}, EO K F out ρ₀ h₀ v s' → E v s')
    (k : ∀ b σ' ρ' a s', f b σ' = out → Rel K F σ' ρ' s' → Ext F.mine ρ ρ' s.heap s'.heap → Ext F.mine ρ₀ ρ' h₀ s'.heap → R s'.heap ρ' b a → Q a s') : wpAny (model K.prog K.w) F.A t Q E s := by
  subst e
  rw [M.bind_def] at hne
  refine wpAny_mono (r.wp fun q => hne (by rw [q])) (fun a s' hq => ?_) fun v s' hq => hE ?_
  · obtain ⟨b, σ', ρ', e, rel, y, ra⟩ := hq
    exact k b σ' ρ' a s' (M.bind_ok e).symm rel y (x.trans y) ra
  · obtain ⟨b, σ', ρ', e, rel, y, ra⟩ := hq
    exact ⟨b, σ', ρ', by rw [M.bind_def, e], rel, x.trans y, ra.up x⟩


theorem noteFrame_congr {e : Value} {env env' : Env} (h : env.frame = env'.frame) : noteFrame e env = noteFrame e env' := by
  unfold noteFrame PySem.frameOf
  rw [h]
theorem FramesOk.fun_ {h : Heap} {l : List Env} (x : FramesOk K h l) : h.FunFrames K.base l := by
  induction l with
  | nil => trivial
  | cons env l ih =>
    obtain ⟨k, L, o, es, n, f, b, g, d⟩ := x env List.mem_cons_self
    exact ⟨k, ⟨L, o, f, b, g, fun vs q => by rw [d] at q; cases q⟩, ih fun e he => x e (List.mem_cons_of_mem _ he)⟩
theorem FramesOk.mem_frame {h : Heap} {l : List Env} (x : FramesOk K h l) {b : Addr} (hb : b ∈ l.filterMap (·.frame)) : K.base.get? b = none ∧ ∃ o es n, h.get? b = some o ∧ o.data = .dict es n := by
  obtain ⟨env, he, f⟩ := List.mem_filterMap.mp hb
  obtain ⟨k, L, o, es, n, f', bb, g, d⟩ := x env he
  rw [f'] at f; cases f
  exact ⟨bb, o, es, n, g, d⟩

/-- what noting changes: the exception's own objects X, and slots of frames -/
noncomputable def Hid0 (h : Heap) (b : Addr) : Prop := ∃ o vs, h.get? b = some o ∧ o.data = .fields vs ∧ o.cls ≠ .type "range"
structure Noted (K : Glo) (F : Frm) (X : List Addr) (h h' : Heap) : Prop where
  own : ∀ b ∈ X, K.base.get? b = none ∧ b ∉ F.mine ∧ (h.get? b = none ∨ Hid0 h b)
  keep : ∀ b o, b ∉ X → h.get? b = some o → ∃ o', h'.get? b = some o' ∧ Like o o' ∧ (K.base.get? b ≠ none → o' = o)
  live : ∀ b ∈ X, ∃ o, h'.get? b = some o
theorem Noted.apart {X : List Addr} {h h' : Heap} (x : Noted K F X h h') {b : Addr} {o : Obj} (g : h.get? b = some o) (hd : (∀ vs, o.data ≠ .fields vs) ∨ o.cls = .type "range") : b ∉ X := fun hb => by
  rcases (x.own b hb).2.2 with q | ⟨o', vs, q, d, c⟩
  · rw [g] at q; cases q
  · rw [g] at q; cases q
    rcases hd with hd | hd
    · exact hd vs d
    · exact c hd
theorem Noted.same {X : List Addr} {h h' : Heap} (x : Noted K F X h h') {b : Addr} {o : Obj} (g : h.get? b = some o) (hd : (∀ vs, o.data ≠ .fields vs) ∨ o.cls = .type "range") (hn : ∀ es n, o.data ≠ .dict es n) : h'.get? b = some o := by
  obtain ⟨o', g', l, _⟩ := x.keep b o (x.apart g hd) g
  rw [g', l.same hn]
theorem Noted.froz {X : List Addr} {h h' : Heap} (x : Noted K F X h h') (b : Addr) (o : Obj) (g : h.get? b = some o) (f : Froz o) : h'.get? b = some o := by
  rcases f with ⟨_, xs, n, d⟩ | ⟨c, vs, d⟩
  · exact x.same g (.inl fun vs q => by rw [d] at q; cases q) fun es n q => by rw [d] at q; cases q
  · exact x.same g (.inr c) fun es n q => by rw [d] at q; cases q
theorem Noted.base {X : List Addr} {h h' : Heap} (x : Noted K F X h h') {b : Addr} {o : Obj} (hb : K.base.get? b = some o) (g : h.get? b = some o) : h'.get? b = some o := by
  have hn : b ∉ X := fun q => by have := (x.own b q).1; rw [hb] at this; cases this
  obtain ⟨o', g', _, q⟩ := x.keep b o hn g
  rw [g', q (by rw [hb]; exact fun q => by cases q)]
theorem GRel.noted {st : Store} {ρ : List Addr} {s s' : Shared} {X : List Addr} (rel : GRel K st ρ s) (x : Noted K F X s.heap s'.heap) (hg : s'.gens = s.gens) (ho : s'.os = s.os) : GRel K st ρ s' where
  gens := hg.trans rel.gens
  os := ho.trans rel.os
  base := fun b o e => x.base e (rel.base b o e)
  len := rel.len
  cell := fun l b c h1 h2 => by
    refine (rel.cell l b c h1 h2).mono (List.prefix_refl _) x.froz fun it n y => ?_
    exact x.same y (.inl fun vs q => by cases q) fun es n q => by cases q
  nodup := rel.nodup
  above := rel.above
theorem Ext.noted {ρ ρ₀ X : List Addr} {h h₀ h' : Heap} (y : Ext F.mine ρ₀ ρ h₀ h) (x : Noted K F X h h') (hf : ∀ b ∈ X, h₀.get? b = none) : Ext F.mine ρ₀ ρ h₀ h' where
  pre := y.pre
  alive := fun b o e => by
    obtain ⟨o', e'⟩ := y.alive b o e
    obtain ⟨o2, e2, _⟩ := x.keep b o' (fun q => by rw [hf b q] at e; cases e) e'
    exact ⟨o2, e2⟩
  new := y.new
  keep := fun b o e n1 n2 => by
    obtain ⟨o', e', l⟩ := y.keep b o e n1 n2
    obtain ⟨o2, e2, l2, _⟩ := x.keep b o' (fun q => by rw [hf b q] at e; cases e) e'
    exact ⟨o2, e2, l.trans l2⟩
  froz := fun b o e f => x.froz b o (y.froz b o e f) f
theorem Rel.noted {σ : S} {ρ : List Addr} {s s' : Shared} {X : List Addr} (rel : Rel K F σ ρ s) (x : Noted K F X s.heap s'.heap) (hg : s'.gens = s.gens) (ho : s'.os = s.os) : Rel K F σ ρ s' := by
  have hns : ∀ {a : Addr} {m : Str → Option Value}, s.heap.Ns a m → s'.heap.Ns a m := by
    intro a m n
    obtain ⟨o, es, ep, g, d, k, f⟩ := n
    obtain ⟨o', g', l, _⟩ := x.keep a o (x.apart g (.inl fun vs q => by rw [d] at q; cases q)) g
    exact ⟨o', es, ep, g', l.data.1.trans d, k, f⟩
  have hcell : ∀ {c : Addr} {v : Option Value}, s.heap.IsCell c v → s'.heap.IsCell c v := by
    intro c v n
    obtain ⟨o, g, d⟩ := n
    exact ⟨o, x.same g (.inl fun vs q => by rw [d] at q; cases q) (fun es n q => by rw [d] at q; cases q), d⟩
  refine { toGRel := rel.toGRel.noted x hg ho, vars := ?_, loc := ?_, cels := ?_, mineAbove := ?_, mineApart := rel.mineApart, mineLoc := rel.mineLoc, frs := ?_ }
  · intro y u e
    obtain ⟨w, h1, h2⟩ := rel.vars y u e
    exact ⟨w, h1.mono (fun m n => hns n) (fun c u _ n => hcell n), Rep.mono' (List.prefix_refl _) x.froz h2⟩
  · obtain ⟨m, n⟩ := rel.loc; exact ⟨m, hns n⟩
  · intro y c e; obtain ⟨v, n⟩ := rel.cels y c e; exact ⟨v, hcell n⟩
  · intro b hb
    obtain ⟨h1, o, h2⟩ := rel.mineAbove b hb
    obtain ⟨o', g', _⟩ := x.keep b o (fun q => (x.own b q).2.1 hb) h2
    exact ⟨h1, o', g'⟩
  · refine rel.frs.next fun b o es n g d => ?_
    obtain ⟨o', g', l, _⟩ := x.keep b o (x.apart g (.inl fun vs q => by rw [d] at q; cases q)) g
    exact ⟨o', es, n, g', l.data.1.trans d⟩

/-- the new entry of a trace -/
theorem wp_entry {A : Around} {s : Shared} {env₀ : Env} {outer : List Env} {L a : Addr} {oe : Obj} {vs : Array Value} {head : Value} {hadNext : Bool} {Q : Unit → Shared → Prop} {E : Value → Shared → Prop}
    (hfr : A.frames = some (env₀ :: outer)) (hl : FramesOk K s.heap (env₀ :: outer)) (hf : env₀.frame = some L) (he : s.heap.get? a = some oe) (hd : oe.data = .fields vs) (hsz : 1 < vs.size)
    (h : ∀ h' T oT ts, s.heap.get? T = none → h'.get? T = some oT → oT.data = .fields ts → oT.cls = .type "traceback" → ts[3]? = some (rawInt L) → T ≠ a → h'.get? a = some (oe.mapFields (·.setIfInBounds 1 (.ref T))) →
      (∀ b o, b ≠ a → s.heap.get? b = some o → ∃ o', h'.get? b = some o' ∧ Like o o' ∧ (K.base.get? b ≠ none → o' = o)) → Q () { s with heap := h' }) :
    wpAny (model K.prog K.w) A (do let f ← PySem.frameOf env₀; let pl ← entryPlaceOf L hadNext; let b ← EntryCells.newEntry head f .none (rawInt L) .none pl; setField (.ref a) 1 b) Q E s := by
  have hane : a ∉ (env₀ :: outer).filterMap (·.frame) := fun hm => by
    obtain ⟨_, o, es, n, ho, hdd⟩ := hl.mem_frame hm
    rw [he] at ho; cases ho; rw [hd] at hdd; cases hdd
  refine wpAny_bind (wpAny_frameOf_fun hfr hl.fun_ hf fun h₁ hs₁ => ?_)
  refine wpAny_bind (wpAny_entryPlaceOf fun pl hpl => ?_)
  unfold EntryCells.newEntry newFields
  refine wpAny_bind (wpAny_newObj_type ?_ (hpl.sizeOk5 _ _ _ _ _))
  have he₁ : h₁.get? a = some oe := (hs₁.2.1 a hane).trans he
  have he₂ := Heap.get?_push_of_some (h := h₁) { cls := .type "traceback", dict := none, data := .fields ([head, .ref L, .none, rawInt L, .none] ++ (if pl.isEmpty then List.replicate 6 Value.none else pl)).toArray } he₁
  refine wpAny_setField he₂ hd hsz ?_
  have hTa : h₁.objs.size ≠ a := Nat.ne_of_gt (Heap.lt_size he₁)
  have hd₃ := Obj.data_mapFields hd (·.setIfInBounds 1 (Value.ref h₁.objs.size))
  refine h _ h₁.objs.size _ _ (Heap.get?_none_of_le (by rw [hs₁.1]; exact Nat.le_refl _)) ((Heap.get?_update_other _ _ (Ne.symm hTa)).trans (Heap.get?_push_size h₁ rfl)) rfl rfl ?_ hTa (Heap.get?_update_self _ he₂ (Obj.isFreed_of_fields hd₃)) ?_
  · first | (simp; done) | (rcases hpl with rfl | ⟨_, _, _, _, _, _, _, rfl⟩ <;> simp)
  · intro b o hba g
    obtain ⟨sl, g1⟩ := hs₁.2.2 b o g
    refine ⟨{ o with slots := sl }, ?_, ?_, ?_⟩
    · rw [Heap.get?_update_other _ _ (Ne.symm hba)]
      exact Heap.get?_push_of_some _ g1
    · by_cases hm : b ∈ (env₀ :: outer).filterMap (·.frame)
      · obtain ⟨_, o', es, n, ho, hdd⟩ := hl.mem_frame hm
        rw [g] at ho; cases ho
        exact .inr ⟨⟨es, n, hdd⟩, sl, rfl⟩
      · have := hs₁.2.1 b hm
        rw [g1, g] at this
        exact .inl (Option.some.inj this)
    · intro hb
      have hm : b ∉ (env₀ :: outer).filterMap (·.frame) := fun hm => hb (hl.mem_frame hm).1
      have := hs₁.2.1 b hm
      rw [g1, g] at this
      exact Option.some.inj this

/-- the frame notes an exception that goes through one of its blocks -/
theorem XRepB.noted {n : Bool} {e : Exc} {ρ ρ₀ : List Addr} {h₀ : Heap} {v : Value} {s : Shared} {σ : S} {Q : Unit → Shared → Prop} {E : Value → Shared → Prop} (x : XRepB n K F e h₀ v s) (rel : Rel K F σ ρ s) (ext : Ext F.mine ρ₀ ρ h₀ s.heap)
    (h : ∀ s', Rel K F σ ρ s' → Ext F.mine ρ₀ ρ h₀ s'.heap → XRepN K F e h₀ v s' → Q () s') : wpAny (model K.prog K.w) F.A (noteFrame v F.env) Q E s := by
  obtain ⟨X, hfresh, hX, hcls, a, t, tok, oe, vs, rfl, haX, ht, ha, hc, hd, h0, hst⟩ := x
  obtain ⟨env₀, outer, hfr, hfe, hfok⟩ := rel.frs
  obtain ⟨hk0, L, oL, esL, nL, hL, hLb, hLg, hLd⟩ := hfok env₀ List.mem_cons_self
  have hFL : F.env.frame = some L := by rw [← hfe]; exact hL
  have hidA : Hid0 s.heap a := ⟨oe, vs, ha, hd, by rw [hc]; intro q; injection q with q; exact hcls q⟩
  have hsz : 0 < vs.size := (Array.getElem?_eq_some_iff.mp h0).1
  have fresh0 : ∀ b, s.heap.get? b = none → h₀.get? b = none ∧ K.base.get? b = none ∧ b ∉ F.mine := by
    intro b hb
    refine ⟨?_, ?_, ?_⟩
    · cases q : h₀.get? b with
      | none => rfl
      | some o => obtain ⟨o', q'⟩ := ext.alive b o q; rw [hb] at q'; cases q'
    · cases q : K.base.get? b with
      | none => rfl
      | some o => have := rel.base b o q; rw [hb] at this; cases this
    · intro q
      obtain ⟨_, o, g⟩ := rel.mineAbove b q
      rw [hb] at g; cases g
  have htne : ∀ {h' : Heap}, (∀ o, Froz o → s.heap.get? t = some o → h'.get? t = some o) → IsTup h' t #[.str e.msg tok] := by
    intro h' hh
    obtain ⟨o, g, c, n, d⟩ := ht
    exact ⟨o, hh o (.inl ⟨c, _, n, d⟩) g, c, n, d⟩
  rw [noteFrame_congr (env' := env₀) hfe.symm]
  -- behind the new entry
  have fin : ∀ (s₁ : Shared) (X₁ : List Addr) (vs1 : vs.size > 1), s₁.gens = s.gens → s₁.os = s.os → (∀ b ∈ X₁, b ∈ X ∧ Hid0 s.heap b) → a ∈ X₁ → s₁.heap.get? a = some oe → (∀ b ∈ X₁, ∃ o, s₁.heap.get? b = some o) → (∀ b o, b ∉ X₁ → s.heap.get? b = some o → s₁.heap.get? b = some o) →
      (∀ b, s.heap.get? b = none → s₁.heap.get? b = none) → (∀ b, s₁.heap.get? b = none → s.heap.get? b = none) → FramesOk K s₁.heap (env₀ :: outer) → ∀ (head : Value) (hadNext : Bool),
      wpAny (model K.prog K.w) F.A (do let f ← PySem.frameOf env₀; let pl ← entryPlaceOf L hadNext; let b ← EntryCells.newEntry head f .none (rawInt L) .none pl; setField (.ref a) 1 b) Q E s₁ := by
    intro s₁ X₁ hsz1 hg1 ho1 hX1 haX1 ha1 hlive1 hkeep1 hnone1 hnone2 hfr1 head hadNext
    refine wp_entry hfr hfr1 hL ha1 hd hsz1 fun h' T oT ts hT hT' hTd hTc hT3 hTa ha' hkeep' => ?_
    obtain ⟨f1, f2, f3⟩ := fresh0 T (hnone2 T hT)
    have hnoted : Noted K F (T :: X₁) s.heap h' := by
      refine ⟨fun b hb => ?_, fun b o hb g => ?_, fun b hb => ?_⟩
      · rcases List.mem_cons.mp hb with rfl | hb
        · exact ⟨f2, f3, .inl (hnone2 _ hT)⟩
        · exact ⟨(hX b (hX1 b hb).1).1, (hX b (hX1 b hb).1).2, .inr (hX1 b hb).2⟩
      · have hb1 : b ∉ X₁ := fun q => hb (List.mem_cons_of_mem _ q)
        have hba : b ≠ a := fun q => hb1 (q ▸ haX1)
        exact hkeep' b o hba (hkeep1 b o hb1 g)
      · rcases List.mem_cons.mp hb with rfl | hb
        · exact ⟨_, hT'⟩
        · by_cases hba : b = a
          · subst hba; exact ⟨_, ha'⟩
          · obtain ⟨o, g⟩ := hlive1 b hb
            obtain ⟨o', g', _⟩ := hkeep' b o hba g
            exact ⟨o', g'⟩
    have hfr0 : ∀ b ∈ T :: X₁, h₀.get? b = none := by
      intro b hb
      rcases List.mem_cons.mp hb with rfl | hb
      · exact f1
      · exact hfresh b (hX1 b hb).1
    refine h { s₁ with heap := h' } (rel.noted hnoted hg1 ho1) (ext.noted hnoted hfr0) ⟨T :: X₁, hfr0, fun b hb => ⟨(hnoted.own b hb).1, (hnoted.own b hb).2.1⟩, hcls, a, t, tok, _, _, rfl, List.mem_cons_of_mem _ haX1, htne fun o f g => hnoted.froz t o g f, ha', (Obj.cls_mapFields ..).trans hc, Obj.data_mapFields hd _, ?_, .inr ⟨T, oT, ts, rawInt L, List.mem_cons_self, hTa, ?_, hT', hTd, hTc, hT3, .inr ⟨L, hFL, rfl⟩⟩⟩
    · rw [Array.getElem?_setIfInBounds_ne (by decide)]; exact h0
    · simp [hsz1]
  unfold noteFrame
  simp only [hL]
  rcases hst with ⟨_, h1⟩ | ⟨T, oT, ts, fl, hTX, hTa, h1, hTg, hTd, hTc, hT3, hfl⟩
  · have hsz1 : 1 < vs.size := (Array.getElem?_eq_some_iff.mp h1).1
    refine wpAny_bind (wpAny_field ha hd h1 ?_)
    rw [if_neg (by decide)]
    exact fin s [a] hsz1 rfl rfl (fun b hb => by rw [List.mem_singleton.mp hb]; exact ⟨haX, hidA⟩) (by simp) ha (fun b hb => by rw [List.mem_singleton.mp hb]; exact ⟨_, ha⟩) (fun _ _ _ g => g) (fun _ g => g) (fun _ g => g) hfok _ _
  · have hsz1 : 1 < vs.size := (Array.getElem?_eq_some_iff.mp h1).1
    have hsz3 : 3 < ts.size := (Array.getElem?_eq_some_iff.mp hT3).1
    refine wpAny_bind (wpAny_field ha hd h1 ?_)
    rw [if_pos (show (Value.ref T != Value.none) = true from by simp)]
    refine wpAny_bind (wpAny_field hTg hTd hT3 ?_)
    rcases hfl with rfl | ⟨L', hL', rfl⟩
    · rw [if_neg (show ¬ ((Value.none == rawInt L) = true) from by simp [rawInt])]
      refine wpAny_bind (wpAny_setField hTg hTd hsz3 ?_)
      have other : ∀ b, b ≠ T → (s.heap.update T (Obj.mapFields (·.setIfInBounds 3 Value.none))).get? b = s.heap.get? b := fun b hb => Heap.get?_update_other _ _ (Ne.symm hb)
      have hTself : (s.heap.update T (Obj.mapFields (·.setIfInBounds 3 Value.none))).get? T = some (Obj.mapFields (·.setIfInBounds 3 Value.none) oT) := Heap.get?_update_self _ hTg (Obj.isFreed_of_fields (Obj.data_mapFields hTd _))
      have hidT : Hid0 s.heap T := ⟨oT, ts, hTg, hTd, by rw [hTc]; decide⟩
      refine fin { s with heap := s.heap.update T (Obj.mapFields (·.setIfInBounds 3 Value.none)) } [a, T] hsz1 rfl rfl ?_ (by simp) ((other a (Ne.symm hTa)).trans ha) ?_ ?_ ?_ ?_ ?_ _ _
      · intro b hb
        simp only [List.mem_cons, List.not_mem_nil, or_false] at hb
        rcases hb with rfl | rfl
        · exact ⟨haX, hidA⟩
        · exact ⟨hTX, hidT⟩
      · intro b hb
        simp only [List.mem_cons, List.not_mem_nil, or_false] at hb
        rcases hb with rfl | rfl
        · exact ⟨_, (other _ (Ne.symm hTa)).trans ha⟩
        · exact ⟨_, hTself⟩
      · intro b o hb g
        simp only [List.mem_cons, List.not_mem_nil, or_false, not_or] at hb
        exact (other b hb.2).trans g
      · intro b hb
        have : b ≠ T := fun q => by rw [q, hTg] at hb; cases hb
        exact (other b this).trans hb
      · intro b hb
        have : b ≠ T := fun q => by rw [q, hTself] at hb; cases hb
        exact (other b this).symm.trans hb
      · refine hfok.next fun b o es n _ g d => ⟨o, es, n, (other b fun q => ?_).trans g, d⟩
        rw [q, hTg] at g; cases g; rw [hTd] at d; cases d
    · rw [hFL] at hL'; cases hL'
      rw [if_pos (show (rawInt L == rawInt L) = true from by simp)]
      exact wpAny_pure (h s rel ext ⟨X, hfresh, hX, hcls, a, t, tok, oe, vs, rfl, haX, ht, ha, hc, hd, h0, .inr ⟨T, oT, ts, rawInt L, hTX, hTa, h1, hTg, hTd, hTc, hT3, .inr ⟨L, hFL, rfl⟩⟩⟩)

/-- the flight mark is set -/
theorem XRepB.flight {e : Exc} {ρ ρ₀ : List Addr} {h₀ : Heap} {v : Value} {s : Shared} {σ : S} {fr : Option Addr} {Q : Unit → Shared → Prop} {E : Value → Shared → Prop} (x : XRepN K F e h₀ v s) (rel : Rel K F σ ρ s) (ext : Ext F.mine ρ₀ ρ h₀ s.heap) (hfl : fr = none ∨ fr = F.env.frame)
    (h : ∀ s', Rel K F σ ρ s' → Ext F.mine ρ₀ ρ h₀ s'.heap → (∃ X, (∀ b ∈ X, h₀.get? b = none) ∧ (∀ b ∈ X, K.base.get? b = none ∧ b ∉ F.mine) ∧ XObj true (fun fl => FlF F fl ∧ (fr = none → fl = .none)) e X v s'.heap) → Q () s') : wpAny (model K.prog K.w) F.A (setFlight v fr) Q E s := by
  obtain ⟨X, hfresh, hX, hcls, a, t, tok, oe, vs, rfl, haX, ht, ha, hc, hd, h0, hst⟩ := x
  rcases hst with ⟨q, _⟩ | ⟨T, oT, ts, fl, hTX, hTa, h1, hTg, hTd, hTc, hT3, _⟩
  · cases q
  have hsz3 : 3 < ts.size := (Array.getElem?_eq_some_iff.mp hT3).1
  unfold setFlight
  refine wpAny_bind (wpAny_field ha hd h1 ?_)
  rw [if_pos (show (Value.ref T != Value.none) = true from by simp)]
  refine wpAny_setField hTg hTd hsz3 ?_
  have other : ∀ b, b ≠ T → (s.heap.update T (Obj.mapFields (·.setIfInBounds 3 (fr.elim .none fun f => rawInt f)))).get? b = s.heap.get? b := fun b hb => Heap.get?_update_other _ _ (Ne.symm hb)
  have hTself : (s.heap.update T (Obj.mapFields (·.setIfInBounds 3 (fr.elim .none fun f => rawInt f)))).get? T = some (Obj.mapFields (·.setIfInBounds 3 (fr.elim .none fun f => rawInt f)) oT) := Heap.get?_update_self _ hTg (Obj.isFreed_of_fields (Obj.data_mapFields hTd _))
  have hnoted : Noted K F [T] s.heap (s.heap.update T (Obj.mapFields (·.setIfInBounds 3 (fr.elim .none fun f => rawInt f)))) := by
    refine ⟨fun b hb => ?_, fun b o hb g => ⟨o, (other b (by simpa using hb)).trans g, .refl _, fun _ => rfl⟩, fun b hb => ?_⟩
    · rw [List.mem_singleton.mp hb]
      exact ⟨(hX T hTX).1, (hX T hTX).2, .inr ⟨oT, ts, hTg, hTd, by rw [hTc]; decide⟩⟩
    · rw [List.mem_singleton.mp hb]; exact ⟨_, hTself⟩
  have htt : IsTup (s.heap.update T (Obj.mapFields (·.setIfInBounds 3 (fr.elim .none fun f => rawInt f)))) t #[.str e.msg tok] := by
    obtain ⟨o, g, c, n, d⟩ := ht
    exact ⟨o, hnoted.froz t o g (.inl ⟨c, _, n, d⟩), c, n, d⟩
  refine h { s with heap := _ } (rel.noted hnoted rfl rfl) (ext.noted hnoted fun b hb => by rw [List.mem_singleton.mp hb]; exact hfresh T hTX)
    ⟨X, hfresh, hX, hcls, a, t, tok, oe, vs, rfl, haX, htt, (other a (Ne.symm hTa)).trans ha, hc, hd, h0, .inr ⟨T, _, _, fr.elim .none (fun f => rawInt f), hTX, hTa, h1, hTself, Obj.data_mapFields hTd _, (Obj.cls_mapFields ..).trans hTc, by simp [hsz3], ?_, ?_⟩⟩
  · rcases hfl with rfl | rfl
    · exact .inl rfl
    · cases hq : F.env.frame with
      | none => exact .inl rfl
      | some L => exact .inr ⟨L, hq, rfl⟩
  · rintro rfl; rfl

/-- an outcome that is an exception, noted by the frame -/
noncomputable def EON {β : Type} (K : Glo) (F : Frm) (out : Res S β) (ρ : List Addr) (h : Heap) : Value → Shared → Prop :=
  fun v s' => ∃ e σ' ρ', out = .exc e σ' ∧ Rel K F σ' ρ' s' ∧ Ext F.mine ρ ρ' h s'.heap ∧ XRepN K F e h v s'
theorem EON.eo {β : Type} {out : Res S β} {ρ : List Addr} {h : Heap} {v : Value} {s' : Shared} (x : EON K F out ρ h v s') : EO K F out ρ h v s' := by
  obtain ⟨e, σ', ρ', e1, rel, ext, x⟩ := x; exact ⟨e, σ', ρ', e1, rel, ext, x.x⟩
theorem EO.notedN {β : Type} {out : Res S β} {ρ : List Addr} {h : Heap} {v : Value} {s' : Shared} {E : Value → Shared → Prop} (x : EO K F out ρ h v s') (hE : ∀ v s'', EON K F out ρ h v s'' → E v s'') :
    notedBy (model K.prog K.w) F.A F.env E v s' := by
  obtain ⟨e, σ', ρ', e1, rel, ext, x⟩ := x
  exact x.noted rel ext fun s'' rel' ext' x' => hE _ _ ⟨e, σ', ρ', e1, rel', ext', x'⟩
theorem EO.noted {β : Type} {out : Res S β} {ρ : List Addr} {h : Heap} {v : Value} {s' : Shared} (x : EO K F out ρ h v s') :
    notedBy (model K.prog K.w) F.A F.env (EO K F out ρ h) v s' := x.notedN fun _ _ q => q.eo
theorem EON.back {β : Type} {out : Res S β} {ρ : List Addr} {h : Heap} {v : Value} {s' : Shared} (x : EON K F out ρ h v s') :
    cameBackBy (model K.prog K.w) F.A F.env (EO K F out ρ h) v s' := by
  obtain ⟨e, σ', ρ', e1, rel, ext, x⟩ := x
  have x0 := x
  obtain ⟨X, hfresh, hX, hcls, a, t, tok, oe, vs, rfl, haX, ht, ha, hc, hd, h0, hst⟩ := x0
  rcases hst with ⟨q, _⟩ | ⟨T, oT, ts, fl, hTX, hTa, h1, hTg, hTd, hTc, hT3, _⟩
  · cases q
  refine wpAny_bind (wpAny_field ha hd h1 ?_)
  rw [if_neg (show ¬ ((Value.ref T == Value.none) = true) from by simp)]
  refine (x.flight rel ext (.inr rfl) fun s'' rel' ext' x' => ?_)
  obtain ⟨X', f', g', hc', a', t', tok', oe', vs', q1, q2, q3, q4, q5, q6, q7, q8⟩ := x'
  refine ⟨e, σ', ρ', e1, rel', ext', X', f', g', hc', a', t', tok', oe', vs', q1, q2, q3, q4, q5, q6, q7, ?_⟩
  rcases q8 with ⟨q, _⟩ | ⟨T', oT', ts', fl', r1, r2, r3, r4, r5, r6, r7, r8⟩
  · cases q
  · exact .inr ⟨T', oT', ts', fl', r1, r2, r3, r4, r5, r6, r7, r8.1⟩

/-! ### while -/
noncomputable def whileM (c : M Bool) (b : M Fl) : Nat → M Fl
  | 0 => stuck
  | n + 1 => do
    if (← c) = true then
      match ← b with
      | .next => whileM c b n
      | .cont => whileM c b n
      | .brk => pure .next
      | .ret v => pure (.ret v)
    else pure .next

theorem simS_while {test : Expr} {body : List Stmt} {mt : M Bool} {mb : M Fl} (pos : Pos) (n : Nat) (ht : SimB K F test mt) (hb : SimSs K F body mb) : SimS K F (.While test body [] pos) (whileM mt mb n) := by
  intro σ ρ s rel
  refine Run.of_wp fun hne => ?_
  refine wpAny_While ?_
  refine codeAny_whileLoop (R := fun r s' => match r with | .ok f => QO K F (FlRep K) (whileM mt mb n σ) ρ s.heap f s' | .error e => cameBackBy (model K.prog K.w) F.A F.env (EO K F (whileM mt mb n σ) ρ s.heap) e s')
    (fun k s' => ∃ σ₁ ρ₁, Rel K F σ₁ ρ₁ s' ∧ whileM mt mb k σ₁ = whileM mt mb n σ ∧ Ext F.mine ρ ρ₁ s.heap s'.heap) ?_ n ⟨σ, ρ, rel, rfl, Ext.refl ..⟩
  generalize whileM mt mb n σ = out at hne ⊢
  rintro k s₁ ⟨σ₁, ρ₁, rel₁, e₁, x₁⟩
  have note : ∀ {v : Value} {s' : Shared}, EO K F out ρ s.heap v s' → notedBy (model K.prog K.w) F.A F.env (fun e s' => cameBackBy (model K.prog K.w) F.A F.env (EO K F out ρ s.heap) e s') v s' := by
    intro v s' hx
    exact hx.notedN fun _ _ q => q.back
  cases k with
  | zero => exact absurd e₁.symm hne
  | succ k =>
    refine (ht σ₁ ρ₁ s₁ rel₁).stepW x₁ hne e₁ note fun b σ₂ ρ₂ a s₂ e₂ rel₂ _ x₂ rb => ?_
    have : a = b := rb
    subst this
    cases a with
    | false => exact wpAny_execs_nil ⟨.next, σ₂, ρ₂, e₂.symm, rel₂, x₂, rfl⟩
    | true =>
      refine (hb σ₂ ρ₂ s₂ rel₂).stepW x₂ hne e₂ note fun f σ₃ ρ₃ wf s₃ e₃ rel₃ _ x₃ rf => ?_
      cases f with
      | next => have : wf = .next := rf; subst this; exact ⟨k, Nat.lt_succ_self _, σ₃, ρ₃, rel₃, e₃, x₃⟩
      | cont => have : wf = .cont := rf; subst this; exact ⟨k, Nat.lt_succ_self _, σ₃, ρ₃, rel₃, e₃, x₃⟩
      | brk => have : wf = .brk := rf; subst this; exact ⟨.next, σ₃, ρ₃, e₃.symm, rel₃, x₃, rfl⟩
      | ret v => obtain ⟨w, e, r⟩ := rf; subst e; exact ⟨.ret v, σ₃, ρ₃, e₃.symm, rel₃, x₃, w, rfl, r⟩

/-! ### targets that are tuples -/
theorem kept_of_extBut {h h' : Heap} (x : Heap.ExtBut h.objs.size h h') : ∀ b o, h.get? b = some o → h'.get? b = some o :=
  fun b o e => x b o (Nat.ne_of_lt (Heap.lt_size e)) e

noncomputable def SimTs (K : Glo) (F : Frm) (es : List Expr) (m : List V → M Unit) : Prop :=
  (∃ n, (assignEach es F.env).length = n ∧ n = es.length ∧ (assignEach es F.env).findIdx? (·.1) = none) ∧
  ∀ σ ρ s vs ws, Rel K F σ ρ s → RepL K s.heap ρ vs ws → vs.length = es.length → Run K F (assignInOrder ((assignEach es F.env).map (·.2)) ws) URep (m vs σ) ρ s
theorem simTs_nil : SimTs K F [] (fun _ => pure ()) := ⟨⟨0, rfl, rfl, rfl⟩, fun _ _ _ _ _ rel _ _ => Run.pure rel trivial⟩
noncomputable def consT (m : V → M Unit) (ms : List V → M Unit) : List V → M Unit
  | v :: vs => do m v; ms vs
  | [] => stuck
theorem simTs_cons {e : Expr} {es : List Expr} {m : V → M Unit} {ms : List V → M Unit} (h : SimT K F e m) (hs : SimTs K F es ms)
    (hst : assignEach (e :: es) F.env = (false, assign e F.env) :: assignEach es F.env := by rfl) : SimTs K F (e :: es) (consT m ms) := by
  obtain ⟨⟨n, h1, h2, h3⟩, h4⟩ := hs
  refine ⟨⟨n + 1, by rw [hst]; simp [h1], by simp [h2], by rw [hst, List.findIdx?_cons]; simp [h3]⟩, ?_⟩
  intro σ ρ s vs ws rel r hl
  rw [hst]
  cases vs with
  | nil => exact Run.stuck
  | cons v vs =>
    obtain ⟨x, ws', rfl, r1, r2⟩ := RepL.cons_iff.mp r
    show Run K F (do holding ws' (assign e F.env x); assignInOrder ((assignEach es F.env).map (·.2)) ws') URep ((do m v; ms vs) σ) ρ s
    refine Run.bind (Run.holding (h σ ρ s v x rel r1)) fun _ σ₁ ρ₁ s₁ _ _ rel₁ x₁ _ => ?_
    exact h4 σ₁ ρ₁ s₁ vs ws' rel₁ (r2.mono x₁) (by simpa using hl)

noncomputable def unpackT (n : Nat) (m : List V → M Unit) : V → M Unit
  | .tup vs => if vs.length = n then m vs else stuck
  | _ => stuck
theorem simT_tuple (fk : FOk F) {es : List Expr} {m : List V → M Unit} (k : Nat) (pos : Pos) (hs : SimTs K F es m) (hnh : F.nh = true := by rfl) : SimT K F (.Tuple es k pos) (unpackT es.length m) := by
  obtain ⟨⟨n, h1, h2, h3⟩, h4⟩ := hs
  intro σ ρ s v w rel r
  cases v with
  | tup vs =>
    unfold unpackT
    dsimp only
    by_cases hl : vs.length = es.length
    · rw [if_pos hl]
      obtain ⟨_, a, ws, rfl, ht, rl⟩ := Rep.tup_iff.mp r
      refine Run.of_wp fun hne => ?_
      refine wpAny_assign_Tuple (fk.hd hnh) (items := ws.toArray) ht (by rw [h1, h2, List.size_toArray, rl.length, hl]) h3 fun h' hx => ?_
      have hk := kept_of_extBut hx
      have rel' : Rel K F σ ρ { s with heap := h' } := rel.kept hk rfl rfl
      have x' : Ext F.mine ρ ρ s.heap h' := Ext.kept hk
      refine wpAny_mono ((h4 σ ρ { s with heap := h' } vs ws rel' (rl.mono x') hl).wp hne) ?_ ?_
      · rintro b s'' ⟨b', σ'', ρ', e, q1, q2, q3⟩; exact ⟨b', σ'', ρ', e, q1, x'.trans q2, q3⟩
      · rintro b s'' ⟨b', σ'', ρ', e, q1, q2, q3⟩; exact ⟨b', σ'', ρ', e, q1, x'.trans q2, q3.up x'⟩
    · rw [if_neg hl]; exact Run.stuck
  | _ => exact Run.stuck

end

/-! part F5 -/
set_option autoImplicit false
set_option maxRecDepth 100000
set_option linter.unusedVariables false
open PySem PySem.W PyProof.Rows
section
variable {K : Glo} {F : Frm}

section
variable {σ : S} {ρ ρ₀ : List Addr} {s s' : Shared} {mine : List Addr} {h h₀ h' : Heap} {a : Addr} {o : Obj}

/-- all stays but one hidden object (an iterator) -/
theorem Ext.but {vs : Array Value} (x : Ext mine ρ₀ ρ h₀ h) (h0 : h₀.get? a = none) (ho : h.get? a = some o) (hd : o.data = .fields vs) (hc : o.cls ≠ .type "range") (hx : Heap.ExtBut a h h') : Ext mine ρ₀ ρ h₀ h' where
  pre := x.pre
  alive := fun b o' e => by
    obtain ⟨o1, e1⟩ := x.alive b o' e
    exact ⟨o1, hx b o1 (by rintro rfl; rw [h0] at e; cases e) e1⟩
  new := x.new
  keep := fun b o' e n1 n2 => by
    obtain ⟨o1, e1, l1⟩ := x.keep b o' e n1 n2
    exact ⟨o1, hx b o1 (by rintro rfl; rw [h0] at e; cases e) e1, l1⟩
  froz := fun b o' e f => hx b o' (by rintro rfl; rw [h0] at e; cases e) (x.froz b o' e f)

theorem hid_ne_froz {vs : Array Value} {b : Addr} {o' : Obj} (ho : h.get? a = some o) (hd : o.data = .fields vs) (hc : o.cls ≠ .type "range") (e : h.get? b = some o') (f : Froz o') : b ≠ a := by
  rintro rfl
  rw [ho] at e; cases e
  rcases f with ⟨_, _, _, f⟩ | ⟨f, _⟩
  · rw [hd] at f; cases f
  · exact hc f
theorem hid_ne_list {vs : Array Value} {b : Addr} {it : Array Value} (ho : h.get? a = some o) (hd : o.data = .fields vs) (e : h.IsList b it) : b ≠ a := by
  rintro rfl
  obtain ⟨o', e', _, n, d⟩ := e
  rw [ho] at e'; cases e'; rw [hd] at d; cases d
theorem hid_ne_ns {vs : Array Value} {b : Addr} {m : Str → Option Value} (ho : h.get? a = some o) (hd : o.data = .fields vs) (e : h.Ns b m) : b ≠ a := by
  rintro rfl
  obtain ⟨o', es, ep, e', d, _⟩ := e
  rw [ho] at e'; cases e'; rw [hd] at d; cases d
theorem hid_ne_cell {vs : Array Value} {b : Addr} {v : Option Value} (ho : h.get? a = some o) (hd : o.data = .fields vs) (e : h.IsCell b v) : b ≠ a := by
  rintro rfl
  obtain ⟨o', e', d⟩ := e
  rw [ho] at e'; cases e'; rw [hd] at d; cases d

theorem GRel.but {st : Store} {vs : Array Value} (rel : GRel K st ρ s) (hb : K.base.get? a = none) (ho : s.heap.get? a = some o) (hd : o.data = .fields vs) (hc : o.cls ≠ .type "range") (hx : Heap.ExtBut a s.heap s'.heap)
    (hg : s'.gens = s.gens) (hos : s'.os = s.os) : GRel K st ρ s' where
  gens := hg.trans rel.gens
  os := hos.trans rel.os
  base := fun b o' e => hx b o' (by rintro rfl; rw [hb] at e; cases e) (rel.base b o' e)
  len := rel.len
  cell := fun l b c h1 h2 => by
    refine (rel.cell l b c h1 h2).mono (List.prefix_refl _) (fun d o' e f => hx d o' (hid_ne_froz ho hd hc e f) e) fun it n x => ?_
    have hne := hid_ne_list ho hd x.isList
    exact hx b _ hne x
  nodup := rel.nodup
  above := rel.above

theorem Rel.but {vs : Array Value} (rel : Rel K F σ ρ s) (hb : K.base.get? a = none) (hm : a ∉ F.mine) (ho : s.heap.get? a = some o) (hd : o.data = .fields vs) (hc : o.cls ≠ .type "range") (hx : Heap.ExtBut a s.heap s'.heap)
    (hg : s'.gens = s.gens) (hos : s'.os = s.os) : Rel K F σ ρ s' where
  toGRel := rel.toGRel.but hb ho hd hc hx hg hos
  vars := fun y u e => by
    obtain ⟨w, h1, h2⟩ := rel.vars y u e
    refine ⟨w, h1.mono (fun m n => ?_) (fun c u _ n => ?_), Rep.mono' (List.prefix_refl _) (fun d o' e f => hx d o' (hid_ne_froz ho hd hc e f) e) h2⟩
    · have hne := hid_ne_ns ho hd n
      obtain ⟨o', es, ep, e', r⟩ := n
      exact ⟨o', es, ep, hx _ _ hne e', r⟩
    · have hne := hid_ne_cell ho hd n
      obtain ⟨o', e', r⟩ := n
      exact ⟨o', hx _ _ hne e', r⟩
  loc := by
    obtain ⟨m, n⟩ := rel.loc
    have hne := hid_ne_ns ho hd n
    obtain ⟨o', es, ep, e', r⟩ := n
    exact ⟨m, o', es, ep, hx _ _ hne e', r⟩
  cels := fun y c e => by
    obtain ⟨v, n⟩ := rel.cels y c e
    have hne := hid_ne_cell ho hd n
    obtain ⟨o', e', r⟩ := n
    exact ⟨v, o', hx _ _ hne e', r⟩
  mineAbove := fun b hb' => by
    obtain ⟨h1, o', h2⟩ := rel.mineAbove b hb'
    exact ⟨h1, o', hx b o' (by rintro rfl; exact hm hb') h2⟩
  mineApart := rel.mineApart
  mineLoc := rel.mineLoc
  frs := rel.frs.next fun b o' es n g d => ⟨o', es, n, hx b o' (by
    rintro rfl
    rw [ho] at g; cases g; rw [hd] at d; cases d) g, d⟩
end

/-! ### for -/
noncomputable def ownedKinds : List String := ["enumerate", "zip", "dict_itemiterator", "dict_reverseitemiterator", "odict_iterator", "itertools.zip_longest", "itertools.pairwise"]
theorem owned_skip {target : Expr} {I : Addr} {v : Value} {s : Shared} {o : Obj} {T : String} {Q : Unit → Shared → Prop} {E : Value → Shared → Prop} (ho : s.heap.get? I = some o) (hc : o.cls = .type T)
    (hT : ownedKinds.contains T = false) (h : Q () s) : wpAny (model K.prog K.w) F.A (letOwnedTupleGo target (.ref I) v) Q E s := by
  have key : ∀ {vs : Array Value} {a : Addr}, o.data = .fields vs → (ownedKinds.contains T && vs[0]? == some (rawInt a)) = false := by
    intro vs a _; rw [hT]; rfl
  have main : wpAny (model K.prog K.w) F.A (do
    let (.ref r, .ref a) := (Value.ref I, v) | return
    let o ← load r
    match o.cls, o.data with
    | .type n, .fields vs =>
      if ownedKinds.contains n && vs[0]? == some (rawInt a) then
        rule "for.unpacks-the-owned-tuple"
        updateField r 0 .none
    | _, _ => pure ()) Q E s := by
    cases v with
    | ref b =>
      refine wpAny_bind (wpAny_load ho ?_)
      rw [hc]
      cases hd : o.data <;> first | exact wpAny_pure h | skip
      rename_i vs
      dsimp only
      rw [hT]
      exact wpAny_pure h
    | _ => exact wpAny_pure h
  cases target <;> first | exact main | exact wpAny_pure h

noncomputable def forG (nxt : S → Nat → Option (Option V)) (t : V → M Unit) (b : M Fl) : Nat → Nat → M Fl
  | 0, _ => stuck
  | n + 1, i => fun σ => match nxt σ i with
    | none => .stuck
    | some none => .ok .next σ
    | some (some v) => (do
      t v
      match ← b with
      | .next => forG nxt t b n (i + 1)
      | .cont => forG nxt t b n (i + 1)
      | .brk => pure .next
      | .ret v => pure (.ret v)) σ

/-- what an iterator object does: Src i o says that o stands before its item i -/
noncomputable def Iter (K : Glo) (F : Frm) (I : Addr) (Src : Nat → Obj → Prop) (nxt : S → Nat → Option (Option V)) (ρ₁ : List Addr) (h₁ : Heap) : Prop :=
  (∀ i o, Src i o → ∃ vs T, o.data = .fields vs ∧ o.cls = .type T ∧ ownedKinds.contains T = false ∧ T ≠ "range") ∧
  (∀ i o (s : Shared) (A : Around) (Q : Value → Shared → Prop) (E : Value → Shared → Prop), s.heap.get? I = some o → Src i o → Q (.ref I) s → wpAny (model K.prog K.w) A (pyIter (.ref I)) Q E s) ∧
  ∀ σ ρ s i o, Rel K F σ ρ s → Ext F.mine ρ₁ ρ h₁ s.heap → s.heap.get? I = some o → Src i o →
    match nxt σ i with
    | none => True
    | some none => wpAny (model K.prog K.w) F.A (pyNext (.ref I)) (fun r s' => r = none ∧ Heap.ExtBut I s.heap s'.heap ∧ s'.gens = s.gens ∧ s'.os = s.os) (fun _ _ => False) s
    | some (some v) => wpAny (model K.prog K.w) F.A (pyNext (.ref I)) (fun r s' => ∃ w, r = some w ∧ Heap.ExtBut I s.heap s'.heap ∧ s'.gens = s.gens ∧ s'.os = s.os ∧ (∃ o', s'.heap.get? I = some o' ∧ Src (i + 1) o') ∧ Rep K s'.heap ρ v w) (fun _ _ => False) s

theorem codeAny_forLoopT {prog : Program} {w : World} {A : Around} {s : Shared} {R : Result → Shared → Prop} {target : Expr} {it : Value} {body : List Stmt} {env : Env} (I : Nat → Shared → Prop)
    (turn : ∀ n s, I n s → wpAny (model prog w) A (pyNext it) (fun r s₁ => match r with
      | none => R (.ok .next) s₁
      | some v => wpAny (model prog w) A (letOwnedTupleGo target it v) (fun _ s₁' => wpAny (model prog w) A (assign target env v) (fun _ s₂ => wpAny (model prog w) A (execs body env) (fun f s₃ => match f with
          | .next | .cont => ∃ m, m < n ∧ I m s₃
          | .brk => R (.ok .next) s₃
          | .ret v => R (.ok (.ret v)) s₃) (notedBy (model prog w) A env fun e s' => R (.error e) s') s₂) (notedBy (model prog w) A env fun e s' => R (.error e) s') s₁') (notedBy (model prog w) A env fun e s' => R (.error e) s') s₁)
      (notedBy (model prog w) A env fun e s' => R (.error e) s') s)
    (n : Nat) (h : I n s) : codeAny (model prog w) A (.forLoop target it body [] env) R s := by
  refine codeAny_loop' rfl I (fun n s hI => ?_) n h
  show wpAny _ _ ((forTurn target it body [] env).onRaise (fun x => do noteFrame x env; theTreesLotGoes x)) _ _ s
  refine wpAny_noted ?_
  unfold forTurn
  refine wpAny_bind (wpAny_standAt (wpAny_bind (wpAny_onRaise (wpAny_mono (turn n s hI) (fun r s₁ h₁ => ?_) fun _ _ h' => wpAny_standAt h'))))
  cases r with
  | none => exact wpAny_pure (.inr ⟨rfl, codeAny_block (wpAny_execs_nil h₁)⟩)
  | some v =>
    refine wpAny_bind (wpAny_mono h₁ (fun _ s₁' h₁' => ?_) fun _ _ h' => h')
    refine wpAny_bind (wpAny_mono h₁' (fun _ s₂ h₂ => wpAny_bind (wpAny_mono h₂ (fun f s₃ h₃ => ?_) fun _ _ h' => h')) fun _ _ h' => h')
    cases f with
    | next => exact wpAny_pure (.inl ⟨rfl, h₃⟩)
    | cont => exact wpAny_pure (.inl ⟨rfl, h₃⟩)
    | brk => exact wpAny_pure h₃
    | ret v => exact wpAny_pure h₃

theorem forG_succ (nxt : S → Nat → Option (Option V)) (t : V → M Unit) (b : M Fl) (n i : Nat) (σ : S) : forG nxt t b (n + 1) i σ = (match nxt σ i with
    | none => .stuck
    | some none => .ok .next σ
    | some (some v) => match t v σ with
      | .stuck => .stuck
      | .exc e σ₂ => .exc e σ₂
      | .ok _ σ₂ => match b σ₂ with
        | .ok .next σ₃ => forG nxt t b n (i + 1) σ₃
        | .ok .cont σ₃ => forG nxt t b n (i + 1) σ₃
        | .ok .brk σ₃ => .ok .next σ₃
        | .ok (.ret v) σ₃ => .ok (.ret v) σ₃
        | .exc e σ₃ => .exc e σ₃
        | .stuck => .stuck) := by
  rw [forG]
  dsimp only
  cases nxt σ i with
  | none => rfl
  | some x =>
    cases x with
    | none => rfl
    | some v =>
      dsimp only
      rw [M.bind_def]
      cases t v σ with
      | stuck => rfl
      | exc e y => rfl
      | ok u y =>
        dsimp only
        rw [M.bind_def]
        cases b y with
        | stuck => rfl
        | exc e z => rfl
        | ok f z => cases f <;> rfl

noncomputable def forK (g : M Fl) : Fl → M Fl
  | .next => g
  | .cont => g
  | .brk => pure .next
  | .ret v => pure (.ret v)
theorem forG_step (nxt : S → Nat → Option (Option V)) (t : V → M Unit) (b : M Fl) (n i : Nat) (σ : S) : forG nxt t b (n + 1) i σ = (match nxt σ i with
    | none => .stuck
    | some none => .ok .next σ
    | some (some v) => (t v >>= fun _ => b >>= forK (forG nxt t b n (i + 1))) σ) := by
  have e : forK (forG nxt t b n (i + 1)) = fun f => (match f with
      | .next => forG nxt t b n (i + 1)
      | .cont => forG nxt t b n (i + 1)
      | .brk => pure .next
      | .ret v => pure (.ret v)) := by funext f; cases f <;> rfl
  rw [e, forG]
theorem run_forLoop {target : Expr} {body : List Stmt} {t : V → M Unit} {b : M Fl} (ht : SimT K F target t) (hb : SimSs K F body b) {I : Addr} {Src : Nat → Obj → Prop} {nxt : S → Nat → Option (Option V)}
    {σ : S} {ρ ρ₀ : List Addr} {s : Shared} {h₀ : Heap} {o : Obj} (hI : Iter K F I Src nxt ρ₀ h₀) (rel : Rel K F σ ρ s) (x₀ : Ext F.mine ρ₀ ρ h₀ s.heap) (h0 : h₀.get? I = none) (hbase : K.base.get? I = none)
    (hmi : I ∉ F.mine) (hρ : I ∉ ρ) (ho : s.heap.get? I = some o) (hs : Src 0 o) (n : Nat) (hne : forG nxt t b n 0 σ ≠ .stuck) :
    wpAny (model K.prog K.w) F.A (runOwn (.forLoop target (.ref I) body [] F.env) F.env) (QO K F (FlRep K) (forG nxt t b n 0 σ) ρ₀ h₀) (EO K F (forG nxt t b n 0 σ) ρ₀ h₀) s := by
  refine wpAny_runOwn ?_
  refine codeAny_forLoopT (R := fun r s' => match r with | .ok f => QO K F (FlRep K) (forG nxt t b n 0 σ) ρ₀ h₀ f s' | .error e => cameBackBy (model K.prog K.w) F.A F.env (EO K F (forG nxt t b n 0 σ) ρ₀ h₀) e s')
    (fun k s' => ∃ σ₁ ρ' i o, Rel K F σ₁ ρ' s' ∧ forG nxt t b k i σ₁ = forG nxt t b n 0 σ ∧ Ext F.mine ρ₀ ρ' h₀ s'.heap ∧ I ∉ ρ' ∧ s'.heap.get? I = some o ∧ Src i o) ?_ n
    ⟨σ, ρ, 0, o, rel, rfl, x₀, hρ, ho, hs⟩
  generalize forG nxt t b n 0 σ = out at hne ⊢
  rintro k s₁ ⟨σ₁, ρ', i, o₁, rel₁, e₁, x₁, hρ₁, ho₁, hs₁⟩
  have note : ∀ {v : Value} {s' : Shared}, EO K F out ρ₀ h₀ v s' → notedBy (model K.prog K.w) F.A F.env (fun e s' => cameBackBy (model K.prog K.w) F.A F.env (EO K F out ρ₀ h₀) e s') v s' := by
    intro v s' hx
    exact hx.notedN fun _ _ q => q.back
  cases k with
  | zero => exact absurd e₁.symm hne
  | succ k =>
    obtain ⟨vs₁, T₁, hd₁, hc₁, hT₁, hr₁⟩ := hI.1 i o₁ hs₁
    have hc₁' : o₁.cls ≠ .type "range" := by rw [hc₁]; exact fun e => hr₁ (by cases e; rfl)
    have hstep := hI.2.2 σ₁ ρ' s₁ i o₁ rel₁ x₁ ho₁ hs₁
    have e₀ : (match nxt σ₁ i with
      | none => .stuck
      | some none => .ok .next σ₁
      | some (some v) => (t v >>= fun _ => b >>= forK (forG nxt t b k (i + 1))) σ₁ : Res S Fl) = out := e₁ ▸ (forG_step ..).symm
    clear e₁
    cases en : nxt σ₁ i with
    | none => rw [en] at e₀; exact absurd e₀.symm hne
    | some ov =>
      rw [en] at hstep e₀
      cases ov with
      | none =>
        refine wpAny_mono hstep (fun r s₂ h => ?_) fun _ _ h => h.elim
        obtain ⟨rfl, hx, hg, hos⟩ := h
        exact ⟨.next, σ₁, ρ', e₀.symm, rel₁.but hbase hmi ho₁ hd₁ hc₁' hx hg hos, x₁.but h0 ho₁ hd₁ hc₁' hx, rfl⟩
      | some v =>
        have hold : ∀ {ρ₂ ρ₃ : List Addr} {g g' : Heap} {oo : Obj}, Ext F.mine ρ₂ ρ₃ g g' → I ∉ ρ₂ → g.get? I = some oo → (∃ vs, oo.data = .fields vs) → g'.get? I = some oo ∧ I ∉ ρ₃ := by
          intro ρ₂ ρ₃ g g' oo x hn e ⟨vs, d⟩
          obtain ⟨o', e', l⟩ := x.keep I oo e hn hmi
          refine ⟨by rw [e', l.same (fun es n q => by rw [d] at q; cases q)], fun hin => ?_⟩
          rcases x.new I hin with q | q
          · exact hn q
          · rw [e] at q; cases q
        refine wpAny_mono hstep (fun r s₂ h => ?_) fun _ _ h => h.elim
        obtain ⟨w, rfl, hx, hg, hos, ⟨o₂, ho₂, hs₂⟩, rv⟩ := h
        obtain ⟨vs₂, T₂, hd₂, hc₂, hT₂, hr₂⟩ := hI.1 (i + 1) o₂ hs₂
        refine owned_skip ho₂ hc₂ hT₂ ?_
        refine (ht σ₁ ρ' s₂ v w (rel₁.but hbase hmi ho₁ hd₁ hc₁' hx hg hos) rv).stepW (x₁.but h0 ho₁ hd₁ hc₁' hx) hne e₀ note fun _ σ₃ ρ₃ _ s₃ e₃ rel₃ y₃ x₃ _ => ?_
        obtain ⟨ho₃, hρ₃⟩ := hold y₃ hρ₁ ho₂ ⟨_, hd₂⟩
        refine (hb σ₃ ρ₃ s₃ rel₃).stepW x₃ hne e₃ note fun f σ₄ ρ₄ wf s₄ e₄ rel₄ y₄ x₄ rf => ?_
        obtain ⟨ho₄, hρ₄⟩ := hold y₄ hρ₃ ho₃ ⟨_, hd₂⟩
        cases f with
        | next => have : wf = .next := rf; subst this; exact ⟨k, Nat.lt_succ_self _, σ₄, ρ₄, i + 1, o₂, rel₄, e₄, x₄, hρ₄, ho₄, hs₂⟩
        | cont => have : wf = .cont := rf; subst this; exact ⟨k, Nat.lt_succ_self _, σ₄, ρ₄, i + 1, o₂, rel₄, e₄, x₄, hρ₄, ho₄, hs₂⟩
        | brk => have : wf = .brk := rf; subst this; exact ⟨.next, σ₄, ρ₄, e₄.symm, rel₄, x₄, rfl⟩
        | ret v => obtain ⟨w, e, r⟩ := rf; subst e; exact ⟨.ret v, σ₄, ρ₄, e₄.symm, rel₄, x₄, w, rfl, r⟩

end

/-! part F6 -/
set_option autoImplicit false
set_option maxRecDepth 100000
set_option linter.unusedVariables false
open PySem PySem.W PyProof.Rows
section
variable {K : Glo} {F : Frm}

theorem QO.up {α β : Type} {R : Heap → List Addr → β → α → Prop} {out : Res S β} {ρ ρ' : List Addr} {h h' : Heap} {a : α} {s : Shared} (x : Ext F.mine ρ ρ' h h') (q : QO K F R out ρ' h' a s) : QO K F R out ρ h a s := by
  obtain ⟨b, σ, ρ'', e, r1, r2, r3⟩ := q; exact ⟨b, σ, ρ'', e, r1, x.trans r2, r3⟩
theorem EO.up {β : Type} {out : Res S β} {ρ ρ' : List Addr} {h h' : Heap} {a : Value} {s : Shared} (x : Ext F.mine ρ ρ' h h') (q : EO K F out ρ' h' a s) : EO K F out ρ h a s := by
  obtain ⟨b, σ, ρ'', e, r1, r2, r3⟩ := q; exact ⟨b, σ, ρ'', e, r1, x.trans r2, r3.up x⟩

theorem Run.bindWp {α β δ : Type} {t : Sem α} {R : Heap → List Addr → β → α → Prop} {m : M β} {k : β → M δ} {σ : S} {ρ : List Addr} {s : Shared} {P : α → Shared → Prop}
    (h1 : Run K F t R (m σ) ρ s) (hne : (m >>= k) σ ≠ .stuck)
    (h2 : ∀ b σ' ρ' s' a, m σ = .ok b σ' → (m >>= k) σ = k b σ' → Rel K F σ' ρ' s' → Ext F.mine ρ ρ' s.heap s'.heap → R s'.heap ρ' b a → P a s') :
    wpAny (model K.prog K.w) F.A t P (EO K F ((m >>= k) σ) ρ s.heap) s := by
  cases e : m σ with
  | stuck => exact absurd (by rw [M.bind_def, e]) hne
  | ok b σ' =>
    rw [e] at h1
    have e2 : (m >>= k) σ = k b σ' := M.bind_ok e
    exact wpAny_mono h1 (fun a s' ⟨ρ', r1, r2, r3⟩ => h2 b σ' ρ' s' a e e2 r1 r2 r3) fun _ _ h => h.elim
  | exc x σ' =>
    rw [e] at h1
    have e2 : (m >>= k) σ = .exc x σ' := by rw [M.bind_def, e]
    exact wpAny_mono h1 (fun _ _ h => h.elim) fun v s' ⟨ρ', r1, r2, r3⟩ => ⟨x, σ', ρ', e2, r1, r2, r3⟩

/-! ### what a call of a def does -/
noncomputable def Room (A : Around) (n : Nat) : Prop := A.handled = none ∧ A.depth + n < recursionLimit ∧ A.units + 1000 + 10 * n < cLine
theorem Room.deeper {A : Around} {n : Nat} (r : Room A (n + 1)) (env : Env) : Room (A.deeper env) n := by
  obtain ⟨h1, h2, h3⟩ := r
  refine ⟨h1, ?_, ?_⟩
  · show A.depth + 1 + n < _; (first | lia | omega)
  · show A.units + 3 + 1000 + 10 * n < _; (first | lia | omega)
theorem Room.le {A : Around} {n k : Nat} (r : Room A n) (h : k ≤ n) : Room A k := ⟨r.1, by have := r.2.1; (first | lia | omega), by have := r.2.2; (first | lia | omega)⟩

noncomputable abbrev Fun := List V → Store → Res Store V

/-- an exception that has left a frame -/
noncomputable def XOut (K : Glo) (e : Exc) (h₀ : Heap) (v : Value) (s : Shared) : Prop := ∃ X, (∀ b ∈ X, h₀.get? b = none) ∧ (∀ b ∈ X, K.base.get? b = none) ∧ XObj true (fun fl => fl = .none) e X v s.heap
/-- the frames on the stack at a call -/
noncomputable def FrA (K : Glo) (A : Around) (h : Heap) : Prop := ∃ l, A.frames = some l ∧ FramesOk K h l

noncomputable def CallRes (K : Glo) (A : Around) (out : Res Store V) (ρ : List Addr) (h : Heap) : Result → Shared → Prop := fun r s' =>
  (∃ v st' w ρ', out = .ok v st' ∧ r = .ok (.ret w) ∧ GRel K st' ρ' s' ∧ Ext [] ρ ρ' h s'.heap ∧ Rep K s'.heap ρ' v w) ∨
  (∃ e st' w ρ', out = .exc e st' ∧ r = .error w ∧ GRel K st' ρ' s' ∧ Ext [] ρ ρ' h s'.heap ∧ XOut K e h w s')

noncomputable def SimF (K : Glo) (lvl : Nat) (f : Value) (g : Fun) : Prop :=
  ∀ A, Room A lvl → ∀ st ρ s, GRel K st ρ s → FrA K A s.heap → ∀ vs ws, RepL K s.heap ρ vs ws → g vs st ≠ .stuck →
    codeAny (model K.prog K.w) A (.call f ⟨ws, []⟩) (CallRes K A (g vs st) ρ s.heap) s

noncomputable def callF (g : Fun) (vs : List V) : M V := fun σ => match g vs σ.st with
  | .ok v st => .ok v { σ with st := st }
  | .exc e st => .exc e { σ with st := st }
  | .stuck => .stuck

theorem ext_of_nil {mine ρ ρ' : List Addr} {h h' : Heap} (x : Ext [] ρ ρ' h h') : Ext mine ρ ρ' h h' := ⟨x.pre, x.alive, x.new, fun b o e n1 _ => x.keep b o e n1 (by simp), x.froz⟩

/-- the caller's frame behind a call -/
theorem Rel.called {σ : S} {ρ ρ' : List Addr} {s s' : Shared} {st' : Store} (rel : Rel K F σ ρ s) (g : GRel K st' ρ' s') (x : Ext [] ρ ρ' s.heap s'.heap) (fk : FOk F) : Rel K F { σ with st := st' } ρ' s' := by
  have hns : ∀ {a : Addr} {m : Str → Option Value}, s.heap.Ns a m → a ∉ ρ → s'.heap.Ns a m := by
    intro a m n hn
    obtain ⟨o, es, ep, e, d, k, f⟩ := n
    obtain ⟨o', e', l⟩ := x.keep a o e hn (by simp)
    exact ⟨o', es, ep, e', l.data.1.trans d, k, f⟩
  have hnl : F.env.locals ∉ ρ := rel.mineApart _ rel.mineLoc
  have hcell : ∀ {c : Addr} {v : Option Value}, s.heap.IsCell c v → s'.heap.IsCell c v := by
    intro c v n
    have hn : c ∉ ρ := fun hc => by
      obtain ⟨it, hl⟩ := rel.toGRel.alive hc
      exact list_ne_cell hl n rfl
    obtain ⟨o, e, d⟩ := n
    obtain ⟨o', e', l⟩ := x.keep c o e hn (by simp)
    exact ⟨o', e', l.data.1.trans d⟩
  refine { toGRel := g, vars := ?_, loc := ?_, cels := ?_, mineAbove := ?_, mineApart := ?_, mineLoc := rel.mineLoc, frs := rel.frs.next fun b o es n q d => ?_ }
  · intro y v e
    obtain ⟨w, h1, h2⟩ := rel.vars y v e
    exact ⟨w, h1.mono (fun m n => hns n hnl) (fun c u _ n => hcell n), h2.mono x⟩
  · obtain ⟨m, n⟩ := rel.loc; exact ⟨m, hns n hnl⟩
  · intro y c e
    obtain ⟨v, n⟩ := rel.cels y c e; exact ⟨v, hcell n⟩
  · intro a ha
    obtain ⟨h1, o, h2⟩ := rel.mineAbove a ha
    obtain ⟨o', h3⟩ := x.alive a o h2
    exact ⟨h1, o', h3⟩
  · intro a ha hb
    rcases x.new a hb with h1 | h1
    · exact rel.mineApart a ha h1
    · obtain ⟨_, o, h2⟩ := rel.mineAbove a ha
      rw [h1] at h2; cases h2
  · have hb : b ∉ ρ := fun hb => by
      obtain ⟨it, o', e, _, n', d'⟩ := rel.toGRel.alive hb
      rw [q] at e; cases e; rw [d] at d'; cases d'
    obtain ⟨o', e', l⟩ := x.keep b o q hb (by simp)
    exact ⟨o', es, n, e', l.data.1.trans d⟩

theorem XOut.toX {e : Exc} {h₀ : Heap} {v : Value} {s : Shared} (x : XOut K e h₀ v s) (hm : ∀ a ∈ F.mine, ∃ o, h₀.get? a = some o) : XRep K F e h₀ v s := by
  obtain ⟨X, f, g, hc', a', t', tok', oe', vs', q1, q2, q3, q4, q5, q6, q7, q8⟩ := x
  refine ⟨X, f, fun b hb => ⟨g b hb, fun q => ?_⟩, hc', a', t', tok', oe', vs', q1, q2, q3, q4, q5, q6, q7, ?_⟩
  · obtain ⟨o, e⟩ := hm b q
    rw [f b hb] at e; cases e
  · rcases q8 with ⟨q, _⟩ | ⟨T', oT', ts', fl', r1, r2, r3, r4, r5, r6, r7, r8⟩
    · cases q
    · exact .inr ⟨T', oT', ts', fl', r1, r2, r3, r4, r5, r6, r7, .inl r8⟩
theorem Rel.frA {σ : S} {ρ : List Addr} {s : Shared} (rel : Rel K F σ ρ s) : FrA K F.A s.heap := by
  obtain ⟨e, l, a1, a2, a3⟩ := rel.frs
  exact ⟨_, a1, a3⟩

theorem run_call (fk : FOk F) {f : Value} {g : Fun} {lvl : Nat} (hf : SimF K lvl f g) (hr : Room F.A lvl) {σ : S} {ρ : List Addr} {s : Shared} {vs : List V} {ws : List Value} (rel : Rel K F σ ρ s) (r : RepL K s.heap ρ vs ws) :
    Run K F (PySem.call f ws) (Rep K) (callF g vs σ) ρ s := by
  refine Run.of_wp fun hne => ?_
  have hne' : g vs σ.st ≠ .stuck := by
    intro e; apply hne; unfold callF; rw [e]
  refine wpAny_call (codeAny_mono (hf F.A hr σ.st ρ s rel.toGRel rel.frA vs ws r hne') fun r s' h => ?_)
  rcases h with ⟨v, st', w, ρ', e, rfl, gr, x, rv⟩ | ⟨e, st', w, ρ', e1, rfl, gr, x, rv⟩
  · exact ⟨v, { σ with st := st' }, ρ', by unfold callF; rw [e], rel.called gr x fk, ext_of_nil x, rv⟩
  · exact ⟨e, { σ with st := st' }, ρ', by unfold callF; rw [e1], rel.called gr x fk, ext_of_nil x, rv.toX fun a ha => (rel.mineAbove a ha).2⟩

/-! ### a def's body -/
noncomputable def bindP : List String → List V → String → Option V
  | x :: xs, v :: vs => fun y => if y = x then some v else bindP xs vs y
  | _, _ => fun _ => none
noncomputable def funM (params : List String) (body : M Fl) : Fun := fun vs st =>
  if vs.length = params.length then
    match body ⟨st, bindP params vs⟩ with
    | .ok (.ret v) σ' => .ok v σ'.st
    | .ok _ σ' => .ok .none σ'.st
    | .exc e σ' => .exc e σ'.st
    | .stuck => .stuck
  else .stuck

theorem bindL_mem {kindOf : Str → Option NameKind} : ∀ (binds : List (Str × Value)) (m : Str → Option Value) {x : Str} {w : Value}, (binds.map (·.1)).Nodup → kindOf x = some .local →
    ((x, w) ∈ binds → bindL kindOf binds m x = some w) ∧ (x ∉ binds.map (·.1) → bindL kindOf binds m x = m x)
  | [], m, x, w, _, _ => ⟨fun h => by simp at h, fun _ => rfl⟩
  | (n, v) :: r, m, x, w, hn, hk => by
    obtain ⟨n1, n2⟩ := List.nodup_cons.mp hn
    refine ⟨fun h => ?_, fun h => ?_⟩
    · rcases List.mem_cons.mp h with h | h
      · cases h
        unfold bindL
        rw [(bindL_mem r _ (w := v) n2 hk).2 n1, if_pos hk]; simp
      · unfold bindL
        exact (bindL_mem r _ n2 hk).1 h
    · have h1 : x ≠ n := fun e => h (by simp [e])
      have h2 : x ∉ r.map (·.1) := fun e => h (List.mem_cons_of_mem _ e)
      unfold bindL
      rw [(bindL_mem r _ (w := w) n2 hk).2 h2]
      split
      · exact if_neg h1
      · rfl
theorem bindC_mem {kindOf : Str → Option NameKind} : ∀ (binds : List (Str × Value)) (m : Str → Option Value) {x : Str} {w : Value}, (binds.map (·.1)).Nodup → kindOf x ≠ some .local →
    ((x, w) ∈ binds → bindC kindOf binds m x = some w) ∧ (x ∉ binds.map (·.1) → bindC kindOf binds m x = m x)
  | [], m, x, w, _, _ => ⟨fun h => by simp at h, fun _ => rfl⟩
  | (n, v) :: r, m, x, w, hn, hk => by
    obtain ⟨n1, n2⟩ := List.nodup_cons.mp hn
    refine ⟨fun h => ?_, fun h => ?_⟩
    · rcases List.mem_cons.mp h with h | h
      · cases h
        unfold bindC
        rw [(bindC_mem r _ (w := v) n2 hk).2 n1, if_neg hk]; simp
      · unfold bindC
        exact (bindC_mem r _ n2 hk).1 h
    · have h1 : x ≠ n := fun e => h (by simp [e])
      have h2 : x ∉ r.map (·.1) := fun e => h (List.mem_cons_of_mem _ e)
      unfold bindC
      rw [(bindC_mem r _ (w := w) n2 hk).2 h2]
      split
      · rfl
      · exact if_neg h1

theorem bindP_mem : ∀ {ps : List String} {vs : List V} {ws : List Value} {h : Heap} {ρ : List Addr} {x : String} {v : V}, RepL K h ρ vs ws → bindP ps vs x = some v →
    ∃ w, (Str.ofString x, w) ∈ (ps.map Str.ofString).zip ws ∧ Rep K h ρ v w
  | [], vs, ws, h, ρ, x, v, _, e => by simp [bindP] at e
  | p :: ps, [], ws, h, ρ, x, v, _, e => by simp [bindP] at e
  | p :: ps, u :: vs, ws, h, ρ, x, v, r, e => by
    obtain ⟨w, ws', rfl, r1, r2⟩ := RepL.cons_iff.mp r
    unfold bindP at e
    by_cases hx : x = p
    · rw [if_pos hx] at e; cases e; subst hx
      exact ⟨w, by simp, r1⟩
    · rw [if_neg hx] at e
      obtain ⟨w', h1, h2⟩ := bindP_mem r2 e
      exact ⟨w', by simp only [List.map_cons, List.zip_cons_cons]; exact List.mem_cons_of_mem _ h1, h2⟩

/-- the def as it lies in the base -/
structure DefAt (K : Glo) (fa : Addr) (fd : FuncData) (body : List Stmt) : Prop where
  obj : ∃ o, K.base.get? fa = some o ∧ o.data = .func fd
  code : K.base.CodeRec fd.code fd.qualname
  body : fd.body = .stmts body
  clo : fd.closure = []
  glob : fd.globals = mainGlobals
  blt : fd.builtins = builtinsNs
  co : fd.scope.isCoroutine = false
  gen : fd.scope.isGenerator = false
  kind : fd.scope.kind = .function

/-- an exception leaves the frame -/
theorem leave_x {e : Exc} {ρ ρ₀ : List Addr} {h₀ : Heap} {v : Value} {s : Shared} {σ : S} {Q : Unit → Shared → Prop} {E : Value → Shared → Prop} (x : XRep K F e h₀ v s) (rel : Rel K F σ ρ s) (ext : Ext F.mine ρ₀ ρ h₀ s.heap)
    (h : ∀ s', Rel K F σ ρ s' → Ext F.mine ρ₀ ρ h₀ s'.heap → XOut K e h₀ v s' → Q () s') : wpAny (model K.prog K.w) F.A (leaving F.env v) Q E s := by
  unfold leaving
  refine wpAny_bind (x.noted rel ext fun s₁ rel₁ ext₁ x₁ => ?_)
  refine x₁.flight rel₁ ext₁ (.inl rfl) fun s₂ rel₂ ext₂ x₂ => h s₂ rel₂ ext₂ ?_
  obtain ⟨X', f', g', hc', a', t', tok', oe', vs', q1, q2, q3, q4, q5, q6, q7, q8⟩ := x₂
  refine ⟨X', f', fun b hb => (g' b hb).1, hc', a', t', tok', oe', vs', q1, q2, q3, q4, q5, q6, q7, ?_⟩
  rcases q8 with ⟨q, _⟩ | ⟨T', oT', ts', fl', r1, r2, r3, r4, r5, r6, r7, r8⟩
  · cases q
  · exact .inr ⟨T', oT', ts', fl', r1, r2, r3, r4, r5, r6, r7, r8.2 rfl⟩

noncomputable def cellAddrs (cells : List (Str × Addr)) : List Addr := cells.filterMap fun x => cells.lookup x.1
theorem mem_cellAddrs {cells : List (Str × Addr)} {c : Addr} (h : c ∈ cellAddrs cells) : ∃ n, cells.lookup n = some c := by
  obtain ⟨x, _, e⟩ := List.mem_filterMap.mp h; exact ⟨x.1, e⟩
theorem cellAddrs_of {cells : List (Str × Addr)} {x : Str} {c : Addr} (h : cells.lookup x = some c) : c ∈ cellAddrs cells :=
  List.mem_filterMap.mpr ⟨(x, c), mem_of_lookup h, h⟩
theorem cells_apart : ∀ (names : List (Str × NameKind)) (n : Nat) (acc : List (Str × Addr)), (acc.Pairwise fun x y => x.2 ≠ y.2) → (∀ p ∈ acc, p.2 < n) → ((cellsFrom n names acc).Pairwise fun x y => x.2 ≠ y.2)
  | [], n, acc, h, _ => h
  | (nm, k) :: r, n, acc, h, hlt => by
    unfold cellsFrom
    split
    · refine cells_apart r (n + 1) _ (List.pairwise_cons.mpr ⟨fun p hp => ?_, h⟩) ?_
      · exact fun e => absurd (hlt p hp) (by rw [← e]; exact Nat.lt_irrefl _)
      · intro p hp
        rcases List.mem_cons.mp hp with rfl | hp
        · exact Nat.lt_succ_self _
        · exact Nat.lt_succ_of_lt (hlt p hp)
    · exact cells_apart r n acc h hlt
theorem cell_inj {names : List (Str × NameKind)} {n : Nat} {x : Str} {c : Addr} (h : (cellsFrom n names []).lookup x = some c) : ∀ y, (cellsFrom n names []).lookup y = some c → y = x :=
  fun y hy => name_of_addr (cells_apart names n [] List.Pairwise.nil (by simp)) (mem_of_lookup hy) (mem_of_lookup h)

noncomputable def defFrm (fd : FuncData) (L fa : Addr) (A : Around) : Frm := ⟨callEnvC fd L fa, A, L :: cellAddrs (cellsFrom (L + 1) fd.scope.names []), true⟩

theorem simF_def {lvl : Nat} {fa : Addr} {fd : FuncData} {body : List Stmt} {params : List String} {mb : M Fl} (hd : DefAt K fa fd body)
    (hnd : params.Nodup)
    (hbind : ∀ ws : List Value, ws.length = params.length → bindArgs fd ⟨ws, []⟩ = pure ((params.map Str.ofString).zip ws))
    (hkind : ∀ n, ∀ x ∈ params, fd.scope.names.lookup (Str.ofString x) = some .local ∨ (fd.scope.names.lookup (Str.ofString x) = some .cell ∧ ((cellsFrom n fd.scope.names []).lookup (Str.ofString x)).isSome = true))
    (hb : ∀ L A, Room A lvl → SimSs K (defFrm fd L fa A) body mb) : SimF K (lvl + 1) (.ref fa) (funM params mb) := by
  intro A hroom st ρ s g hfa vs ws r hne
  have hl : vs.length = params.length := by
    by_cases h : vs.length = params.length
    · exact h
    · exact absurd (by unfold funM; rw [if_neg h]) hne
  have hwl : ws.length = params.length := r.length.trans hl
  obtain ⟨o, ho, hdat⟩ := hd.obj
  have hmem : ∀ x ∈ (params.map Str.ofString).zip ws, ∃ p ∈ params, x.1 = Str.ofString p := by
    intro x hx
    have := (List.of_mem_zip (a := x.1) (b := x.2) hx).1
    obtain ⟨p, hp, e⟩ := List.mem_map.mp this
    exact ⟨p, hp, e.symm⟩
  have hnd' : (((params.map Str.ofString).zip ws).map (·.1)).Nodup := by
    rw [List.map_fst_zip (by simp [hwl])]
    have inj : ∀ l : List String, l.Nodup → (l.map Str.ofString).Nodup := by
      intro l
      induction l with
      | nil => intro _; exact List.nodup_nil
      | cons a l ih =>
        intro hn
        obtain ⟨a1, a2⟩ := List.nodup_cons.mp hn
        refine List.nodup_cons.mpr ⟨fun hm => ?_, ih a2⟩
        obtain ⟨b, hb, e⟩ := List.mem_map.mp hm
        exact a1 (ofString_inj e ▸ hb)
    exact inj params hnd
  refine codeAny_call_cells (fd := fd) (binds := (params.map Str.ofString).zip ws) (by have := hroom.2.1; (first | lia | omega)) (g.base fa o ho) hdat (K.top.nolimit.keeps g.base) (hd.code.keeps g.base) hd.body (hbind ws hwl) hd.clo ?_ ?_ hd.co hd.gen hd.kind
  · intro x hx
    obtain ⟨p, hp, e⟩ := hmem x hx
    rw [e]; exact hkind _ p hp
  · intro s₁ X
    have hkeep := X.toInCall.keep
    obtain ⟨h₁, tk, rfl, _⟩ := X.done
    have hLfresh := X.toInCall.fresh
    have fresh : ∀ {a : Addr}, s.heap.objs.size ≤ a → s.heap.get? a = none := fun ha => Heap.get?_none_of_le ha
    have fbase : ∀ {a : Addr}, s.heap.get? a = none → K.base.get? a = none := by
      intro a ha
      cases e : K.base.get? a with
      | none => rfl
      | some o' => have := g.base a o' e; rw [ha] at this; cases this
    have hmineFresh : ∀ a ∈ (defFrm fd s.heap.objs.size fa (A.deeper (callEnvC fd s.heap.objs.size fa))).mine, s.heap.get? a = none ∧ ∃ o', h₁.get? a = some o' := by
      intro a ha
      rcases List.mem_cons.mp ha with rfl | ha
      · obtain ⟨o', _, _, e, _⟩ := X.toInCall.ns
        exact ⟨fresh hLfresh, o', e⟩
      · obtain ⟨n, hn⟩ := mem_cellAddrs ha
        have h1 := X.above n a (mem_of_lookup hn)
        obtain ⟨o', e, _⟩ := X.cell n a hn
        exact ⟨fresh (Nat.le_of_lt (Nat.lt_of_le_of_lt hLfresh h1)), o', e⟩
    have rel : Rel K (defFrm fd s.heap.objs.size fa (A.deeper (callEnvC fd s.heap.objs.size fa))) ⟨st, bindP params vs⟩ ρ { s with heap := h₁, toks := tk } := by
      refine { toGRel := g.kept hkeep rfl rfl, vars := ?_, loc := ⟨_, X.toInCall.ns⟩, cels := fun x c e => ⟨_, X.cell x c e⟩, mineAbove := ?_, mineApart := ?_, mineLoc := List.mem_cons_self, frs := ?_ }
      · intro x v e
        obtain ⟨w, h1, h2⟩ := bindP_mem r e
        refine ⟨w, ?_, Rep.mono' (List.prefix_refl _) (kept_tup hkeep) h2⟩
        obtain ⟨p, hp, ep⟩ := hmem _ h1
        have hx : x = p := ofString_inj ep
        subst hx
        rcases hkind (s.heap.objs.size + 1) x hp with hk | ⟨hk, hk2⟩
        · exact .inl ⟨hk, _, X.toInCall.ns, (bindL_mem _ _ hnd' hk).1 h1⟩
        · obtain ⟨c, hc⟩ := Option.isSome_iff_exists.mp hk2
          refine .inr ⟨.inl hk, c, hc, ?_⟩
          have hnl : (callEnvC fd s.heap.objs.size fa).kindOf (Str.ofString x) ≠ some .local := by
            show fd.scope.names.lookup (Str.ofString x) ≠ some .local
            rw [hk]; decide
          have := X.cell _ c hc
          rw [(bindC_mem _ _ hnd' hnl).1 h1] at this
          exact this
      · intro a ha
        obtain ⟨h1, h2⟩ := hmineFresh a ha
        exact ⟨fbase h1, h2⟩
      · intro a ha hb
        obtain ⟨h1, _⟩ := hmineFresh a ha
        obtain ⟨it, o', e, _⟩ := g.alive hb
        rw [h1] at e; cases e
      · obtain ⟨l, hl1, hl2⟩ := hfa
        refine ⟨callEnvC fd s.heap.objs.size fa, l, by show A.frames.map _ = _; rw [hl1]; rfl, rfl, ?_⟩
        intro env he
        rcases List.mem_cons.mp he with rfl | he
        · obtain ⟨o', es, ep, e1, d1, _⟩ := X.toInCall.ns
          exact ⟨by show fd.scope.kind ≠ _; rw [hd.kind]; decide, s.heap.objs.size, o', _, _, rfl, fbase (fresh (Nat.le_refl _)), e1, d1⟩
        · exact hl2.next (fun b o es n _ q d => ⟨o, es, n, hkeep b o q, d⟩) env he
    have hrun := hb s.heap.objs.size (A.deeper (callEnvC fd s.heap.objs.size fa)) (hroom.deeper _) _ ρ _ rel
    have up : ∀ {ρ' : List Addr} {h' : Heap}, Ext (defFrm fd s.heap.objs.size fa (A.deeper (callEnvC fd s.heap.objs.size fa))).mine ρ ρ' h₁ h' → Ext [] ρ ρ' s.heap h' := by
      intro ρ' h' x
      refine ⟨x.pre, fun b o' e => x.alive b o' (hkeep b o' e), fun a ha => ?_, fun b o' e n1 _ => x.keep b o' (hkeep b o' e) n1 (fun hm => ?_), fun b o' e f => x.froz b o' (hkeep b o' e) f⟩
      · rcases x.new a ha with h1 | h1
        · exact .inl h1
        · refine .inr ?_
          cases e : s.heap.get? a with
          | none => rfl
          | some o' => have := hkeep a o' e; rw [h1] at this; cases this
      · have := (hmineFresh b hm).1
        rw [e] at this; cases this
    have hout : funM params mb vs st = (match mb ⟨st, bindP params vs⟩ with
      | .ok (.ret v) σ' => .ok v σ'.st
      | .ok _ σ' => .ok .none σ'.st
      | .exc e σ' => .exc e σ'.st
      | .stuck => .stuck) := by unfold funM; rw [if_pos hl]
    cases em : mb ⟨st, bindP params vs⟩ with
    | stuck => rw [em] at hout; exact absurd hout hne
    | exc e σ' =>
      rw [em] at hrun
      rw [em] at hout
      refine wpAny_mono hrun (fun _ _ h => h.elim) fun v s' ⟨ρ', rel', x', xr⟩ => ?_
      refine leave_x (K := K) (F := defFrm fd s.heap.objs.size fa (A.deeper (callEnvC fd s.heap.objs.size fa))) (σ := σ') xr rel' x' fun s₂ rel₂ x₂ xo => ?_
      obtain ⟨X', f', g'⟩ := xo
      have f2 : ∀ b ∈ X', s.heap.get? b = none := by
        intro b hb
        cases q : s.heap.get? b with
        | none => rfl
        | some o' => have := hkeep b o' q; rw [f' b hb] at this; cases this
      exact .inr ⟨e, σ'.st, v, ρ', hout, rfl, rel₂.toGRel, up x₂, X', f2, g'⟩
    | ok f σ' =>
      rw [em] at hrun hout
      refine wpAny_mono hrun (fun wf s' ⟨ρ', rel', x', rf⟩ => ?_) fun _ _ h => h.elim
      cases f with
      | ret v =>
        obtain ⟨w, rfl, rw'⟩ := rf
        exact .inl ⟨v, σ'.st, w, ρ', hout, rfl, rel'.toGRel, up x', rw'⟩
      | next => have : wf = .next := rf; subst this; exact .inl ⟨.none, σ'.st, .none, ρ', hout, rfl, rel'.toGRel, up x', Rep.none⟩
      | brk => have : wf = .brk := rf; subst this; exact .inl ⟨.none, σ'.st, .none, ρ', hout, rfl, rel'.toGRel, up x', Rep.none⟩
      | cont => have : wf = .cont := rf; subst this; exact .inl ⟨.none, σ'.st, .none, ρ', hout, rfl, rel'.toGRel, up x', Rep.none⟩

end

/-! part F7 -/
set_option autoImplicit false
set_option maxRecDepth 100000
set_option linter.unusedVariables false
open PySem PySem.W PyProof.Rows
section
variable {K : Glo} {F : Frm}

theorem wp_global {A : Around} {s : Shared} {σ : S} {ρ : List Addr} {x : Str} {pos : Pos} {v : Value} {Q : Value → Shared → Prop} {E : Value → Shared → Prop} (fk : FOk F) (rel : Rel K F σ ρ s) (hx : F.env.kindOf x = some .globalImplicit)
    (hg : K.mg x = some v) (h : Q v s) (hd : (x == ("__debug__" : Str)) = false := by decide) : wpAny (model K.prog K.w) A (eval (.Name x pos) F.env) Q E s :=
  Calls.Name_function_global fk.kind hx (Calls.loadGlobal_global (mg := K.mg) (by rw [fk.glob]; exact K.top.g.keeps rel.base) hg h) hd

theorem wp_builtin {A : Around} {s : Shared} {σ : S} {ρ : List Addr} {x : Str} {pos : Pos} {v : Value} {Q : Value → Shared → Prop} {E : Value → Shared → Prop} (fk : FOk F) (rel : Rel K F σ ρ s) (hx : F.env.kindOf x = some .globalImplicit)
    (hm : K.mg x = none) (hb : bootBuiltins x = some v) (h : Q v s) (hn : x ≠ "__name__" := by decide) (hd : (x == ("__debug__" : Str)) = false := by decide) : wpAny (model K.prog K.w) A (eval (.Name x pos) F.env) Q E s :=
  Calls.Name_function_global fk.kind hx (Calls.loadGlobal_builtin (mg := K.mg) (mb := K.mb) (by rw [fk.glob]; exact K.top.g.keeps rel.base) hm (by rw [fk.blt]; exact K.top.b.keeps rel.base) ((K.top.builtins x hn).trans hb) h) hd

theorem backTo_any (pos : Pos) (l : List (Bool × Sem Value)) : (backTo pos l).any (·.1) = l.any (·.1) := by
  unfold backTo; rw [List.any_map]; rfl

theorem wp_evalArgs {A : Around} {M : Model} {E : Value → Shared → Prop} {s : Shared} {f : Value} {args : List (Bool × Sem Value)} {Q : Args → Shared → Prop} (hpl : args.any (·.1) = false)
    (h : wpAny M A (spliced args) (fun vs s' => Q ⟨vs, []⟩ s') E s) : wpAny M A (evalArgs f true args []) Q E s := by
  cases args with
  | nil =>
    unfold evalArgs
    show wpAny M A (spliced [] >>= _) Q E s
    refine wpAny_bind (wpAny_mono h (fun vs s' h' => wpAny_bind (wpAny_pure (wpAny_holding ?_))) fun _ _ e => e)
    exact wpAny_bind (wpAny_pure (wpAny_bind (wpAny_pure (wpAny_pure h'))))
  | cons a r =>
    obtain ⟨b, x⟩ := a
    have : b = false := by
      rw [List.any_cons] at hpl
      cases b <;> simp_all
    subst this
    exact Calls.evalArgs_plain h

theorem eval_CallName (x : Str) (np pos : Pos) (args : List Expr) (env : Env) : eval (.Call (.Name x np) args [] pos) env = (do callWith pos (← eval (.Name x np) env) [] (backTo pos (starEach args env)) []) := rfl

/-- a call of a def of the text -/
theorem simE_callDef (fk : FOk F) {x : String} {np pos : Pos} {args : List Expr} {ms : M (List V)} {fa : Addr} {fd : FuncData} {body : List Stmt} {g : Fun} {lvl : Nat}
    (hx : F.env.kindOf (Str.ofString x) = some .globalImplicit) (hg : K.mg (Str.ofString x) = some (.ref fa)) (hd : DefAt K fa fd body) (hf : SimF K lvl (.ref fa) g) (hr : Room F.A lvl) (hs : SimEs K F args ms)
    (hpl : (starEach args F.env).any (·.1) = false := by rfl) (hdb : (Str.ofString x == ("__debug__" : Str)) = false := by decide) :
    SimE K F (.Call (.Name (Str.ofString x) np) args [] pos) (do let vs ← ms; callF g vs) := by
  intro σ ρ s rel
  refine Run.of_wp fun hne => ?_
  rw [eval_CallName]
  refine wpAny_bind (wp_global fk rel hx hg ?_ hdb)
  obtain ⟨o, ho, hdat⟩ := hd.obj
  refine Calls.callWith_function (o := o) (fd := fd) (wp_evalArgs (by rw [backTo_any]; exact hpl) ?_)
  refine Run.bindWp (hs pos σ ρ s rel) hne fun vs σ' ρ' s' ws e1 e2 rel' x' rv => ⟨⟨rel'.base _ _ ho, hdat⟩, ?_⟩
  rw [e2] at hne ⊢
  exact wpAny_mono ((run_call fk hf hr rel' rv).wp hne) (fun _ _ q => q.up x') fun _ _ q => q.up x'

/-- a built-in, or a type, called -/
noncomputable def BuiltOk (K : Glo) (f : Value) (g : List V → M V) : Prop :=
  ∀ F : Frm, FOk F → F.nh = true → ∀ σ ρ s vs ws, Rel K F σ ρ s → RepL K s.heap ρ vs ws → Run K F (PySem.call f ws) (Rep K) (g vs σ) ρ s

noncomputable def isBT : Value → Bool
  | .builtin _ => true
  | .type _ => true
  | _ => false

theorem wp_callWith {A : Around} {M : Model} {E : Value → Shared → Prop} {s : Shared} {pos : Pos} {f : Value} {first : List Value} {args : List (Bool × Sem Value)} {Q : Value → Shared → Prop} (hf : isBT f = true) (hpl : args.any (·.1) = false)
    (h : wpAny M A (spliced args) (fun vs s₁ => wpAny M A (PySem.call f (first ++ vs)) Q E s₁) E s) : wpAny M A (callWith pos f first args []) Q E s := by
  cases f with
  | builtin id => exact Calls.callWith_builtin hpl (wp_evalArgs hpl h)
  | type T => exact PyProof.Rows.callWith_type hpl (wp_evalArgs hpl h)
  | _ => cases hf

theorem simE_callB (fk : FOk F) {x : String} {np pos : Pos} {args : List Expr} {ms : M (List V)} {f : Value} {g : List V → M V} (hf : isBT f = true)
    (hx : F.env.kindOf (Str.ofString x) = some .globalImplicit) (hm : K.mg (Str.ofString x) = none) (hb : bootBuiltins (Str.ofString x) = some f) (ho : BuiltOk K f g) (hs : SimEs K F args ms)
    (hpl : (starEach args F.env).any (·.1) = false := by rfl) (hn : Str.ofString x ≠ "__name__" := by decide) (hdb : (Str.ofString x == ("__debug__" : Str)) = false := by decide) (hnh : F.nh = true := by rfl) :
    SimE K F (.Call (.Name (Str.ofString x) np) args [] pos) (do let vs ← ms; g vs) := by
  intro σ ρ s rel
  refine Run.of_wp fun hne => ?_
  rw [eval_CallName]
  refine wpAny_bind (wp_builtin fk rel hx hm hb ?_ hn hdb)
  refine wp_callWith hf (by rw [backTo_any]; exact hpl) ?_
  refine Run.bindWp (hs pos σ ρ s rel) hne fun vs σ' ρ' s' ws e1 e2 rel' x' rv => ?_
  rw [e2] at hne ⊢
  exact wpAny_mono ((ho F fk hnh σ' ρ' s' vs ws rel' rv).wp hne) (fun _ _ q => q.up x') fun _ _ q => q.up x'

/-! ### methods of lists -/
noncomputable def chkL : V → M Unit
  | .obj l => fun σ => match σ.st[l]? with
    | some (.lst _) => .ok () σ
    | _ => .stuck
  | _ => fun _ => .stuck

theorem chkL_ok {σ : S} {l : Nat} {us : List V} (h : σ.st[l]? = some (.lst us)) : chkL (.obj l) σ = .ok () σ := by
  show (match σ.st[l]? with | some (.lst _) => Res.ok () σ | _ => .stuck) = _
  rw [h]

noncomputable def MethOk (K : Glo) (id : String) (g : V → List V → M V) : Prop :=
  ∀ F : Frm, FOk F → F.nh = true → ∀ σ ρ s o wo vs ws, Rel K F σ ρ s → Rep K s.heap ρ o wo → RepL K s.heap ρ vs ws → Run K F (PySem.call (.builtin id) (wo :: ws)) (Rep K) (g o vs σ) ρ s

theorem Rel.list {σ : S} {ρ : List Addr} {s : Shared} {l : Nat} {w : Value} {vs : List V} (rel : Rel K F σ ρ s) (hr : Rep K s.heap ρ (.obj l) w) (hs : σ.st[l]? = some (.lst vs)) :
    ∃ a ws n, w = .ref a ∧ ρ[l]? = some a ∧ IsL s.heap a ws.toArray n ∧ RepL K s.heap ρ vs ws ∧ vs.length ≤ 1000000 := by
  obtain ⟨a, e, rfl⟩ := Rep.obj_iff.mp hr
  obtain ⟨h0, ws, n, h1, h2⟩ := rel.cell l a _ e hs
  exact ⟨a, ws, n, rfl, e, h1, h2, h0⟩

theorem simE_meth (fk : FOk F) {o : Expr} {name : String} {id : String} {apos pos : Pos} {args : List Expr} {mo : M V} {ms : M (List V)} {g : V → List V → M V} (hsl : Slot "list" (Str.ofString name) id)
    (hty : typeOf (.builtin id) = pure (.type "method_descriptor")) (ho : SimE K F o mo) (hs : SimEs K F args ms) (hm : MethOk K id g) {pl : Sem Bool}
    (he : eval (.Call (.Attribute o (Str.ofString name) apos) args [] pos) F.env = (do
      let ov ← eval o F.env
      standAt apos.atName
      let (f, first) ← holding [ov] (getMethod ov (Str.ofString name) pl)
      callWith pos f first (backTo pos (starEach args F.env)) []) := by rfl)
    (hpl : (starEach args F.env).any (·.1) = false := by rfl) (hnh : F.nh = true := by rfl) :
    SimE K F (.Call (.Attribute o (Str.ofString name) apos) args [] pos) (do let ov ← mo; chkL ov; let vs ← ms; g ov vs) := by
  intro σ ρ s rel
  refine Run.of_wp fun hne => ?_
  refine MethodCall_ (pl := pl) ?_ he
  refine Run.bindWp (ho σ ρ s rel) hne fun ov σ₁ ρ₁ s₁ wo e1 e2 rel₁ x₁ ro => ?_
  rw [e2] at hne ⊢
  cases ov with
  | obj l =>
    cases hc : σ₁.st[l]? with
    | none => exact absurd (by rw [M.bind_def]; simp only [chkL, hc]) hne
    | some c =>
      cases c with
      | lst us =>
        obtain ⟨a, ws, n, rfl, hρ, hL, hr, _⟩ := rel₁.list ro hc
        have e3 : (chkL (.obj l) >>= fun _ => (ms >>= fun vs => g (.obj l) vs)) σ₁ = (ms >>= fun vs => g (.obj l) vs) σ₁ := M.bind_ok (chkL_ok hc)
        rw [e3] at hne ⊢
        refine getMethod_list_of hsl hty hL.isList ⟨_, hL, rfl⟩ ?_
        refine wp_callWith rfl (by rw [backTo_any]; exact hpl) ?_
        refine wpAny_mono (Run.bindWp (P := fun ws' s₂ => wpAny (model K.prog K.w) F.A (PySem.call (.builtin id) (.ref a :: ws')) (QO K F (Rep K) ((ms >>= fun vs => g (.obj l) vs) σ₁) ρ₁ s₁.heap) (EO K F ((ms >>= fun vs => g (.obj l) vs) σ₁) ρ₁ s₁.heap) s₂) (hs pos σ₁ ρ₁ s₁ rel₁) hne ?_) (fun _ _ q => ?_) (fun _ _ q => q.up x₁)
        · intro vs σ₂ ρ₂ s₂ ws₂ e4 e5 rel₂ x₂ rv
          rw [e5] at hne ⊢
          exact wpAny_mono ((hm F fk hnh σ₂ ρ₂ s₂ (.obj l) (.ref a) vs ws₂ rel₂ (ro.mono x₂) rv).wp hne) (fun _ _ q => q.up x₂) fun _ _ q => q.up x₂
        · exact wpAny_mono q (fun _ _ q => q.up x₁) fun _ _ q => q.up x₁
  | _ => exact absurd (by rw [M.bind_def]; simp only [chkL]) hne

end

/-! part E1 -/
set_option autoImplicit false
set_option maxRecDepth 100000
set_option linter.unusedVariables false
open PySem PySem.W PyProof.Rows
section
variable {K : Glo} {F : Frm}

/-! ### an exception is made -/
noncomputable def excHeap (h : Heap) (cls : String) (msg : Str) (tk : Tok) : Heap := (h.push { cls := .type "tuple", data := .seq #[.str msg tk] }).push { cls := .type cls, data := .fields #[.ref h.objs.size, .none, .none, .none, .bool false, .none] }
theorem excHeap_keep {h : Heap} {cls : String} {msg : Str} {tk : Tok} : ∀ b o, h.get? b = some o → (excHeap h cls msg tk).get? b = some o := fun b o e => Heap.get?_push_of_some _ (Heap.get?_push_of_some _ e)
section
variable {M : Model} {A : Around} {E : Value → Shared → Prop} {s : Shared}
theorem raise_words {α : Type} {cls msg : String} {Q : α → Shared → Prop} (hp : PlainExc cls) (hh : A.handled = none)
    (h : E (.ref (s.heap.objs.size + 1)) { s with heap := excHeap s.heap cls (Str.ofString msg) s.toks, toks := s.toks + 1 }) : wpAny M A (raiseErrorWords cls msg : Sem α) Q E s := by
  unfold raiseErrorWords
  refine wpAny_bind (wpAny_mkText (wpAny_bind ?_))
  unfold newExc newTuple
  refine wpAny_bind (wpAny_newObj_type ?_)
  refine wpAny_bind (m := firstArgMember _ _) (wpAny_of_eq (a := Value.none) (by simp only [firstArgMember, hp.first]; rfl) ?_)
  rw [hp.own]
  refine wpAny_newObj_type ?_
  unfold raiseNew
  refine wpAny_bind (wpAny_handled ?_)
  rw [hh]
  first
    | refine wpAny_throw ?_
    | refine wpAny_bind (wpAny_pure (wpAny_throw ?_))
  have : (s.heap.push { cls := .type "tuple", data := .seq #[Value.str (Str.ofString msg) s.toks] }).objs.size = s.heap.objs.size + 1 := Heap.size_push ..
  rw [← this] at h
  exact h
theorem raise_made {α : Type} {cls msg : String} {Q : α → Shared → Prop} (hp : PlainExc cls) (hh : A.handled = none) (hm : (Str.ofString msg).length ≤ sizeLine)
    (h : E (.ref (s.heap.objs.size + 1)) { s with heap := excHeap s.heap cls (Str.ofString msg) s.toks, toks := s.toks + 1 }) : wpAny M A (raiseErrorMade cls msg : Sem α) Q E s := by
  unfold raiseErrorMade
  refine wpAny_bind (wpAny_mkStr (wpAny_bind ?_) hm)
  unfold newExc newTuple
  refine wpAny_bind (wpAny_newObj_type ?_)
  refine wpAny_bind (m := firstArgMember _ _) (wpAny_of_eq (a := Value.none) (by simp only [firstArgMember, hp.first]; rfl) ?_)
  rw [hp.own]
  refine wpAny_newObj_type ?_
  unfold raiseNew
  refine wpAny_bind (wpAny_handled ?_)
  rw [hh]
  first
    | refine wpAny_throw ?_
    | refine wpAny_bind (wpAny_pure (wpAny_throw ?_))
  have : (s.heap.push { cls := .type "tuple", data := .seq #[Value.str (Str.ofString msg) s.toks] }).objs.size = s.heap.objs.size + 1 := Heap.size_push ..
  rw [← this] at h
  exact h
end
theorem x_made {σ : S} {ρ : List Addr} {s : Shared} {cls : String} {msg : Str} {tk : Tok} {n : Nat} (rel : Rel K F σ ρ s) (hc : cls ≠ "range") :
    ∃ ρ', Rel K F σ ρ' { s with heap := excHeap s.heap cls msg tk, toks := n } ∧ Ext F.mine ρ ρ' s.heap (excHeap s.heap cls msg tk) ∧ XRep K F ⟨cls, msg⟩ s.heap (.ref (s.heap.objs.size + 1)) { s with heap := excHeap s.heap cls msg tk, toks := n } := by
  have h1 : (s.heap.push { cls := .type "tuple", data := .seq #[Value.str msg tk] }).objs.size = s.heap.objs.size + 1 := Heap.size_push ..
  have hnew : s.heap.get? (s.heap.objs.size + 1) = none := Heap.get?_none_of_le (Nat.le_succ _)
  have hg : (excHeap s.heap cls msg tk).get? (s.heap.objs.size + 1) = some { cls := .type cls, data := .fields #[.ref s.heap.objs.size, .none, .none, .none, .bool false, .none] } := by
    unfold excHeap
    have := Heap.get?_push_size (s.heap.push { cls := .type "tuple", data := .seq #[Value.str msg tk] }) (o := { cls := .type cls, data := .fields #[.ref s.heap.objs.size, .none, .none, .none, .bool false, .none] }) rfl
    rw [h1] at this; exact this
  have ht : IsTup (excHeap s.heap cls msg tk) s.heap.objs.size #[.str msg tk] := ⟨_, Heap.get?_push_of_some _ (Heap.get?_push_size _ rfl), rfl, 0, rfl⟩
  refine ⟨ρ, rel.kept excHeap_keep rfl rfl, Ext.kept excHeap_keep, [s.heap.objs.size + 1], fun b hb => by rw [List.mem_singleton.mp hb]; exact hnew, fun b hb => ?_, hc, _, _, tk, _, _, rfl, by simp, ht, hg, rfl, rfl, rfl, .inl ⟨rfl, rfl⟩⟩
  rw [List.mem_singleton.mp hb]
  refine ⟨?_, fun q => ?_⟩
  · cases e : K.base.get? (s.heap.objs.size + 1) with
    | none => rfl
    | some o => have := rel.base _ _ e; rw [hnew] at this; cases this
  · obtain ⟨_, o, e⟩ := rel.mineAbove _ q
    rw [hnew] at e; cases e

/-! ### pop of an empty list, an item that is not there -/
open PySem.SeqAt PySem.MeetsSeq PySem.MeetsSeq3 in
theorem pop_empty (l : Addr) (n : Nat) : Meets (Builtin.«list.pop» ⟨[.ref l], []⟩) (fun A R s => A.handled = none ∧ s.heap.get? l = some { cls := .type "list", dict := none, data := .seq #[] n, slots := #[] } ∧
    R (.error (.ref (s.heap.objs.size + 1))) { s with heap := excHeap s.heap "IndexError" (Str.ofString "pop from empty list") s.toks, toks := s.toks + 1 }) :=
  .of_wp fun prog w A R s h => by
    obtain ⟨hh, hl, h⟩ := h
    wp_walk using wpAny_loadPart' hl
    exact raise_words plainExc_IndexError hh h

section
variable {A : Around} {E : Value → Shared → Prop} {s : Shared}
theorem getItem_out {a : Addr} {items : Array Value} {k : Int} {t : Tok} {Q : Value → Shared → Prop} (hl : s.heap.IsList a items) (hh : A.handled = none) (h0 : 0 ≤ k) (hfit : k < 2 ^ 63) (hx : items[k.toNat]? = none)
    (h : E (.ref (s.heap.objs.size + 1)) { s with heap := excHeap s.heap "IndexError" (Str.ofString "list index out of range") s.toks, toks := s.toks + 1 }) : wpAny (model K.prog K.w) A (getItem (.ref a) (.int k t)) Q E s := by
  obtain ⟨o, ho, hc, ne, hd⟩ := id hl
  unfold getItem
  refine wpAny_holding ?_
  first | refine wpAny_bind (wpAny_pure ?_) | skip
  refine wpAny_bind (wpAny_sequenceKey hl.typeIs (by decide) ?_)
  refine wpAny_bind (wpAny_callSpecial?_slot (name := Str.ofString "__getitem__") hl.typeIs slot_list_getitem
    (wpAny_call_entry slot_list_getitem hl.typeIs entry_list_getitem ?_ (args_list_getitem _ _)))
  show wpAny _ _ (Builtin.List.listSubscript? (.int k t) >>= _) _ _ s
  refine wpAny_bind (wpAny_listSubscript_int (fitsIndex_of h0 hfit) ?_)
  clear hfit
  obtain ⟨j, rfl⟩ := Int.eq_ofNat_of_zero_le h0
  have hx' : items[j]? = none := hx
  show wpAny _ _ ((seqItemAt a j >>= fun r => pure (r.map (j, ·))) >>= _) _ _ s
  refine wpAny_bind (wpAny_bind (wpAny_seqItemAt ho hd (wpAny_pure ?_)))
  rw [hx']
  refine wpAny_bind (wpAny_rule ?_)
  exact wpAny_bind (raise_words (A := A.in1) plainExc_IndexError hh h)
end

end

/-! part F8 -/
set_option autoImplicit false
set_option maxRecDepth 100000
set_option linter.unusedVariables false
open PySem PySem.W PyProof.Rows
section
variable {K : Glo} {F : Frm}

/-! ### items -/
noncomputable def ix (n : Nat) (k : Int) : Option Nat := if 0 ≤ k then (if k.toNat < n then some k.toNat else none) else (if -(n : Int) ≤ k then some (k + n).toNat else none)

theorem ix_seq {n j : Nat} {k : Int} (h : ix n k = some j) : seqIndex? k n = some j := by
  unfold ix at h
  unfold seqIndex?
  split at h
  · split at h
    · cases h
      have h1 : ¬ k < 0 := by (first | lia | omega)
      simp only [h1, if_false]
      rw [if_pos (by simp only [Bool.and_eq_true, decide_eq_true_eq]; (first | lia | omega))]
    · cases h
  · split at h
    · cases h
      have h1 : k < 0 := by (first | lia | omega)
      simp only [h1, if_true]
      rw [if_pos (by simp only [Bool.and_eq_true, decide_eq_true_eq]; (first | lia | omega))]
    · cases h
theorem ix_range {n j : Nat} {k : Int} (h : ix n k = some j) (hn : n ≤ 1000000) : -1000000 ≤ k ∧ k < 1000000 := by
  unfold ix at h
  split at h
  · split at h
    · (first | lia | omega)
    · cases h
  · split at h
    · (first | lia | omega)
    · cases h

noncomputable def getI : V → V → M V
  | .obj l, .int k => fun σ => match σ.st[l]? with
    | some (.lst vs) => match ix vs.length k with
      | some j => match vs[j]? with
        | some v => .ok v σ
        | none => .stuck
      | none => .stuck
    | _ => .stuck
  | .tup vs, .int k => fun σ => match ix vs.length k with
    | some j => match vs[j]? with
      | some v => .ok v σ
      | none => .stuck
    | none => .stuck
  | _, _ => fun _ => .stuck

theorem wp_getItem_list {A : Around} {s : Shared} {a : Addr} {ws : List Value} {k : Int} {t : Tok} {j : Nat} {x : Value} {Q : Value → Shared → Prop} {E : Value → Shared → Prop} (hl : s.heap.IsList a ws.toArray) (hn : ws.length ≤ 1000000)
    (hk : ix ws.length k = some j) (hx : ws[j]? = some x) (h : Q x s) : wpAny (model K.prog K.w) A (getItem (.ref a) (.int k t)) Q E s := by
  have hr := ix_range hk hn
  by_cases h0 : 0 ≤ k
  · refine wpAny_getItem_list hl h0 (by (first | lia | omega)) ?_ h
    unfold ix at hk
    rw [if_pos h0] at hk
    split at hk
    · cases hk; simpa using hx
    · cases hk
  · unfold ix at hk
    rw [if_neg h0] at hk
    split at hk
    · cases hk
      refine wpAny_getItem_list_neg hl (by (first | lia | omega)) (by simpa using ‹_›) (by (first | lia | omega)) ?_ h
      simpa using hx
    · cases hk

theorem run_getItem (fk : FOk F) {σ : S} {ρ : List Addr} {s : Shared} {a b : V} {wa wb : Value} (rel : Rel K F σ ρ s) (ra : Rep K s.heap ρ a wa) (rb : Rep K s.heap ρ b wb) {value slice : Expr}
    (hs : ∀ o i, subscripted slice false o i = PySem.operate [o, i] (getItem o i)) : Run K F (subscriptTail value slice wa wb) (Rep K) (getI a b σ) ρ s := by
  cases a with
  | obj l =>
    cases b with
    | int k =>
      obtain ⟨t, rfl⟩ := Rep.int_iff.mp rb
      unfold getI
      dsimp only
      cases hc : σ.st[l]? with
      | none => exact Run.stuck
      | some c =>
        cases c with
        | lst vs =>
          dsimp only
          obtain ⟨ad, ws, n, rfl, hρ, hL, hr, hn⟩ := rel.list ra hc
          cases hi : ix vs.length k with
          | none => exact Run.stuck
          | some j =>
            dsimp only
            cases hv : vs[j]? with
            | none => exact Run.stuck
            | some v =>
              obtain ⟨w, hw, rw'⟩ := hr.get? hv
              refine Run.ok (tail_any hL.isList.typeIs slot_list_getitem.lookup (wp_getItem_list hL.isList (by rw [hr.length]; exact hn) (by rw [hr.length]; exact hi) hw ?_) (hs _ _))
              exact ⟨ρ, rel, Ext.refl .., rw'⟩
    | _ => exact Run.stuck
  | tup vs =>
    cases b with
    | int k =>
      obtain ⟨t, rfl⟩ := Rep.int_iff.mp rb
      obtain ⟨hn, ad, ws, rfl, ht, hr⟩ := Rep.tup_iff.mp ra
      unfold getI
      dsimp only
      cases hi : ix vs.length k with
      | none => exact Run.stuck
      | some j =>
        dsimp only
        cases hv : vs[j]? with
        | none => exact Run.stuck
        | some v =>
          obtain ⟨w, hw, rw'⟩ := hr.get? hv
          have hrg := ix_range hi hn
          refine Run.ok (tail_any ht.typeIs slot_tuple_getitem.lookup (PyProof.Rows.getItem_tuple ht (by (first | lia | omega)) (by (first | lia | omega)) (j := j) (by rw [List.size_toArray, hr.length]; exact ix_seq hi) (by simpa using hw) ?_) (hs _ _))
          exact ⟨ρ, rel, Ext.refl .., rw'⟩
    | _ => exact Run.stuck
  | _ => cases b <;> exact Run.stuck

theorem simE_sub (fk : FOk F) {value slice : Expr} {mv mi : M V} (pos : Pos) (hv : SimE K F value mv) (hi : SimE K F slice mi)
    (hs : ∀ o i, subscripted slice false o i = PySem.operate [o, i] (getItem o i) := by intro _ _; rfl) :
    SimE K F (.Subscript value slice pos) (do let o ← mv; let i ← mi; getI o i) := by
  intro σ ρ s rel
  rw [eval_Subscript]
  refine Run.bind (hv σ ρ s rel) fun a σ₁ ρ₁ s₁ wa _ rel₁ x₁ ra => ?_
  refine Run.bind (Run.holding (hi σ₁ ρ₁ s₁ rel₁)) fun b σ₂ ρ₂ s₂ wb _ rel₂ x₂ rb => ?_
  exact Run.standAt (run_getItem fk rel₂ (ra.mono x₂) rb hs)

/-- heap[0], where IndexError counts -/
noncomputable def getIX : V → V → M V
  | .obj l, .int k => fun σ => match σ.st[l]? with
    | some (.lst vs) => if 0 ≤ k ∧ k < 1000000 then (match vs[k.toNat]? with
      | some v => .ok v σ
      | none => .exc ⟨"IndexError", Str.ofString "list index out of range"⟩ σ) else .stuck
    | _ => .stuck
  | _, _ => fun _ => .stuck
theorem wp_subTail {value slice : Expr} {a : Addr} {i : Value} {A : Around} {E : Value → Shared → Prop} {s : Shared} {Q : Value → Shared → Prop} {items : Array Value} (hl : s.heap.IsList a items)
    (h : wpAny (model K.prog K.w) A (getItem (.ref a) i) Q E s) (hs : subscripted slice false (.ref a) i = PySem.operate [.ref a, i] (getItem (.ref a) i)) : wpAny (model K.prog K.w) A (subscriptTail value slice (.ref a) i) Q E s :=
  tail_any hl.typeIs slot_list_getitem.lookup h hs
theorem simE_subX (fk : FOk F) {value slice : Expr} {mv mi : M V} (pos : Pos) (hv : SimE K F value mv) (hi : SimE K F slice mi)
    (hs : ∀ o i, subscripted slice false o i = PySem.operate [o, i] (getItem o i) := by intro _ _; rfl) (hnh : F.nh = true := by rfl) :
    SimE K F (.Subscript value slice pos) (do let o ← mv; let i ← mi; getIX o i) := by
  intro σ ρ s rel
  rw [eval_Subscript]
  refine Run.bind (hv σ ρ s rel) fun a σ₁ ρ₁ s₁ wa _ rel₁ x₁ ra => ?_
  refine Run.bind (Run.holding (hi σ₁ ρ₁ s₁ rel₁)) fun b σ₂ ρ₂ s₂ wb _ rel₂ x₂ rb => ?_
  refine Run.standAt ?_
  have ra' := ra.mono x₂
  show Run K F (subscriptTail value slice wa wb) (Rep K) (getIX a b σ₂) ρ₂ s₂
  cases a with
  | obj l =>
    cases b with
    | int k =>
      obtain ⟨t, rfl⟩ := Rep.int_iff.mp rb
      unfold getIX
      dsimp only
      cases hc : σ₂.st[l]? with
      | none => exact Run.stuck
      | some c =>
        cases c with
        | lst vs =>
          dsimp only
          obtain ⟨ad, ws, n, rfl, hρ, hL, hr, hn⟩ := rel₂.list ra' hc
          by_cases hz : 0 ≤ k ∧ k < 1000000
          · rw [if_pos hz]
            cases hv : vs[k.toNat]? with
            | none =>
              have hw : ws.toArray[k.toNat]? = none := by
                have := hr.length
                simp only [List.getElem?_toArray, List.getElem?_eq_none_iff] at hv ⊢; (first | lia | omega)
              exact wp_subTail hL.isList (getItem_out hL.isList (fk.hd hnh) hz.1 (by (first | lia | omega)) hw (x_made rel₂ (by decide))) (hs _ _)
            | some v =>
              obtain ⟨w, hw, rw'⟩ := hr.get? hv
              refine Run.ok (wp_subTail hL.isList (wpAny_getItem_list hL.isList hz.1 (by (first | lia | omega)) (by simpa using hw) ?_) (hs _ _))
              exact ⟨ρ₂, rel₂, Ext.refl .., rw'⟩
          · rw [if_neg hz]; exact Run.stuck
    | _ => exact Run.stuck
  | _ => cases b <;> exact Run.stuck

/-! ### an item is stored -/
theorem wp_setItem_list {A : Around} {s : Shared} {a : Addr} {items : Array Value} {n : Nat} {k : Int} {t : Tok} {v : Value} {Q : Unit → Shared → Prop} {E : Value → Shared → Prop} (hl : IsL s.heap a items n)
    (h0 : 0 ≤ k) (hfit : k < 2 ^ 63) (hn : k < items.size)
    (hQ : Q () { s with heap := s.heap.update a (Obj.mapSeq (·.setIfInBounds k.toNat v)) }) :
    wpAny (model K.prog K.w) A (setItem (.ref a) (.int k t) v) Q E s := by
  have hT : s.TypeIs (.ref a) "list" := ⟨_, hl, rfl⟩
  unfold setItem
  try with_reducible refine wpAny_holding ?_
  first | refine wpAny_bind (wpAny_pure ?_) | skip
  refine wpAny_bind (wpAny_sequenceKey hT (by decide) ?_)
  refine wpAny_bind (wpAny_callSpecial?_slot (name := Str.ofString "__setitem__") hT slot_list_setitem
    (wpAny_call_entry slot_list_setitem hT entry_list_setitem ?_ (args_list_setitem _ _ _)))
  show wpAny _ _ (Builtin.List.listSubscript? (.int k t) >>= _) _ _ s
  refine wpAny_bind (wpAny_listSubscript_int (fitsIndex_of h0 hfit) ?_)
  clear hfit
  obtain ⟨j, rfl⟩ := Int.eq_ofNat_of_zero_le h0
  have hj : j < items.size := by (first | lia | omega)
  have hx' : items[j]? = some items[j] := Array.getElem?_eq_getElem hj
  show wpAny _ _ ((seqItemAt a j >>= fun r => pure (r.map (j, ·))) >>= _) _ _ s
  refine wpAny_bind (wpAny_bind (wpAny_seqItemAt hl rfl (wpAny_pure ?_)))
  rw [hx']
  show wpAny _ _ (setSeqItemAt a j v >>= _) _ _ s
  refine wpAny_bind (wpAny_setSeqItemAt hl rfl ?_)
  first
    | exact wpAny_bind (wpAny_pure (wpAny_pure ⟨.none, rfl, wpAny_pure hQ⟩))
    | exact wpAny_pure ⟨.none, rfl, wpAny_pure hQ⟩

noncomputable def setI : V → V → V → M Unit
  | .obj l, .int k, v => fun σ => match σ.st[l]? with
    | some (.lst vs) => if l ≠ 0 ∧ 0 ≤ k ∧ k.toNat < vs.length then .ok () { σ with st := σ.st.set l (.lst (vs.set k.toNat v)) } else .stuck
    | _ => .stuck
  | _, _, _ => fun _ => .stuck

theorem run_setItem (fk : FOk F) {σ : S} {ρ : List Addr} {s : Shared} {a b v : V} {wa wb wv : Value} (rel : Rel K F σ ρ s) (ra : Rep K s.heap ρ a wa) (rb : Rep K s.heap ρ b wb) (rv : Rep K s.heap ρ v wv) :
    Run K F (setItem wa wb wv) URep (setI a b v σ) ρ s := by
  cases a with
  | obj l =>
    cases b with
    | int k =>
      obtain ⟨t, rfl⟩ := Rep.int_iff.mp rb
      unfold setI
      dsimp only
      cases hc : σ.st[l]? with
      | none => exact Run.stuck
      | some c =>
        cases c with
        | lst vs =>
          dsimp only
          obtain ⟨ad, ws, n, rfl, hρ, hL, hr, hn⟩ := rel.list ra hc
          by_cases hk : l ≠ 0 ∧ 0 ≤ k ∧ k.toNat < vs.length
          · rw [if_pos hk]
            obtain ⟨j, rfl⟩ := Int.eq_ofNat_of_zero_le hk.2.1
            have hj : j < vs.length := by simpa using hk.2.2
            refine Run.ok (wp_setItem_list hL hk.2.1 (by (first | lia | omega)) (by rw [List.size_toArray, hr.length]; (first | lia | omega)) ?_)
            obtain ⟨rel', x'⟩ := rel.upd (s' := { s with heap := s.heap.update ad (Obj.mapSeq (·.setIfInBounds j wv)) }) (vs := vs.set j v) (ws := ws.set j wv) (n := n) hρ hk.1 (Heap.SameBut.update ..) (by
              have := hL.update (·.setIfInBounds j wv)
              simpa using this) (hr.set j rv) (by simpa using hn) rfl rfl
            exact ⟨ρ, rel', x', trivial⟩
          · rw [if_neg hk]; exact Run.stuck
    | _ => exact Run.stuck
  | _ => exact Run.stuck

theorem assign_Sub (o i : Expr) (pos : Pos) (env : Env) (w : Value) : assign (.Subscript o i pos) env w = (do
    let ov ← holding [w] (eval o env)
    let iv ← holding [w, ov] (eval i env)
    standAt pos
    holding [w, ov, iv] (setItem ov iv w)
    release (match i with | .Slice _ _ none _ => [iv, w, ov] | _ => [w, ov, iv]) []) := rfl
theorem simT_sub (fk : FOk F) {o i : Expr} {mo mi : M V} (pos : Pos) (ho : SimE K F o mo) (hi : SimE K F i mi) : SimT K F (.Subscript o i pos) (fun v => do let a ← mo; let b ← mi; setI a b v) := by
  intro σ ρ s v w rel rv
  rw [assign_Sub]
  refine Run.bind (Run.holding (ho σ ρ s rel)) fun a σ₁ ρ₁ s₁ wa _ rel₁ x₁ ra => ?_
  refine Run.bind (Run.holding (hi σ₁ ρ₁ s₁ rel₁)) fun b σ₂ ρ₂ s₂ wb _ rel₂ x₂ rb => ?_
  refine Run.standAt ?_
  have key := run_setItem fk rel₂ (ra.mono x₂) rb ((rv.mono x₁).mono x₂)
  have e : setI a b v σ₂ = (setI a b v >>= fun u => (pure u : M Unit)) σ₂ := by
    rw [M.bind_def]; cases setI a b v σ₂ <;> rfl
  rw [e]
  refine Run.bind (Run.holding key) fun u σ₃ ρ₃ s₃ _ _ rel₃ x₃ _ => ?_
  exact Run.ok (wpAny_release ⟨ρ₃, rel₃, Ext.refl .., trivial⟩)

end

/-! part F9 -/
set_option autoImplicit false
set_option maxRecDepth 100000
set_option linter.unusedVariables false
open PySem PySem.W PyProof.Rows
section
variable {K : Glo} {F : Frm}

/-! ### values as data -/
noncomputable def mapO {α β : Type} (f : α → Option β) : List α → Option (List β)
  | [] => some []
  | a :: r => match f a, mapO f r with
    | some b, some bs => some (b :: bs)
    | _, _ => none

noncomputable def toD (st : Store) : Nat → V → Option PyData
  | 0, _ => none
  | n + 1, v => match v with
    | .none => some .none
    | .bool b => some (.bool b)
    | .int i => some (.int i)
    | .str x => if PySem.PyData.strOk x then some (.str x) else none
    | .tup vs => (mapO (toD st n) vs).map .tuple
    | .obj l => match st[l]? with
      | some (.lst vs) => (mapO (toD st n) vs).map .list
      | _ => none
    | _ => none

theorem mapO_cons {α β : Type} {f : α → Option β} {a : α} {r : List α} {l : List β} (h : mapO f (a :: r) = some l) : ∃ b bs, f a = some b ∧ mapO f r = some bs ∧ l = b :: bs := by
  unfold mapO at h
  cases h1 : f a with
  | none => rw [h1] at h; cases h
  | some b =>
    cases h2 : mapO f r with
    | none => rw [h1, h2] at h; cases h
    | some bs => rw [h1, h2] at h; cases h; exact ⟨b, bs, rfl, rfl, rfl⟩

theorem reads_all {h : Heap} {ρ : List Addr} {f : V → Option PyData} {n : Nat}
    (hf : ∀ v w d, f v = some d → Rep K h ρ v w → ∃ as, Reads h w d as ∧ d.canLay0 = true ∧ d.depth ≤ n) : ∀ (vs : List V) (ws : List Value) (ds : List PyData), mapO f vs = some ds → RepL K h ρ vs ws →
    ∃ as, ReadsAll h ws ds as ∧ PyData.canLayAll0 ds = true ∧ PyData.depthAll ds ≤ n
  | [], ws, ds, e, r => by
    unfold mapO at e; cases e
    rw [RepL.nil_iff.mp r]
    exact ⟨[], .nil, rfl, Nat.zero_le _⟩
  | v :: vs, ws, ds, e, r => by
    obtain ⟨b, bs, e1, e2, rfl⟩ := mapO_cons e
    obtain ⟨w, ws', rfl, r1, r2⟩ := RepL.cons_iff.mp r
    obtain ⟨as, q1, q2, q3⟩ := hf v w b e1 r1
    obtain ⟨as', p1, p2, p3⟩ := reads_all hf vs ws' bs e2 r2
    refine ⟨as ++ as', .cons q1 p1, ?_, ?_⟩
    · simp [PyData.canLayAll0, q2, p2]
    · simp [PyData.depthAll]; (first | lia | omega)

theorem toD_reads {st : Store} {ρ : List Addr} {s : Shared} (g : GRel K st ρ s) : ∀ (n : Nat) (v : V) (w : Value) (d : PyData), toD st n v = some d → Rep K s.heap ρ v w →
    ∃ as, Reads s.heap w d as ∧ d.canLay0 = true ∧ d.depth ≤ n
  | 0, v, w, d, e, _ => by simp [toD] at e
  | n + 1, v, w, d, e, r => by
    cases v with
    | none => simp only [toD] at e; cases e; rw [Rep.none_iff.mp r]; exact ⟨[], .none, rfl, Nat.zero_le _⟩
    | bool b => simp only [toD] at e; cases e; rw [Rep.bool_iff.mp r]; exact ⟨[], .bool b, rfl, Nat.zero_le _⟩
    | int i => simp only [toD] at e; cases e; obtain ⟨t, rfl⟩ := Rep.int_iff.mp r; exact ⟨[], .int i t, rfl, Nat.zero_le _⟩
    | str x =>
      simp only [toD] at e
      split at e
      · cases e; obtain ⟨t, rfl⟩ := Rep.str_iff.mp r; exact ⟨[], .str x t, by assumption, Nat.zero_le _⟩
      · cases e
    | tup vs =>
      simp only [toD] at e
      cases em : mapO (toD st n) vs with
      | none => rw [em] at e; cases e
      | some ds =>
        rw [em] at e; cases e
        obtain ⟨_, a, ws, rfl, ⟨o, h1, h2, k, h3⟩, rl⟩ := Rep.tup_iff.mp r
        obtain ⟨as, q1, q2, q3⟩ := reads_all (K := K) (n := n) (fun v w d e r => toD_reads g n v w d e r) vs ws ds em rl
        exact ⟨as, .tuple h1 h2 h3 (by simpa using q1), q2, by simp [PyData.depth]; (first | lia | omega)⟩
    | obj l =>
      simp only [toD] at e
      cases hc : st[l]? with
      | none => rw [hc] at e; cases e
      | some c =>
        cases c with
        | lst vs =>
          rw [hc] at e
          dsimp only at e
          cases em : mapO (toD st n) vs with
          | none => rw [em] at e; cases e
          | some ds =>
            rw [em] at e; cases e
            obtain ⟨a, hρ, rfl⟩ := Rep.obj_iff.mp r
            obtain ⟨_, ws, k, hL, rl⟩ := g.cell l a _ hρ hc
            obtain ⟨as, q1, q2, q3⟩ := reads_all (K := K) (n := n) (fun v w d e r => toD_reads g n v w d e r) vs ws ds em rl
            exact ⟨a :: as, .list hL rfl rfl (by simpa using q1), q2, by simp [PyData.depth]; (first | lia | omega)⟩
    | fn x => simp [toD] at e
    | rng a b c => simp [toD] at e

noncomputable def eqV (a b : V) : M V := fun σ => match toD σ.st 6 a, toD σ.st 6 b with
  | some d, some d' => .ok (.bool (PyData.eqv d d')) σ
  | _, _ => .stuck
noncomputable def neV (a b : V) : M V := fun σ => match toD σ.st 6 a, toD σ.st 6 b with
  | some d, some d' => .ok (.bool (!PyData.eqv d d')) σ
  | _, _ => .stuck

theorem cmp_eq : CmpOk K .Eq eqV := by
  intro F fk σ ρ s a b wa wb rel ra rb
  unfold eqV
  cases e1 : toD σ.st 6 a with
  | none => exact Run.stuck
  | some d =>
    cases e2 : toD σ.st 6 b with
    | none => exact Run.stuck
    | some d' =>
      obtain ⟨as, r1, c1, p1⟩ := toD_reads rel.toGRel 6 a wa d e1 ra
      obtain ⟨bs, r2, c2, p2⟩ := toD_reads rel.toGRel 6 b wb d' e2 rb
      exact Run.ok (SeqAt.compareEq_reads r1 r2 c1 c2 (by have := fk.units; (first | lia | omega)) ⟨ρ, rel, Ext.refl .., Rep.bool _⟩)
theorem cmp_ne : CmpOk K .NotEq neV := by
  intro F fk σ ρ s a b wa wb rel ra rb
  unfold neV
  cases e1 : toD σ.st 6 a with
  | none => exact Run.stuck
  | some d =>
    cases e2 : toD σ.st 6 b with
    | none => exact Run.stuck
    | some d' =>
      obtain ⟨as, r1, c1, p1⟩ := toD_reads rel.toGRel 6 a wa d e1 ra
      obtain ⟨bs, r2, c2, p2⟩ := toD_reads rel.toGRel 6 b wb d' e2 rb
      exact Run.ok (SeqAt.compareNe_reads r1 r2 c1 c2 (by have := fk.units; (first | lia | omega)) ⟨ρ, rel, Ext.refl .., Rep.bool _⟩)

/-! ### less than -/
mutual
noncomputable def ltD : PyData → PyData → Option Bool
  | .int i, .int j => some (decide (i < j))
  | .str x, .str y => some (decide (x.cps.toList < y.cps.toList))
  | .tuple xs, .tuple ys => ltAll xs ys
  | .list xs, .list ys => ltAll xs ys
  | _, _ => none
noncomputable def ltAll : List PyData → List PyData → Option Bool
  | [], [] => some false
  | [], _ :: _ => some true
  | _ :: _, [] => some false
  | x :: xs, y :: ys => if PyData.eqv x y then ltAll xs ys else ltD x y
end

end

/-! part F10 -/
set_option autoImplicit false
set_option maxRecDepth 100000
set_option linter.unusedVariables false
open PySem PySem.W PyProof.Rows
section
variable {K : Glo} {F : Frm}
open PySem.SeqAt PySem.MeetsSeq PySem.MeetsSeq3

noncomputable def LtAt (A : Around) (s : Shared) (y x : Value) (b : Bool) : Prop :=
  ∀ (prog : Program) (w : World) (E : Value → Shared → Prop) (Q : Value → Shared → Prop), Q (.bool b) s → wpAny (model prog w) A (richCompare .Lt y x) Q E s

noncomputable def LexAt (A : Around) (s : Shared) (fin : Bool) : List (Value × Value) → Bool → Prop
  | [], r => r = fin
  | (x, y) :: rest, r => ∃ e, EqAt A s x y e ∧ (if e = true then LexAt A s fin rest r else LtAt A s x y r)

theorem tuple_ltAt (l b : Addr) (items items2 : Array Value) (n n2 : Nat) (dd dd2 : Option Addr) (sl sl2 : Array (Option Value)) (r : Bool) :
    Meets (Builtin.«tuple.__lt__» ⟨[.ref l, .ref b], []⟩)
      (fun A R s => s.heap.get? l = some { cls := .type "tuple", dict := dd, data := .seq items n, slots := sl } ∧ s.heap.get? b = some { cls := .type "tuple", dict := dd2, data := .seq items2 n2, slots := sl2 } ∧
        LexAt A.in1 s (decide (items.size < items2.size)) (items.toList.zip items2.toList) r ∧ R (.ok (.ret (.bool r))) s) :=
  .of_wp fun prog w A R s h => by
    obtain ⟨hp, g, d, tk, os⟩ := s; obtain ⟨hl, hb, he, h⟩ := h
    have f2 := AutoSeq1.sub_tuple_tuple
    wp_walk using wpAny_loadPart' hl, wpAny_loadPart' hb, wpAny_forIn_list _ (fun rest b s' => b.1 = none ∧ s' = ⟨hp, g, d, tk, os⟩ ∧ LexAt A.in1 ⟨hp, g, d, tk, os⟩ (decide (items.size < items2.size)) rest r) _
    case turn =>
      rintro ⟨y, x⟩ rest b s' ⟨hb', rfl, e, he1, he2⟩
      refine wpAny_bind (he1 prog w _ _ ?_)
      cases e with
      | true =>
        simp only [if_true] at he2
        wp_walk
        exact ⟨rfl, rfl, he2⟩
      | false =>
        simp only [Bool.false_eq_true, if_false] at he2
        simp only [Bool.not_false, if_true]
        refine wpAny_bind (wpAny_rule (wpAny_bind (he2 prog w _ _ ?_)))
        wp_walk
        exact ⟨_, rfl, h⟩
    case fin =>
      rintro ⟨b1, b2⟩ s' ⟨hb', rfl, he'⟩
      simp only at hb'
      subst hb'
      wp_walk
      have : r = decide (items.size < items2.size) := he'
      refine ⟨_, rfl, ?_⟩
      rw [this] at h
      exact h
    case h => exact ⟨rfl, rfl, he⟩

theorem lt_loopAt (l b : Addr) (items items2 : Array Value) (n n2 : Nat) (dd dd2 : Option Addr) (sl sl2 : Array (Option Value)) (r : Bool) (k : Nat) :
    ∀ i : Nat, min items.size items2.size - i = k → Meets (Builtin.«list.__eq__.loop» ⟨[.ref l, .ref b, rawInt i, rawInt 0], []⟩)
      (fun A R s => s.heap.get? l = some { cls := .type "list", dict := dd, data := .seq items n, slots := sl } ∧ s.heap.get? b = some { cls := .type "list", dict := dd2, data := .seq items2 n2, slots := sl2 } ∧
        LexAt A.in1 s (decide (items.size < items2.size)) ((items.toList.zip items2.toList).drop i) r ∧ R (.ok (.ret (.bool r))) s) := by
  induction k with
  | zero =>
    intro i hk prog w A R s h
    obtain ⟨hp, g, d, tk, os⟩ := s; obtain ⟨hl, hb, he, h⟩ := h
    wp_walk using wpAny_loadPart' hl, wpAny_loadPart' hb
    have hd : (items.toList.zip items2.toList).drop i = [] := by simp; (first | lia | omega)
    rw [hd] at he
    have hr : r = decide (items.size < items2.size) := he
    have hor : items[((i : Nat) : Int).toNat]? = none ∨ items2[((i : Nat) : Int).toNat]? = none := by
      simp; (first | lia | omega)
    rw [hr] at h
    rcases hor with hi | hi
    · rw [hi]
      wp_walk using wpAny_loadPart' hl, wpAny_loadPart' hb
      exact h
    · rw [hi]
      cases items[((i : Nat) : Int).toNat]? <;> (wp_walk using wpAny_loadPart' hl, wpAny_loadPart' hb; exact h)
  | succ k ih =>
    intro i hk prog w A R s h
    obtain ⟨hp, g, d, tk, os⟩ := s; obtain ⟨hl, hb, he, h⟩ := h
    wp_walk using wpAny_loadPart' hl, wpAny_loadPart' hb
    have hlt : i < items.size := n_lt_l hk
    have hlt2 : i < items2.size := n_lt_r hk
    have hi1 : items[((i : Nat) : Int).toNat]? = some items[i] := by simp [hlt]
    have hi2 : items2[((i : Nat) : Int).toNat]? = some items2[i] := by simp [hlt2]
    have hd : (items.toList.zip items2.toList).drop i = (items[i], items2[i]) :: (items.toList.zip items2.toList).drop (i + 1) := by
      rw [List.drop_eq_getElem_cons (by simp; (first | lia | omega))]; simp
    have hc : ((i : Int) + 1) = ((i + 1 : Nat) : Int) := by push_cast; rfl
    rw [hd] at he
    obtain ⟨e, he1, he2⟩ := he
    rw [hi1, hi2]
    refine wpAny_bind (he1 prog w _ _ ?_)
    cases e with
    | true =>
      simp only [if_true] at he2
      wp_walk
      rw [hc]
      exact ⟨plainId_quiet plain_eq_loop _, codeAny_builtin entry_eq_loop (by
        rw [Around.under_plainId plain_eq_loop _]
        exact ih (i + 1) (n_next hk) prog w A R _ ⟨hl, hb, he2, h⟩)⟩
    | false =>
      simp only [Bool.false_eq_true, if_false] at he2 ⊢
      refine wpAny_bind (listItems_at hl rfl (wpAny_bind (listItems_at hb rfl ?_)))
      rw [hi1, hi2]
      refine wpAny_bind (he2 prog w _ _ ?_)
      wp_walk
      exact h

theorem list_ltAt (l b : Addr) (items items2 : Array Value) (n n2 : Nat) (dd dd2 : Option Addr) (sl sl2 : Array (Option Value)) (r : Bool) :
    Meets (Builtin.«list.__lt__» ⟨[.ref l, .ref b], []⟩)
      (fun A R s => s.heap.get? l = some { cls := .type "list", dict := dd, data := .seq items n, slots := sl } ∧ s.heap.get? b = some { cls := .type "list", dict := dd2, data := .seq items2 n2, slots := sl2 } ∧
        LexAt A.in1 s (decide (items.size < items2.size)) (items.toList.zip items2.toList) r ∧ R (.ok (.ret (.bool r))) s) := by
  intro prog w A R s h
  obtain ⟨hp, g, d, tk, os⟩ := s; obtain ⟨hl, hb, he, h⟩ := h
  have f3 := AutoSeq1.sub_list_list
  wp_walk using wpAny_loadPart' hl, wpAny_loadPart' hb
  exact ⟨plainId_quiet plain_eq_loop _, codeAny_builtin entry_eq_loop (by
    rw [Around.under_plainId plain_eq_loop _]
    exact lt_loopAt l b items items2 n n2 dd dd2 sl sl2 r _ 0 rfl prog w A R _ ⟨hl, hb, by simpa using he, h⟩)⟩

theorem LtAt.lists {A : Around} {s : Shared} {l b : Addr} {items items2 : Array Value} {r : Bool} (hl : s.heap.IsList l items) (hb : s.heap.IsList b items2) (hu : A.units < cLine)
    (he : LexAt A.in1 s (decide (items.size < items2.size)) (items.toList.zip items2.toList) r) : LtAt A s (.ref l) (.ref b) r := fun prog w E Q h => by
  obtain ⟨⟨cls, dd, data, sl⟩, ho, hc, n, hd⟩ := id hl
  obtain ⟨⟨cls2, dd2, data2, sl2⟩, ho2, hc2, n2, hd2⟩ := id hb
  simp only at hc hd hc2 hd2
  subst hc hd hc2 hd2
  exact richCompare_meets_room (op := .Lt) ⟨_, ho, rfl⟩ ⟨_, ho2, rfl⟩ PySem.F.slot_list_lt PySem.F.entry_list_lt (PySem.F.args_list_lt_2 _ _) (list_ltAt l b items items2 n n2 dd dd2 sl sl2 r)
    ⟨ho, ho2, he, show Value.bool r ≠ Value.notImplemented ∧ Q (.bool r) s from ⟨(fun x => nomatch x), h⟩⟩ hu
theorem LtAt.tuples {A : Around} {s : Shared} {l b : Addr} {items items2 : Array Value} {r : Bool} (hl : s.heap.IsTuple l items) (hb : s.heap.IsTuple b items2) (hu : A.units < cLine)
    (he : LexAt A.in1 s (decide (items.size < items2.size)) (items.toList.zip items2.toList) r) : LtAt A s (.ref l) (.ref b) r := fun prog w E Q h => by
  obtain ⟨⟨cls, dd, data, sl⟩, ho, hc, n, hd⟩ := id hl
  obtain ⟨⟨cls2, dd2, data2, sl2⟩, ho2, hc2, n2, hd2⟩ := id hb
  simp only at hc hd hc2 hd2
  subst hc hd hc2 hd2
  exact richCompare_meets_room (op := .Lt) ⟨_, ho, rfl⟩ ⟨_, ho2, rfl⟩ PySem.F.slot_tuple_lt PySem.F.entry_tuple_lt (PySem.F.args_tuple_lt_2 _ _) (tuple_ltAt l b items items2 n n2 dd dd2 sl sl2 r)
    ⟨ho, ho2, he, show Value.bool r ≠ Value.notImplemented ∧ Q (.bool r) s from ⟨(fun x => nomatch x), h⟩⟩ hu

mutual
theorem ltAt_reads : ∀ (da db : PyData) (A : Around) (s : Shared) (a b : Value) (as bs : List Addr) (r : Bool), Reads s.heap a da as → Reads s.heap b db bs → da.canLay0 = true → db.canLay0 = true →
    A.units + min da.depth db.depth < cLine → ltD da db = some r → LtAt A s a b r
  | .int i, db, A, s, a, b, as, bs, r, ra, rb, ha, hb, hu, e => by
    cases ra with
    | int _ t =>
      cases rb with
      | int j u =>
        simp only [ltD, Option.some.injEq] at e
        subst e
        exact fun prog w E Q h => lt_int h
      | _ => simp [ltD] at e
  | .tuple xs, db, A, s, a, b, as, bs, r, ra, rb, ha, hb, hu, e => by
    cases ra with
    | tuple h1 h2 h3 h4 =>
      cases rb with
      | tuple k1 k2 k3 k4 =>
        simp only [ltD] at e
        refine LtAt.tuples ⟨_, h1, h2, _, h3⟩ ⟨_, k1, k2, _, k3⟩ (room_here hu) ?_
        refine lexAt_reads _ _ _ _ _ _ _ _ r _ h4 k4 ha hb (room_in hu) e ?_
        rw [← Array.length_toList, ← Array.length_toList, ReadsAll.length _ _ _ h4, ReadsAll.length _ _ _ k4]
      | _ => simp [ltD] at e
  | .list xs, db, A, s, a, b, as, bs, r, ra, rb, ha, hb, hu, e => by
    cases ra with
    | list h1 h2 h3 h4 =>
      cases rb with
      | list k1 k2 k3 k4 =>
        simp only [ltD] at e
        refine LtAt.lists ⟨_, h1, h2, _, h3⟩ ⟨_, k1, k2, _, k3⟩ (room_here hu) ?_
        refine lexAt_reads _ _ _ _ _ _ _ _ r _ h4 k4 ha hb (room_in hu) e ?_
        rw [← Array.length_toList, ← Array.length_toList, ReadsAll.length _ _ _ h4, ReadsAll.length _ _ _ k4]
      | _ => simp [ltD] at e
  | .none, db, A, s, a, b, as, bs, r, ra, rb, ha, hb, hu, e => by cases db <;> simp [ltD] at e
  | .bool _, db, A, s, a, b, as, bs, r, ra, rb, ha, hb, hu, e => by cases db <;> simp [ltD] at e
  | .str x, db, A, s, a, b, as, bs, r, ra, rb, ha, hb, hu, e => by
    cases ra with
    | str _ t =>
      cases rb with
      | str y u =>
        simp only [ltD, Option.some.injEq] at e
        subst e
        exact fun prog w E Q h => lt_str h
      | _ => simp [ltD] at e
  | .dict _, db, A, s, a, b, as, bs, r, ra, rb, ha, hb, hu, e => by cases db <;> simp [ltD] at e
theorem lexAt_reads : ∀ (xs ys : List PyData) (A : Around) (s : Shared) (vs ws : List Value) (as bs : List Addr) (r fin : Bool), ReadsAll s.heap vs xs as → ReadsAll s.heap ws ys bs → PyData.canLayAll0 xs = true → PyData.canLayAll0 ys = true →
    A.units + min (PyData.depthAll xs) (PyData.depthAll ys) < cLine → ltAll xs ys = some r → fin = decide (xs.length < ys.length) → LexAt A s fin (vs.zip ws) r
  | [], ys, A, s, vs, ws, as, bs, r, fin, ra, rb, ha, hb, hu, e, hf => by
    cases ra
    subst hf
    cases ys with
    | nil => simp only [ltAll, Option.some.injEq] at e; subst e; rfl
    | cons y ys => simp only [ltAll, Option.some.injEq] at e; subst e; show true = _; simp
  | x :: xs, [], A, s, vs, ws, as, bs, r, fin, ra, rb, ha, hb, hu, e, hf => by
    cases rb
    subst hf
    simp only [ltAll, Option.some.injEq] at e; subst e
    rw [List.zip_nil_right]; show false = _; simp
  | x :: xs, y :: ys, A, s, vs, ws, as, bs, r, fin, ra, rb, ha, hb, hu, e, hf => by
    cases ra with
    | cons ra1 ra2 =>
      cases rb with
      | cons rb1 rb2 =>
        simp only [PyData.canLayAll0, Bool.and_eq_true] at ha hb
        have hu1 : A.units + min x.depth y.depth < cLine := room_head (by simpa [PyData.depthAll] using hu)
        have hu2 : A.units + min (PyData.depthAll xs) (PyData.depthAll ys) < cLine := room_tail (by simpa [PyData.depthAll] using hu)
        refine ⟨PyData.eqv x y, eqAt_reads x y A s _ _ _ _ ra1 rb1 ha.1 hb.1 hu1, ?_⟩
        simp only [ltAll] at e
        cases he : PyData.eqv x y with
        | true =>
          rw [he] at e
          simp only [if_true] at e ⊢
          exact lexAt_reads xs ys A s _ _ _ _ r fin ra2 rb2 ha.2 hb.2 hu2 e (by rw [hf]; simp)
        | false =>
          rw [he] at e
          simp only [Bool.false_eq_true, if_false] at e ⊢
          exact ltAt_reads x y A s _ _ _ _ r ra1 rb1 ha.1 hb.1 hu1 e
end

noncomputable def ltV (a b : V) : M V := fun σ => match toD σ.st 6 a, toD σ.st 6 b with
  | some d, some d' => match ltD d d' with
    | some r => .ok (.bool r) σ
    | none => .stuck
  | _, _ => .stuck
theorem cmp_lt : CmpOk K .Lt ltV := by
  intro F fk σ ρ s a b wa wb rel ra rb
  unfold ltV
  cases e1 : toD σ.st 6 a with
  | none => exact Run.stuck
  | some d =>
    cases e2 : toD σ.st 6 b with
    | none => exact Run.stuck
    | some d' =>
      obtain ⟨as, r1, c1, p1⟩ := toD_reads rel.toGRel 6 a wa d e1 ra
      obtain ⟨bs, r2, c2, p2⟩ := toD_reads rel.toGRel 6 b wb d' e2 rb
      have hu := fk.units
      dsimp only
      cases e3 : ltD d d' with
      | none => exact Run.stuck
      | some r => exact Run.ok (ltAt_reads d d' F.A s wa wb as bs r r1 r2 c1 c2 (by (first | lia | omega)) e3 K.prog K.w _ _ ⟨ρ, rel, Ext.refl .., Rep.bool _⟩)

end

/-! part F11 -/
set_option autoImplicit false
set_option maxRecDepth 100000
set_option linter.unusedVariables false
open PySem PySem.W PyProof.Rows
section
variable {K : Glo} {F : Frm}

/-! ### ints -/
noncomputable def addV : V → V → M V
  | .int a, .int b => fun σ => .ok (.int (a + b)) σ
  | .obj l, .obj k => fun σ => match σ.st[l]?, σ.st[k]? with
    | some (.lst xs), some (.lst ys) => newL (xs ++ ys) σ
    | _, _ => .stuck
  | _, _ => fun _ => .stuck
noncomputable def subV : V → V → M V
  | .int a, .int b => fun σ => .ok (.int (a - b)) σ
  | _, _ => fun _ => .stuck
noncomputable def mulV : V → V → M V
  | .int a, .int b => fun σ => if -1000000000 < a ∧ a < 1000000000 then .ok (.int (a * b)) σ else .stuck
  | _, _ => fun _ => .stuck
noncomputable def fdivV : V → V → M V
  | .int a, .int b => fun σ => if 0 < b ∧ b < 1000000000 then .ok (.int (a / b)) σ else .stuck
  | _, _ => fun _ => .stuck
noncomputable def fmodV : V → V → M V
  | .int a, .int b => fun σ => if 0 < b ∧ b < 1000000000 then .ok (.int (a % b)) σ else .stuck
  | _, _ => fun _ => .stuck
noncomputable def shrV : V → V → M V
  | .int a, .int 1 => fun σ => if 0 ≤ a then .ok (.int (a / 2)) σ else .stuck
  | _, _ => fun _ => .stuck

theorem bin_add : BinOk K .Add addV := by
  intro F fk σ ρ s a b wa wb rel ra rb
  cases a with
  | int i =>
    cases b with
    | int j =>
      obtain ⟨t, rfl⟩ := Rep.int_iff.mp ra
      obtain ⟨u, rfl⟩ := Rep.int_iff.mp rb
      exact Run.ok (add_int ⟨ρ, rel.tok _, Ext.refl .., Rep.int ..⟩)
    | _ => exact Run.stuck
  | obj l =>
    cases b with
    | obj k =>
      unfold addV
      dsimp only
      cases hl : σ.st[l]? with
      | none => exact Run.stuck
      | some c =>
        cases c with
        | lst xs =>
          cases hk : σ.st[k]? with
          | none => exact Run.stuck
          | some c' =>
            cases c' with
            | lst ys =>
              dsimp only
              obtain ⟨x, ws, n, rfl, hρ, hL, hr, hn⟩ := rel.list ra hl
              obtain ⟨y, us, n', rfl, hρ', hL', hr', hn'⟩ := rel.list rb hk
              unfold newL
              by_cases hz : (xs ++ ys).length ≤ 1000000
              · rw [if_pos hz]
                obtain ⟨rel', x'⟩ := rel.newList (o := { cls := .type "list", data := .seq (ws ++ us).toArray }) rfl (hr.append hr') hz s.toks
                refine Run.ok (P.add_list hL hL' ?_ (sizeLine_ge (by simp only [List.size_toArray, hr.length, hr'.length]; simpa using hz)))
                rw [List.append_toArray]
                refine ⟨_, rel', x', Rep.obj_iff.mpr ⟨_, ?_, rfl⟩⟩
                rw [← rel.len, List.getElem?_concat_length]
              · rw [if_neg hz]; exact Run.stuck
    | _ => exact Run.stuck
  | _ => exact Run.stuck

theorem bin_sub : BinOk K .Sub subV := by
  intro F fk σ ρ s a b wa wb rel ra rb
  cases a with
  | int i =>
    cases b with
    | int j =>
      obtain ⟨t, rfl⟩ := Rep.int_iff.mp ra
      obtain ⟨u, rfl⟩ := Rep.int_iff.mp rb
      exact Run.ok (sub_int ⟨ρ, rel.tok _, Ext.refl .., Rep.int ..⟩)
    | _ => exact Run.stuck
  | _ => exact Run.stuck
theorem bin_mul : BinOk K .Mult mulV := by
  intro F fk σ ρ s a b wa wb rel ra rb
  cases a with
  | int i =>
    cases b with
    | int j =>
      obtain ⟨t, rfl⟩ := Rep.int_iff.mp ra
      obtain ⟨u, rfl⟩ := Rep.int_iff.mp rb
      unfold mulV
      dsimp only
      by_cases h : -1000000000 < i ∧ i < 1000000000
      · rw [if_pos h]
        exact Run.ok (mul_int ⟨ρ, rel.tok _, Ext.refl .., Rep.int ..⟩ (IntMulOk.of_left (intBits_le_64 (by (first | lia | omega)) (by (first | lia | omega)))))
      · rw [if_neg h]; exact Run.stuck
    | _ => exact Run.stuck
  | _ => exact Run.stuck
theorem fdiv_pos {a b : Int} (h : 0 < b) : a.fdiv b = a / b := Int.fdiv_eq_ediv_of_nonneg _ (Int.le_of_lt h)
theorem fmod_pos {a b : Int} (h : 0 < b) : a.fmod b = a % b := Int.fmod_eq_emod_of_nonneg _ (Int.le_of_lt h)
theorem bin_fdiv : BinOk K .FloorDiv fdivV := by
  intro F fk σ ρ s a b wa wb rel ra rb
  cases a with
  | int i =>
    cases b with
    | int j =>
      obtain ⟨t, rfl⟩ := Rep.int_iff.mp ra
      obtain ⟨u, rfl⟩ := Rep.int_iff.mp rb
      unfold fdivV
      dsimp only
      by_cases h : 0 < j ∧ j < 1000000000
      · rw [if_pos h]
        refine Run.ok (floordiv_int (Int.ne_of_gt h.1) ⟨ρ, rel.tok _, Ext.refl .., ?_⟩ (Or.inl (PyProof.noPylong_small (by (first | lia | omega)))))
        rw [fdiv_pos h.1]; exact Rep.int ..
      · rw [if_neg h]; exact Run.stuck
    | _ => exact Run.stuck
  | _ => exact Run.stuck
theorem bin_fmod : BinOk K .Mod fmodV := by
  intro F fk σ ρ s a b wa wb rel ra rb
  cases a with
  | int i =>
    cases b with
    | int j =>
      obtain ⟨t, rfl⟩ := Rep.int_iff.mp ra
      obtain ⟨u, rfl⟩ := Rep.int_iff.mp rb
      unfold fmodV
      dsimp only
      by_cases h : 0 < j ∧ j < 1000000000
      · rw [if_pos h]
        refine Run.ok (mod_int' (Int.ne_of_gt h.1) ⟨ρ, rel.tok _, Ext.refl .., ?_⟩)
        rw [fmod_pos h.1]; exact Rep.int ..
      · rw [if_neg h]; exact Run.stuck
    | _ => exact Run.stuck
  | _ => exact Run.stuck
theorem bin_shr : BinOk K .RShift shrV := by
  intro F fk σ ρ s a b wa wb rel ra rb
  cases a with
  | int i =>
    cases b with
    | int j =>
      by_cases hj : j = 1
      · subst hj
        obtain ⟨t, rfl⟩ := Rep.int_iff.mp ra
        obtain ⟨u, rfl⟩ := Rep.int_iff.mp rb
        show Run K F _ (Rep K) (if 0 ≤ i then .ok (V.int (i / 2)) σ else .stuck) ρ s
        by_cases h : 0 ≤ i
        · rw [if_pos h]
          exact Run.ok (wpAny_rshift1_int h ⟨ρ, rel.tok _, Ext.refl .., Rep.int ..⟩)
        · rw [if_neg h]; exact Run.stuck
      · have : shrV (.int i) (.int j) = fun _ => .stuck := by
          unfold shrV; split
          · rename_i h1 h2; cases h2; exact absurd rfl hj
          · rfl
        rw [this]; exact Run.stuck
    | _ => exact Run.stuck
  | _ => exact Run.stuck

noncomputable def negV : V → M V
  | .int a => fun σ => .ok (.int (-a)) σ
  | _ => fun _ => .stuck
noncomputable def leV : V → V → M V
  | .int a, .int b => fun σ => .ok (.bool (decide (a ≤ b))) σ
  | _, _ => fun _ => .stuck
noncomputable def gtV : V → V → M V
  | .int a, .int b => fun σ => .ok (.bool (decide (b < a))) σ
  | _, _ => fun _ => .stuck
noncomputable def geV : V → V → M V
  | .int a, .int b => fun σ => .ok (.bool (decide (b ≤ a))) σ
  | _, _ => fun _ => .stuck
theorem cmp_gt : CmpOk K .Gt gtV := by
  intro F fk σ ρ s a b wa wb rel ra rb
  cases a with
  | int i =>
    cases b with
    | int j =>
      obtain ⟨t, rfl⟩ := Rep.int_iff.mp ra
      obtain ⟨u, rfl⟩ := Rep.int_iff.mp rb
      exact Run.ok (gt_int ⟨ρ, rel, Ext.refl .., Rep.bool _⟩)
    | _ => exact Run.stuck
  | _ => exact Run.stuck
/-! ### truth -/
noncomputable def truV : V → M Bool
  | .bool b => fun σ => .ok b σ
  | .obj l => fun σ => match σ.st[l]? with
    | some (.lst vs) => .ok (!vs.isEmpty) σ
    | _ => .stuck
  | _ => fun _ => .stuck
theorem tru_ok : TruOk K truV := by
  intro F fk σ ρ s a wa rel ra
  cases a with
  | bool b => rw [Rep.bool_iff.mp ra]; exact Run.ok (wpAny_truthy_bool ⟨ρ, rel, Ext.refl .., rfl⟩)
  | obj l =>
    unfold truV
    dsimp only
    cases hl : σ.st[l]? with
    | none => exact Run.stuck
    | some c =>
      cases c with
      | lst xs =>
        obtain ⟨x, ws, n, rfl, hρ, hL, hr, hn⟩ := rel.list ra hl
        refine Run.ok (wpAny_truthy_list hL.isList (by rw [List.size_toArray, hr.length]; (first | lia | omega)) ⟨ρ, rel.tok _, Ext.refl .., ?_⟩)
        show (!ws.toArray.isEmpty) = !xs.isEmpty
        have := hr.length
        cases ws <;> cases xs <;> simp_all
  | _ => exact Run.stuck

/-! ### built-ins -/
noncomputable def lenB : List V → M V
  | [.obj l] => fun σ => match σ.st[l]? with
    | some (.lst vs) => .ok (.int vs.length) σ
    | _ => .stuck
  | _ => fun _ => .stuck
theorem built_len : BuiltOk K (.builtin "len") lenB := by
  intro F fk hnh σ ρ s vs ws rel r
  unfold lenB
  split
  · obtain ⟨w, ws', rfl, r1, r2⟩ := RepL.cons_iff.mp r
    rw [RepL.nil_iff.mp r2]
    rename_i l
    cases hl : σ.st[l]? with
    | none => exact Run.stuck
    | some c =>
      cases c with
      | lst xs =>
        obtain ⟨x, ws, n, rfl, hρ, hL, hr, hn⟩ := rel.list r1 hl
        refine Run.ok (PySem.Calls.call_len_list hL.isList (by rw [List.size_toArray, hr.length]; (first | lia | omega)) ⟨ρ, rel.tok _, Ext.refl .., ?_⟩)
        rw [List.size_toArray, hr.length]; exact Rep.int ..
  · exact Run.stuck

end

/-! part F12 -/
set_option autoImplicit false
set_option maxRecDepth 100000
set_option linter.unusedVariables false
open PySem PySem.W PyProof.Rows
section
variable {K : Glo} {F : Frm}
/-! ### methods of lists -/
noncomputable def appendG : V → List V → M V
  | .obj l, [v] => fun σ => match σ.st[l]? with
    | some (.lst vs) => if l ≠ 0 ∧ vs.length < 1000000 then .ok .none { σ with st := σ.st.set l (.lst (vs ++ [v])) } else .stuck
    | _ => .stuck
  | _, _ => fun _ => .stuck
theorem meth_append : MethOk K "list.append" appendG := by
  intro F fk hnh σ ρ s o wo vs ws rel ro r
  unfold appendG
  split
  · rename_i l v
    obtain ⟨w, ws', rfl, r1, r2⟩ := RepL.cons_iff.mp r
    rw [RepL.nil_iff.mp r2]
    cases hl : σ.st[l]? with
    | none => exact Run.stuck
    | some c =>
      cases c with
      | lst xs =>
        dsimp only
        obtain ⟨x, us, n, rfl, hρ, hL, hr, hn⟩ := rel.list ro hl
        by_cases hz : l ≠ 0 ∧ xs.length < 1000000
        · rw [if_pos hz]
          refine Run.ok (call_meets PySem.F.slot_list_append ⟨_, hL, rfl⟩ PySem.F.entry_list_append (PySem.F.args_list_append_2 _ _) (list_append x us.toArray n w (sizeLine_ge (by rw [List.size_toArray, hr.length]; exact hn))) ⟨hL, ?_⟩)
          obtain ⟨rel', x'⟩ := rel.upd (s' := { s with heap := s.heap.update x (Obj.mapSeq fun y => y.push w) }) (vs := xs ++ [v]) (ws := us ++ [w]) hρ hz.1 (Heap.SameBut.update ..) (by
            have := hL.update (fun y => y.push w)
            rw [List.push_toArray] at this
            exact this) (hr.append (RepL.cons r1 RepL.nil)) (by have := hz.2; simp; (first | lia | omega)) rfl rfl
          exact ⟨ρ, rel', x', Rep.none⟩
        · rw [if_neg hz]; exact Run.stuck
  · exact Run.stuck

noncomputable def popG : V → List V → M V
  | .obj l, [] => fun σ => if l = 0 then .stuck else match σ.st[l]? with
    | some (.lst vs) => match vs[vs.length - 1]? with
      | some v => .ok v { σ with st := σ.st.set l (.lst (vs.eraseIdx (vs.length - 1))) }
      | none => .exc ⟨"IndexError", Str.ofString "pop from empty list"⟩ σ
    | _ => .stuck
  | .obj l, [.int k] => fun σ => if l = 0 then .stuck else match σ.st[l]? with
    | some (.lst vs) => match ix vs.length k with
      | some j => match vs[j]? with
        | some v => .ok v { σ with st := σ.st.set l (.lst (vs.eraseIdx j)) }
        | none => .stuck
      | none => .stuck
    | _ => .stuck
  | _, _ => fun _ => .stuck
theorem erase_toArray (us : List Value) (j : Nat) : us.toArray.eraseIdxIfInBounds j = (us.eraseIdx j).toArray := by
  by_cases h : j < us.length
  · unfold Array.eraseIdxIfInBounds
    rw [dif_pos (by simpa using h)]
    simp
  · unfold Array.eraseIdxIfInBounds
    rw [dif_neg (by simpa using h), List.eraseIdx_of_length_le (by (first | lia | omega))]
theorem meth_pop : MethOk K "list.pop" popG := by
  intro F fk hnh σ ρ s o wo vs ws rel ro r
  unfold popG
  split
  · rename_i l
    rw [RepL.nil_iff.mp r]
    by_cases hl0 : l = 0
    · simp only [if_pos hl0]; exact Run.stuck
    simp only [if_neg hl0]
    cases hl : σ.st[l]? with
    | none => exact Run.stuck
    | some c =>
      cases c with
      | lst xs =>
        dsimp only
        obtain ⟨x, us, n, rfl, hρ, hL, hr, hn⟩ := rel.list ro hl
        cases hv : xs[xs.length - 1]? with
        | none =>
          have hx0 : us = [] := by
            have h1 := hr.length
            rw [List.getElem?_eq_none_iff] at hv
            exact List.eq_nil_of_length_eq_zero (by (first | lia | omega))
          subst hx0
          exact call_meets PySem.F.slot_list_pop ⟨_, hL, rfl⟩ PySem.F.entry_list_pop (PySem.F.args_list_pop_1 _) (pop_empty x n) ⟨fk.hd hnh, hL, x_made rel (by decide)⟩
        | some v =>
          obtain ⟨w, hw, rw'⟩ := hr.get? hv
          refine Run.ok (call_meets PySem.F.slot_list_pop ⟨_, hL, rfl⟩ PySem.F.entry_list_pop (PySem.F.args_list_pop_1 _) (PySem.MeetsSeq.list_pop_last x us.toArray n w (by simpa [hr.length] using hw) (sizeLine_ge (by rw [List.size_toArray, hr.length]; exact hn))) ⟨hL, ?_⟩)
          rw [List.size_toArray, hr.length]
          obtain ⟨rel', x'⟩ := rel.upd (s' := { s with heap := s.heap.update x (Obj.mapSeq fun y => y.eraseIdxIfInBounds (xs.length - 1)) }) (vs := xs.eraseIdx (xs.length - 1)) (ws := us.eraseIdx (xs.length - 1)) hρ hl0 (Heap.SameBut.update ..) (by
            have := hL.update (fun y => y.eraseIdxIfInBounds (xs.length - 1))
            rw [erase_toArray] at this
            exact this) (hr.eraseIdx _) (Nat.le_trans (List.length_eraseIdx_le ..) hn) rfl rfl
          exact ⟨ρ, rel', x', rw'.mono x'⟩
  · rename_i l k
    obtain ⟨w, ws', rfl, r1, r2⟩ := RepL.cons_iff.mp r
    rw [RepL.nil_iff.mp r2]
    obtain ⟨t, rfl⟩ := Rep.int_iff.mp r1
    by_cases hl0 : l = 0
    · simp only [if_pos hl0]; exact Run.stuck
    simp only [if_neg hl0]
    cases hl : σ.st[l]? with
    | none => exact Run.stuck
    | some c =>
      cases c with
      | lst xs =>
        dsimp only
        obtain ⟨x, us, n, rfl, hρ, hL, hr, hn⟩ := rel.list ro hl
        cases hi : ix xs.length k with
        | none => exact Run.stuck
        | some j =>
          dsimp only
          cases hv : xs[j]? with
          | none => exact Run.stuck
          | some v =>
            obtain ⟨w, hw, rw'⟩ := hr.get? hv
            have hrg := ix_range hi hn
            have hfit : Builtin.List.listFitsIndex k = true := by
              by_cases h0 : 0 ≤ k
              · exact fitsIndex_of h0 (by (first | lia | omega))
              · exact fitsIndex_neg (by (first | lia | omega)) (by (first | lia | omega))
            refine Run.ok (call_meets PySem.F.slot_list_pop ⟨_, hL, rfl⟩ PySem.F.entry_list_pop (PySem.F.args_list_pop_2 _ _) (PySem.MeetsSeq.list_pop_at x us.toArray n k t j w hfit (by rw [List.size_toArray, hr.length]; exact ix_seq hi) (by simpa using hw) (sizeLine_ge (by rw [List.size_toArray, hr.length]; exact hn))) ⟨hL, ?_⟩)
            obtain ⟨rel', x'⟩ := rel.upd (s' := { s with heap := s.heap.update x (Obj.mapSeq fun y => y.eraseIdxIfInBounds j) }) (vs := xs.eraseIdx j) (ws := us.eraseIdx j) hρ hl0 (Heap.SameBut.update ..) (by
              have := hL.update (fun y => y.eraseIdxIfInBounds j)
              rw [erase_toArray] at this
              exact this) (hr.eraseIdx _) (Nat.le_trans (List.length_eraseIdx_le ..) hn) rfl rfl
            exact ⟨ρ, rel', x', rw'.mono x'⟩
  · exact Run.stuck

end

/-! part F13 -/
set_option autoImplicit false
set_option maxRecDepth 100000
set_option linter.unusedVariables false
open PySem PySem.W PyProof.Rows
section
variable {K : Glo} {F : Frm}

noncomputable def rngLen (a b c : Int) : Nat := (Builtin.Range.rangeSize a b c).toNat
noncomputable def nxtOf : V → S → Nat → Option (Option V)
  | .obj l => fun σ i => match σ.st[l]? with
    | some (.lst vs) => some vs[i]?
    | _ => none
  | .tup vs => fun _ i => some vs[i]?
  | .rng a b c => fun _ i => some (if i < rngLen a b c then some (.int (a + i * c)) else none)
  | _ => fun _ _ => none
noncomputable def okIter : V → M Unit
  | .obj l => chkL (.obj l)
  | .tup _ => fun σ => .ok () σ
  | .rng a b c => fun σ => if Builtin.Range.small a b c = true then .ok () σ else .stuck
  | _ => fun _ => .stuck

theorem rangeSize_nonneg (a b c : Int) : 0 ≤ Builtin.Range.rangeSize a b c := by
  unfold Builtin.Range.rangeSize
  split
  · split
    · have := Int.ediv_nonneg (a := b - a - 1) (b := c) (by (first | lia | omega)) (by (first | lia | omega)); (first | lia | omega)
    · (first | lia | omega)
  · split
    · have := Int.ediv_nonneg (a := a - b - 1) (b := -c) (by (first | lia | omega)) (by (first | lia | omega)); (first | lia | omega)
    · (first | lia | omega)
theorem rngLen_eq (a b c : Int) : ((rngLen a b c : Nat) : Int) = Builtin.Range.rangeSize a b c := Int.toNat_of_nonneg (rangeSize_nonneg a b c)

theorem iter_list {ρ₀ : List Addr} {h₀ : Heap} {I a : Addr} {l : Nat} (fk : FOk F) (hnh : F.nh = true) (hρ : ρ₀[l]? = some a) :
    Iter K F I (fun i o => o.cls = .type "list_iterator" ∧ o.data = .fields #[.ref a, .int i 0]) (nxtOf (.obj l)) ρ₀ h₀ := by
  refine ⟨fun i o h => ⟨_, _, h.2, h.1, by decide, by decide⟩, fun i o s A Q E e h q => wpAny_pyIter_listiter ⟨o, e, h.1, h.2⟩ q, ?_⟩
  intro σ ρ s i o rel x ho hs
  have hρ' := getElem?_prefix x.pre hρ
  unfold nxtOf
  dsimp only
  cases hl : σ.st[l]? with
  | none => trivial
  | some c =>
    cases c with
    | lst vs =>
      dsimp only
      obtain ⟨_, ws, n, hL, hr⟩ := rel.cell l a _ hρ' hl
      cases hv : vs[i]? with
      | none =>
        have hw : ws.toArray[i]? = none := by
          have : ws[i]? = none := by rw [List.getElem?_eq_none_iff] at hv ⊢; rw [hr.length]; exact hv
          simpa using this
        exact wpAny_pyNext_list_end (fk.hd hnh) ⟨o, ho, hs.1, hs.2⟩ hL.isList hw fun h' hx => ⟨rfl, hx, rfl, rfl⟩
      | some v =>
        obtain ⟨w, hw, q⟩ := hr.get? hv
        refine wpAny_pyNext_list_item ⟨o, ho, hs.1, hs.2⟩ hL.isList (by simpa using hw) fun h' hit hsb => ⟨w, rfl, hsb.extBut, rfl, rfl, ?_, ?_⟩
        · obtain ⟨o', e, c, d⟩ := hit; exact ⟨o', e, c, d⟩
        · refine Rep.mono' (List.prefix_refl _) (fun b o' e f => hsb.extBut b o' ?_ e) q
          exact hid_ne_froz ho hs.2 (by rw [hs.1]; decide) e f

theorem iter_range {ρ₀ : List Addr} {h₀ : Heap} {I : Addr} {a b c : Int} (fk : FOk F) (hnh : F.nh = true) :
    Iter K F I (fun i o => i ≤ rngLen a b c ∧ o = { cls := .type "range_iterator", dict := none, data := .fields #[rawInt (a + i * c), rawInt ((rngLen a b c : Int) - i), rawInt c], slots := #[] }) (nxtOf (.rng a b c)) ρ₀ h₀ := by
  refine ⟨fun i o h => by obtain ⟨_, rfl⟩ := h; exact ⟨_, _, rfl, rfl, by decide, by decide⟩, fun i o s A Q E e h q => by obtain ⟨_, rfl⟩ := h; exact wpAny_pyIter_rangeiter e q, ?_⟩
  intro σ ρ s i o rel x ho hs
  obtain ⟨hi, rfl⟩ := hs
  unfold nxtOf
  dsimp only
  by_cases hlt : i < rngLen a b c
  · rw [if_pos hlt]
    dsimp only
    refine wpAny_pyNext_range_item ho (by (first | lia | omega)) fun h' hit hsb => ⟨_, rfl, hsb.extBut, rfl, rfl, ⟨_, hit, by (first | lia | omega), ?_⟩, Rep.int ..⟩
    have e1 : a + ((i + 1 : Nat) : Int) * c = a + (i : Int) * c + c := by rw [Int.natCast_add, Int.add_mul]; simp [Int.add_assoc]
    have e2 : ((rngLen a b c : Nat) : Int) - ((i + 1 : Nat) : Int) = (rngLen a b c : Int) - (i : Int) - 1 := by (first | lia | omega)
    rw [e1, e2]
  · rw [if_neg hlt]
    dsimp only
    exact wpAny_pyNext_range_end (fk.hd hnh) ho (by (first | lia | omega)) fun h' hx => ⟨rfl, hx, rfl, rfl⟩

theorem iter_tuple {ρ₀ : List Addr} {h₀ : Heap} {I a : Addr} {vs : List V} {ws : List Value} (fk : FOk F) (hnh : F.nh = true) (ht : IsTup h₀ a ws.toArray) (hr : RepL K h₀ ρ₀ vs ws) :
    Iter K F I (fun i o => o.cls = .type "tuple_iterator" ∧ o.data = .fields #[.ref a, .int i 0]) (nxtOf (.tup vs)) ρ₀ h₀ := by
  refine ⟨fun i o h => ⟨_, _, h.2, h.1, by decide, by decide⟩, fun i o s A Q E e h q => wpAny_pyIter_tupleiter ⟨o, e, h.1, h.2⟩ q, ?_⟩
  intro σ ρ s i o rel x ho hs
  have ht' : s.heap.IsTuple a ws.toArray := by
    obtain ⟨o', e, c, n, d⟩ := ht
    exact ⟨o', x.froz a o' e (.inl ⟨c, _, n, d⟩), c, n, d⟩
  have hr' := hr.mono x
  unfold nxtOf
  dsimp only
  cases hv : vs[i]? with
  | none =>
    have hw : ws.toArray[i]? = none := by
      have : ws[i]? = none := by rw [List.getElem?_eq_none_iff] at hv ⊢; rw [hr.length]; exact hv
      simpa using this
    exact wpAny_pyNext_tuple_end (fk.hd hnh) ⟨o, ho, hs.1, hs.2⟩ ht' hw fun h' hx => ⟨rfl, hx, rfl, rfl⟩
  | some v =>
    obtain ⟨w, hw, q⟩ := hr'.get? hv
    refine wpAny_pyNext_tuple_item ⟨o, ho, hs.1, hs.2⟩ ht' (by simpa using hw) fun h' hit hsb => ⟨w, rfl, hsb.extBut, rfl, rfl, ?_, ?_⟩
    · obtain ⟨o', e, c, d⟩ := hit; exact ⟨o', e, c, d⟩
    · refine Rep.mono' (List.prefix_refl _) (fun b o' e f => hsb.extBut b o' ?_ e) q
      exact hid_ne_froz ho hs.2 (by rw [hs.1]; decide) e f

theorem fresh_facts {σ : S} {ρ : List Addr} {s : Shared} (rel : Rel K F σ ρ s) : s.heap.get? s.heap.objs.size = none ∧ K.base.get? s.heap.objs.size = none ∧ s.heap.objs.size ∉ F.mine ∧ s.heap.objs.size ∉ ρ := by
  have h0 : s.heap.get? s.heap.objs.size = none := Heap.get?_none_of_le (Nat.le_refl _)
  refine ⟨h0, ?_, ?_, ?_⟩
  · cases e : K.base.get? s.heap.objs.size with
    | none => rfl
    | some o => have := rel.base _ _ e; rw [h0] at this; cases this
  · intro h
    obtain ⟨_, o, e⟩ := rel.mineAbove _ h
    rw [h0] at e; cases e
  · intro h
    obtain ⟨_, o, e, _⟩ := rel.toGRel.alive h
    rw [h0] at e; cases e

theorem simS_for (fk : FOk F) {target iter : Expr} {body : List Stmt} {mi : M V} {t : V → M Unit} {b : M Fl} (pos : Pos) (n : Nat) (hi : SimE K F iter mi) (ht : SimT K F target t) (hb : SimSs K F body b)
    (hs : ∀ x, foldedSetIterable iter F.env x = pure x := by intro _; rfl) (hnh : F.nh = true := by rfl) :
    SimS K F (.For target iter body [] pos) (do let v ← mi; okIter v; forG (nxtOf v) t b n 0) := by
  intro σ ρ s rel
  rw [exec_For]
  refine Run.standAt (Run.bind (hi σ ρ s rel) fun v σ₁ ρ₁ s₁ w _ rel₁ x₁ rv => ?_)
  rw [hs w, pureBind]
  refine Run.standAt ?_
  refine Run.of_wp fun hne => ?_
  obtain ⟨f0, f1, f2, f3⟩ := fresh_facts rel₁
  have hok : okIter v σ₁ = .ok () σ₁ ∧ (okIter v >>= fun _ => forG (nxtOf v) t b n 0) σ₁ = forG (nxtOf v) t b n 0 σ₁ := by
    have : okIter v σ₁ = .ok () σ₁ := by
      cases v with
      | obj l =>
        show chkL (.obj l) σ₁ = _
        cases hc : σ₁.st[l]? with
        | none => exact absurd (by rw [M.bind_def]; simp only [okIter, chkL, hc]) hne
        | some c => cases c with | lst us => exact chkL_ok hc
      | tup vs => rfl
      | rng a b' c =>
        unfold okIter
        by_cases hsm : Builtin.Range.small a b' c = true
        · simp only [hsm, if_true]
        · exact absurd (by rw [M.bind_def]; simp only [okIter, hsm]; rfl) hne
      | _ => exact absurd (by rw [M.bind_def]; rfl) hne
    exact ⟨this, M.bind_ok this⟩
  rw [hok.2] at hne ⊢
  cases v with
  | obj l =>
    obtain ⟨a, hρ, rfl⟩ := Rep.obj_iff.mp rv
    obtain ⟨items, hL⟩ := rel₁.toGRel.alive (List.mem_of_getElem? hρ)
    refine wpAny_bind (wpAny_holding (wpAny_pyIter_list hL ?_))
    exact run_forLoop ht hb (iter_list fk hnh hρ) (rel₁.push _ s₁.toks) (Ext.push _) f0 f1 f2 f3 (Heap.get?_push_size _ rfl) ⟨rfl, rfl⟩ n hne
  | tup vs =>
    obtain ⟨_, a, ws, rfl, htp, hr⟩ := Rep.tup_iff.mp rv
    refine wpAny_bind (wpAny_holding (wpAny_pyIter_tuple htp ?_))
    exact run_forLoop ht hb (iter_tuple fk hnh htp hr) (rel₁.push _ s₁.toks) (Ext.push _) f0 f1 f2 f3 (Heap.get?_push_size _ rfl) ⟨rfl, rfl⟩ n hne
  | rng a b' c =>
    obtain ⟨r, t', u, v', rfl, hR⟩ := Rep.rng_iff.mp rv
    have hsm : Builtin.Range.small a b' c = true := by
      by_cases h : Builtin.Range.small a b' c = true
      · exact h
      · have := hok.1; simp only [okIter, h] at this; cases this
    refine wpAny_bind (wpAny_holding (wpAny_pyIter_range hR hsm ?_))
    refine run_forLoop ht hb (iter_range (a := a) (b := b') (c := c) fk hnh) (rel₁.push _ s₁.toks) (Ext.push _) f0 f1 f2 f3 (Heap.get?_push_size _ rfl) ⟨Nat.zero_le _, ?_⟩ n hne
    rw [rngLen_eq]; simp
  | _ => cases hok.1

end

/-! part F14 -/
set_option autoImplicit false
set_option maxRecDepth 100000
set_option linter.unusedVariables false
open PySem PySem.W PyProof.Rows
section
variable {K : Glo} {F : Frm}

/-- what iter(v) makes -/
theorem wp_pyIter {σ : S} {ρ : List Addr} {s : Shared} {v : V} {w : Value} (rel : Rel K F σ ρ s) (rv : Rep K s.heap ρ v w) (hok : okIter v σ = .ok () σ) :
    ∃ (obj : Obj) (Src : Nat → Obj → Prop), Src 0 obj ∧ obj.isFreed = false ∧ (∀ F' : Frm, FOk F' → F'.nh = true → Iter K F' s.heap.objs.size Src (nxtOf v) ρ s.heap) ∧
      ∀ (A : Around) (Q : Value → Shared → Prop) (E : Value → Shared → Prop), Q (.ref s.heap.objs.size) { s with heap := s.heap.push obj } → wpAny (model K.prog K.w) A (pyIter w) Q E s := by
  cases v with
  | obj l =>
    obtain ⟨a, hρ, rfl⟩ := Rep.obj_iff.mp rv
    obtain ⟨items, hL⟩ := rel.toGRel.alive (List.mem_of_getElem? hρ)
    exact ⟨_, _, ⟨rfl, rfl⟩, rfl, fun F' fk hnh => iter_list fk hnh hρ, fun A Q E q => wpAny_pyIter_list hL q⟩
  | tup vs =>
    obtain ⟨_, a, ws, rfl, htp, hr⟩ := Rep.tup_iff.mp rv
    exact ⟨_, _, ⟨rfl, rfl⟩, rfl, fun F' fk hnh => iter_tuple fk hnh htp hr, fun A Q E q => wpAny_pyIter_tuple htp q⟩
  | rng a b c =>
    obtain ⟨r, t', u, v', rfl, hR⟩ := Rep.rng_iff.mp rv
    have hsm : Builtin.Range.small a b c = true := by
      by_cases h : Builtin.Range.small a b c = true
      · exact h
      · simp only [okIter, h] at hok; cases hok
    refine ⟨_, _, ⟨Nat.zero_le _, ?_⟩, rfl, fun F' fk hnh => iter_range (a := a) (b := b) (c := c) fk hnh, fun A Q E q => wpAny_pyIter_range hR hsm q⟩
    rw [rngLen_eq]; simp
  | _ => cases hok

/-- one turn of a comprehension's clause -/
noncomputable def testSem (env : Env) : Option Expr → Sem Bool
  | none => pure true
  | some c => isTrue c env (eval c env)
noncomputable def TurnOk (e : Expr) (d : Nat) (env : Env) (acc : Value) (target : Expr) (test : Option Expr) (inner : Sem Unit) : Prop :=
  ∀ (M : Model) (A : Around) (Q : PySem.Fin → Shared → Prop) (E : Value → Shared → Prop) (s : Shared) (it : Value),
    wpAny M A (pyNext it) (fun r s₁ => match r with
      | none => Q (.done .next) s₁
      | some v => wpAny M A (letOwnedTupleGo target it v) (fun _ s₂ => wpAny M A (assign target env v) (fun _ s₃ => wpAny M A (testSem env test) (fun ok s₄ =>
          if ok = true then wpAny M A inner (fun _ s₅ => Q (.again (.compLoop e d it acc env)) s₅) E s₄ else Q (.again (.compLoop e d it acc env)) s₄) E s₃) E s₂) E s₁) E s →
    wpAny M A (compTurn e d it acc env) Q E s

noncomputable def emitL (elt : Expr) (env : Env) (acc : Value) : Sem Unit := do let _ ← call (.builtin "list.append") [acc, ← eval elt env]

theorem wp_ifs {M : Model} {A : Around} {E : Value → Shared → Prop} {s : Shared} {env : Env} {P : Bool → Shared → Prop} (ifs : List Expr) (test : Option Expr) (ht : ifs = test.toList) (h : wpAny M A (testSem env test) P E s) :
    wpAny M A (forIn ifs true fun c __s => if __s = true then do let ok ← isTrue c env (eval c env); pure (ForInStep.yield ok) else pure (ForInStep.yield __s)) P E s := by
  subst ht
  cases test with
  | none => exact h
  | some c =>
    show wpAny M A (forIn [c] true _) P E s
    rw [List.forIn_cons]
    refine wpAny_bind ?_
    rw [if_pos rfl]
    refine wpAny_bind (wpAny_mono h (fun b s' hb => wpAny_pure ?_) fun _ _ e => e)
    dsimp only
    rw [List.forIn_nil]
    exact wpAny_pure hb

theorem turn_end {gens : List Comprehension} {d : Nat} {elt target iter : Expr} {ifs : List Expr} {test : Option Expr} {scope : Scope} {pos : Pos} {env : Env} {acc : Value} (hg : gens[d]? = some ⟨target, iter, ifs, 0⟩) (hn : gens[d + 1]? = none) (ht : ifs = test.toList) :
    TurnOk (.ListComp elt gens scope pos) d env acc target test (emitL elt env acc) := by
  intro M A Q E s it h
  unfold compTurn
  simp only [hg]
  refine wpAny_bind (wpAny_standAt (wpAny_bind ?_))
  refine wpAny_mono h (fun r s₁ h₁ => ?_) fun _ _ e => e
  cases r with
  | none => exact wpAny_pure h₁
  | some v =>
    refine wpAny_bind (wpAny_mono h₁ (fun _ s₂ h₂ => wpAny_bind (wpAny_mono h₂ (fun _ s₃ h₃ => ?_) fun _ _ e => e)) fun _ _ e => e)
    refine wpAny_bind (wp_ifs ifs test ht (wpAny_mono h₃ (fun ok s₄ h₄ => ?_) fun _ _ e => e))
    cases ok with
    | true =>
      simp only [if_true] at h₄ ⊢
      rw [hn]
      exact wpAny_bind (wpAny_mono h₄ (fun _ s₅ h₅ => wpAny_pure h₅) fun _ _ e => e)
    | false =>
      simp only [Bool.false_eq_true, if_false] at h₄ ⊢
      exact wpAny_pure h₄

noncomputable def SimA (K : Glo) (F : Frm) (l : Nat) (a : Addr) (t : Sem Unit) (m : M Unit) : Prop := ∀ σ ρ s, Rel K F σ ρ s → ρ[l]? = some a → Run K F t URep (m σ) ρ s

noncomputable def compB (c : M Bool) (inner : M Unit) : M Fl := do
  if (← c) = true then do
    inner
    pure .next
  else pure .next

noncomputable def SimTest (K : Glo) (F : Frm) (test : Option Expr) (c : M Bool) : Prop := ∀ σ ρ s, Rel K F σ ρ s → Run K F (testSem F.env test) BRep (c σ) ρ s
theorem simTest_none : SimTest K F none (pure true) := fun _ _ _ rel => Run.pure rel rfl
theorem simTest_some {e : Expr} {c : M Bool} (h : SimB K F e c) : SimTest K F (some e) c := h

theorem codeAny_compLoopT {prog : Program} {w : World} {A : Around} {s : Shared} {R : Result → Shared → Prop} {elt : Expr} {gens : List Comprehension} {scope : Scope} {pos : Pos} {d : Nat} {it acc : Value} {env : Env} (I : Nat → Shared → Prop)
    (turn : ∀ n s, I n s → wpAny (model prog w) A (compTurn (.ListComp elt gens scope pos) d it acc env) (fun fin s' => match fin with
      | .done f => R (.ok f) s'
      | .again c' => c' = .compLoop (.ListComp elt gens scope pos) d it acc env ∧ ∃ m, m < n ∧ I m s') (notedBy (model prog w) A env fun e s' => R (.error e) s') s)
    (n : Nat) (h : I n s) : codeAny (model prog w) A (.compLoop (.ListComp elt gens scope pos) d it acc env) R s := by
  refine codeAny_loop rfl I (fun n s hI => ?_) n h
  show wpAny _ A ((compTurn (.ListComp elt gens scope pos) d it acc env).onRaise (fun x => do noteFrame x env; theTreesLotGoes x)) _ _ s
  exact wpAny_noted (turn n s hI)

/-! ### hidden objects -/
noncomputable def Hid (h : Heap) (b : Addr) : Prop := ∃ o vs, h.get? b = some o ∧ o.data = .fields vs ∧ o.cls ≠ .type "range"
section
variable {σ : S} {ρ ρ₀ ρ' : List Addr} {s s' : Shared} {mine fp : List Addr} {h h₀ h' : Heap}

theorem GRel.hid {st : Store} (rel : GRel K st ρ s) (hb : ∀ a ∈ fp, K.base.get? a = none) (ho : ∀ a ∈ fp, Hid s.heap a) (hx : ∀ b o, b ∉ fp → s.heap.get? b = some o → s'.heap.get? b = some o)
    (hg : s'.gens = s.gens) (hos : s'.os = s.os) : GRel K st ρ s' where
  gens := hg.trans rel.gens
  os := hos.trans rel.os
  base := fun b o' e => hx b o' (fun hm => by rw [hb b hm] at e; cases e) (rel.base b o' e)
  len := rel.len
  cell := fun l b c h1 h2 => by
    refine (rel.cell l b c h1 h2).mono (List.prefix_refl _) (fun d o' e f => hx d o' (fun hm => ?_) e) fun it n x => hx b _ (fun hm => ?_) x
    · obtain ⟨o, vs, g, d1, d2⟩ := ho d hm; exact hid_ne_froz g d1 d2 e f rfl
    · obtain ⟨o, vs, g, d1, d2⟩ := ho b hm; exact hid_ne_list g d1 x.isList rfl
  nodup := rel.nodup
  above := rel.above
theorem Rel.hid (rel : Rel K F σ ρ s) (hb : ∀ a ∈ fp, K.base.get? a = none) (hm : ∀ a ∈ fp, a ∉ F.mine) (ho : ∀ a ∈ fp, Hid s.heap a) (hx : ∀ b o, b ∉ fp → s.heap.get? b = some o → s'.heap.get? b = some o)
    (hg : s'.gens = s.gens) (hos : s'.os = s.os) : Rel K F σ ρ s' where
  toGRel := rel.toGRel.hid hb ho hx hg hos
  vars := fun y u e => by
    obtain ⟨w, h1, h2⟩ := rel.vars y u e
    refine ⟨w, h1.mono (fun m n => ?_) (fun c u _ n => ?_), Rep.mono' (List.prefix_refl _) (fun d o' e f => hx d o' (fun q => ?_) e) h2⟩
    · have hne : F.env.locals ∉ fp := fun q => by obtain ⟨o, vs, g, d1, d2⟩ := ho _ q; exact hid_ne_ns g d1 n rfl
      obtain ⟨o', es, ep, e', r⟩ := n
      exact ⟨o', es, ep, hx _ _ hne e', r⟩
    · have hne : c ∉ fp := fun q => by obtain ⟨o, vs, g, d1, d2⟩ := ho _ q; exact hid_ne_cell g d1 n rfl
      obtain ⟨o', e', r⟩ := n
      exact ⟨o', hx _ _ hne e', r⟩
    · obtain ⟨o, vs, g, d1, d2⟩ := ho d q; exact hid_ne_froz g d1 d2 e f rfl
  loc := by
    obtain ⟨m, n⟩ := rel.loc
    have hne : F.env.locals ∉ fp := fun q => by obtain ⟨o, vs, g, d1, d2⟩ := ho _ q; exact hid_ne_ns g d1 n rfl
    obtain ⟨o', es, ep, e', r⟩ := n
    exact ⟨m, o', es, ep, hx _ _ hne e', r⟩
  cels := fun y c e => by
    obtain ⟨v, n⟩ := rel.cels y c e
    have hne : c ∉ fp := fun q => by obtain ⟨o, vs, g, d1, d2⟩ := ho _ q; exact hid_ne_cell g d1 n rfl
    obtain ⟨o', e', r⟩ := n
    exact ⟨v, o', hx _ _ hne e', r⟩
  mineAbove := fun b hb' => by
    obtain ⟨h1, o', h2⟩ := rel.mineAbove b hb'
    exact ⟨h1, o', hx b o' (fun q => hm b q hb') h2⟩
  mineApart := rel.mineApart
  mineLoc := rel.mineLoc
  frs := rel.frs.next fun b o es n g d => ⟨o, es, n, hx b o (fun q => by
    obtain ⟨o', vs, g', d', _⟩ := ho b q
    rw [g] at g'; cases g'; rw [d] at d'; cases d') g, d⟩
/-- all stays but hidden objects -/
theorem Ext.hidden (ho : ∀ a ∈ fp, Hid h a) (hal : ∀ a ∈ fp, ∃ o, h'.get? a = some o) (hx : ∀ b o, b ∉ fp → h.get? b = some o → h'.get? b = some o) : Ext (fp ++ mine) ρ ρ h h' where
  pre := List.prefix_refl _
  alive := fun b o e => by
    by_cases q : b ∈ fp
    · exact hal b q
    · exact ⟨o, hx b o q e⟩
  new := fun _ ha => .inl ha
  keep := fun b o e _ n2 => ⟨o, hx b o (fun q => n2 (List.mem_append_left _ q)) e, .refl _⟩
  froz := fun b o e f => hx b o (fun q => by obtain ⟨o', vs, g, d1, d2⟩ := ho b q; exact hid_ne_froz g d1 d2 e f rfl) e
theorem Ext.hide (x : Ext mine ρ₀ ρ h₀ h) (y : Ext (fp ++ mine) ρ ρ' h h') (h0 : ∀ a ∈ fp, h₀.get? a = none) : Ext mine ρ₀ ρ' h₀ h' where
  pre := x.pre.trans y.pre
  alive := fun b o e => by obtain ⟨o1, e1⟩ := x.alive b o e; exact y.alive b o1 e1
  new := fun a ha => by
    rcases y.new a ha with h1 | h1
    · exact x.new a h1
    · refine .inr ?_
      cases e : h₀.get? a with
      | none => rfl
      | some o => obtain ⟨o1, e1⟩ := x.alive a o e; rw [h1] at e1; cases e1
  keep := fun b o e n1 n2 => by
    obtain ⟨o1, e1, l1⟩ := x.keep b o e n1 n2
    have hn : b ∉ ρ := fun hb => by
      rcases x.new b hb with h1 | h1
      · exact n1 h1
      · rw [e] at h1; cases h1
    obtain ⟨o2, e2, l2⟩ := y.keep b _ e1 hn (fun q => by
      rcases List.mem_append.mp q with q | q
      · rw [h0 b q] at e; cases e
      · exact n2 q)
    exact ⟨o2, e2, l1.trans l2⟩
  froz := fun b o e f => y.froz b o (x.froz b o e f) f
end

theorem Ext.butHid {ρ ρ₀ mine fp : List Addr} {h h₀ h' : Heap} (x : Ext mine ρ₀ ρ h₀ h) (h0 : ∀ a ∈ fp, h₀.get? a = none) (hx : ∀ b o, b ∉ fp → h.get? b = some o → h'.get? b = some o) : Ext mine ρ₀ ρ h₀ h' where
  pre := x.pre
  alive := fun b o' e => by
    obtain ⟨o1, e1⟩ := x.alive b o' e
    exact ⟨o1, hx b o1 (fun q => by rw [h0 b q] at e; cases e) e1⟩
  new := x.new
  keep := fun b o' e n1 n2 => by
    obtain ⟨o1, e1, l1⟩ := x.keep b o' e n1 n2
    exact ⟨o1, hx b o1 (fun q => by rw [h0 b q] at e; cases e) e1, l1⟩
  froz := fun b o' e f => hx b o' (fun q => by rw [h0 b q] at e; cases e) (x.froz b o' e f)

/-! ### general iterators -/
/-- nx i is the i-th step; fp are the iterator's own objects -/
structure GIter (K : Glo) (F : Frm) (target : Expr) (I : Addr) (fp : List Addr) (St : Nat → Heap → Prop) (nx : Nat → M (Option V)) (ρ₁ : List Addr) (h₁ : Heap) : Prop where
  hid : ∀ i h, St i h → ∀ b ∈ fp, Hid h b
  frame : ∀ i h h', St i h → (∀ b ∈ fp, ∀ o, h.get? b = some o → h'.get? b = some o) → St i h'
  self : ∀ i (s : Shared) (A : Around) (Q : Value → Shared → Prop) (E : Value → Shared → Prop), St i s.heap → Q (.ref I) s → wpAny (model K.prog K.w) A (pyIter (.ref I)) Q E s
  step : ∀ σ ρ s i, Rel K F σ ρ s → Ext F.mine ρ₁ ρ h₁ s.heap → (∀ b ∈ fp, b ∉ ρ) → (∀ b ∈ fp, b ∉ F.mine) → (∀ b ∈ fp, K.base.get? b = none) → St i s.heap →
    match nx i σ with
    | .stuck => True
    | .exc _ _ => True
    | .ok none σ' => wpAny (model K.prog K.w) F.A (pyNext (.ref I)) (fun r s' => r = none ∧ ∃ ρ', Rel K F σ' ρ' s' ∧ ρ <+: ρ' ∧ ∀ ρ₀ h₀, Ext F.mine ρ₀ ρ h₀ s.heap → (∀ b ∈ fp, h₀.get? b = none) → Ext F.mine ρ₀ ρ' h₀ s'.heap) (fun _ _ => False) s
    | .ok (some v) σ' => wpAny (model K.prog K.w) F.A (pyNext (.ref I)) (fun r s' => ∃ w, r = some w ∧ ∀ (Q : Unit → Shared → Prop) (E : Value → Shared → Prop),
        (∀ s'' ρ', Rel K F σ' ρ' s'' → Ext (fp ++ F.mine) ρ ρ' s.heap s''.heap → St (i + 1) s''.heap → Rep K s''.heap ρ' v w → Q () s'') → wpAny (model K.prog K.w) F.A (letOwnedTupleGo target (.ref I) w) Q E s') (fun _ _ => False) s

noncomputable def forN (nx : Nat → M (Option V)) (t : V → M Unit) (b : M Fl) : Nat → Nat → M Fl
  | 0, _ => stuck
  | n + 1, i => fun σ => match nx i σ with
    | .ok none σ' => .ok .next σ'
    | .ok (some v) σ' => (do
      t v
      match ← b with
      | .next => forN nx t b n (i + 1)
      | .cont => forN nx t b n (i + 1)
      | .brk => pure .next
      | .ret v => pure (.ret v)) σ'
    | _ => .stuck
theorem forN_succ (nx : Nat → M (Option V)) (t : V → M Unit) (b : M Fl) (n i : Nat) (σ : S) : forN nx t b (n + 1) i σ = (match nx i σ with
    | .stuck => .stuck
    | .exc _ _ => .stuck
    | .ok none σ' => .ok .next σ'
    | .ok (some v) σ' => match t v σ' with
      | .stuck => .stuck
      | .exc e σ₂ => .exc e σ₂
      | .ok _ σ₂ => match b σ₂ with
        | .ok .next σ₃ => forN nx t b n (i + 1) σ₃
        | .ok .cont σ₃ => forN nx t b n (i + 1) σ₃
        | .ok .brk σ₃ => .ok .next σ₃
        | .ok (.ret v) σ₃ => .ok (.ret v) σ₃
        | .exc e σ₃ => .exc e σ₃
        | .stuck => .stuck) := by
  rw [forN]
  dsimp only
  cases nx i σ with
  | stuck => rfl
  | exc e y => rfl
  | ok x σ' =>
    cases x with
    | none => rfl
    | some v =>
      dsimp only
      rw [M.bind_def]
      cases t v σ' with
      | stuck => rfl
      | exc e y => rfl
      | ok u y =>
        dsimp only
        rw [M.bind_def]
        cases b y with
        | stuck => rfl
        | exc e z => rfl
        | ok f z => cases f <;> rfl
theorem M.bind_assoc' {α β γ : Type} (m : M α) (f : α → M β) (g : β → M γ) : (m >>= f) >>= g = m >>= fun a => f a >>= g := by
  funext σ
  show (match (m >>= f) σ with | .ok a σ' => g a σ' | .exc e σ' => .exc e σ' | .stuck => .stuck) = _
  rw [M.bind_def, M.bind_def]
  cases m σ <;> rfl
theorem forNC_step (nx : Nat → M (Option V)) (t : V → M Unit) (c : M Bool) (mi : M Unit) (n i : Nat) (σ : S) : forN nx t (compB c mi) (n + 1) i σ = (match nx i σ with
    | .ok none σ' => .ok .next σ'
    | .ok (some v) σ' => (t v >>= fun _ => c >>= fun y => bif y then (mi >>= fun _ => forN nx t (compB c mi) n (i + 1)) else forN nx t (compB c mi) n (i + 1)) σ'
    | _ => .stuck) := by
  have e : ∀ g : Fl → M Fl, compB c mi >>= g = c >>= fun y => bif y then (mi >>= fun _ => g .next) else g .next := by
    intro g
    unfold compB
    rw [M.bind_assoc']
    congr 1
    funext y
    cases y
    · rfl
    · show ((mi >>= fun _ => pure .next) >>= g) = _
      rw [M.bind_assoc']
      rfl
  rw [forN]
  simp only [e]
theorem run_compLoopG {elt target : Expr} {gens : List Comprehension} {scope : Scope} {pos : Pos} {d l : Nat} {a : Addr} {test : Option Expr} {inner : Sem Unit} {t : V → M Unit} {c : M Bool} {mi : M Unit}
    (hto : TurnOk (.ListComp elt gens scope pos) d F.env (.ref a) target test inner)
    (ht : SimT K F target t) (hc : SimTest K F test c) (hin : SimA K F l a inner mi) {I : Addr} {fp : List Addr} {St : Nat → Heap → Prop} {nx : Nat → M (Option V)}
    {σ : S} {ρ ρ₀ : List Addr} {s : Shared} {h₀ : Heap} (hI : GIter K F target I fp St nx ρ₀ h₀) (rel : Rel K F σ ρ s) (hla : ρ[l]? = some a) (x₀ : Ext F.mine ρ₀ ρ h₀ s.heap) (h0 : ∀ b ∈ fp, h₀.get? b = none) (hbase : ∀ b ∈ fp, K.base.get? b = none)
    (hmi : ∀ b ∈ fp, b ∉ F.mine) (hρ : ∀ b ∈ fp, b ∉ ρ) (hs : St 0 s.heap) (n : Nat) (hne : forN nx t (compB c mi) n 0 σ ≠ .stuck) :
    codeAny (model K.prog K.w) F.A (.compLoop (.ListComp elt gens scope pos) d (.ref I) (.ref a) F.env) (fun r s' => match r with
      | .ok _ => ∃ f σ' ρ', forN nx t (compB c mi) n 0 σ = .ok f σ' ∧ Rel K F σ' ρ' s' ∧ Ext F.mine ρ₀ ρ' h₀ s'.heap ∧ ρ'[l]? = some a
      | .error v => EO K F (forN nx t (compB c mi) n 0 σ) ρ₀ h₀ v s') s := by
  refine codeAny_compLoopT (fun k s' => ∃ σ₁ ρ' i, Rel K F σ₁ ρ' s' ∧ forN nx t (compB c mi) k i σ₁ = forN nx t (compB c mi) n 0 σ ∧ Ext F.mine ρ₀ ρ' h₀ s'.heap ∧ (∀ b ∈ fp, b ∉ ρ') ∧ ρ'[l]? = some a ∧ St i s'.heap) ?_ n
    ⟨σ, ρ, 0, rel, rfl, x₀, hρ, hla, hs⟩
  generalize forN nx t (compB c mi) n 0 σ = out at hne ⊢
  rintro k s₁ ⟨σ₁, ρ', i, rel₁, e₁, x₁, hρ₁, hla₁, hs₁⟩
  have note : ∀ {v : Value} {s' : Shared}, EO K F out ρ₀ h₀ v s' → notedBy (model K.prog K.w) F.A F.env (fun e s' => EO K F out ρ₀ h₀ e s') v s' := fun hx => hx.noted
  cases k with
  | zero => exact absurd e₁.symm hne
  | succ k =>
    have e₀ : (match nx i σ₁ with
      | .ok none σ' => .ok .next σ'
      | .ok (some v) σ' => (t v >>= fun _ => c >>= fun y => bif y then (mi >>= fun _ => forN nx t (compB c mi) k (i + 1)) else forN nx t (compB c mi) k (i + 1)) σ'
      | _ => .stuck : Res S Fl) = out := e₁ ▸ (forNC_step ..).symm
    clear e₁
    have hstep := hI.step σ₁ ρ' s₁ i rel₁ x₁ hρ₁ hmi hbase hs₁
    refine hto _ _ _ _ _ _ ?_
    cases en : nx i σ₁ with
    | stuck => rw [en] at e₀; exact absurd e₀.symm hne
    | exc x y => rw [en] at e₀; exact absurd e₀.symm hne
    | ok ov σn =>
      rw [en] at hstep e₀
      cases ov with
      | none =>
        refine wpAny_mono hstep (fun r s₂ h => ?_) fun _ _ h => h.elim
        obtain ⟨rfl, ρ₂, r2, y1, y2⟩ := h
        exact ⟨.next, σn, ρ₂, e₀.symm, r2, y2 _ _ x₁ h0, getElem?_prefix y1 hla₁⟩
      | some v =>
        have hold : ∀ {ρ₂ ρ₃ : List Addr} {g g' : Heap} {i : Nat}, Ext F.mine ρ₂ ρ₃ g g' → (∀ b ∈ fp, b ∉ ρ₂) → St i g → St i g' ∧ (∀ b ∈ fp, b ∉ ρ₃) := by
          intro ρ₂ ρ₃ g g' i x hn e
          refine ⟨hI.frame i g g' e fun b hb o ho => ?_, fun b hb hin => ?_⟩
          · obtain ⟨o1, vs, g1, d1, _⟩ := hI.hid i g e b hb
            rw [g1] at ho; cases ho
            obtain ⟨o', e', l⟩ := x.keep b o g1 (hn b hb) (hmi b hb)
            rw [e', l.same (fun es n q => by rw [d1] at q; cases q)]
          · rcases x.new b hin with q | q
            · exact hn b hb q
            · obtain ⟨o1, vs, g1, d1, _⟩ := hI.hid i g e b hb
              rw [g1] at q; cases q
        refine wpAny_mono hstep (fun r s₂' h => ?_) fun _ _ h => h.elim
        obtain ⟨w, rfl, h⟩ := h
        refine h _ _ fun s₂ ρ₂ rel₂ y₂ hs₂ rv => ?_
        have hρ₂ : ∀ b ∈ fp, b ∉ ρ₂ := fun b hb hin => by
          rcases y₂.new b hin with q | q
          · exact hρ₁ b hb q
          · obtain ⟨o, _, g, _⟩ := hI.hid i _ hs₁ b hb
            rw [g] at q; cases q
        refine (ht σn ρ₂ s₂ v w rel₂ rv).stepW (x₁.hide y₂ h0) hne e₀ note fun _ σ₃ ρ₃ _ s₃ e₃ rel₃ y₃ x₃ _ => ?_
        obtain ⟨ho₃, hρ₃⟩ := hold y₃ hρ₂ hs₂
        have hla₃ := getElem?_prefix y₃.pre (getElem?_prefix y₂.pre hla₁)
        refine (hc σ₃ ρ₃ s₃ rel₃).stepW x₃ hne e₃ note fun b σ₄ ρ₄ wb s₄ e₄ rel₄ y₄ x₄ rb => ?_
        have : wb = b := rb
        subst this
        obtain ⟨ho₄, hρ₄⟩ := hold y₄ hρ₃ ho₃
        have hla₄ := getElem?_prefix y₄.pre hla₃
        cases wb with
        | false => exact ⟨rfl, k, Nat.lt_succ_self _, σ₄, ρ₄, i + 1, rel₄, e₄, x₄, hρ₄, hla₄, ho₄⟩
        | true =>
          refine (hin σ₄ ρ₄ s₄ rel₄ hla₄).stepW x₄ hne e₄ note fun _ σ₅ ρ₅ _ s₅ e₅ rel₅ y₅ x₅ _ => ?_
          obtain ⟨ho₅, hρ₅⟩ := hold y₅ hρ₄ ho₄
          exact ⟨rfl, k, Nat.lt_succ_self _, σ₅, ρ₅, i + 1, rel₅, e₅, x₅, hρ₅, getElem?_prefix y₅.pre hla₄, ho₅⟩

/-- a comprehension's clause goes through its iterator -/
noncomputable def nxM (nxt : S → Nat → Option (Option V)) (i : Nat) : M (Option V) := fun σ => match nxt σ i with
  | none => .stuck
  | some ov => .ok ov σ
theorem forN_nxM (nxt : S → Nat → Option (Option V)) (t : V → M Unit) (b : M Fl) : ∀ (n i : Nat) (σ : S), forN (nxM nxt) t b n i σ = forG nxt t b n i σ
  | 0, _, _ => rfl
  | n + 1, i, σ => by
    rw [forN_succ, forG_succ]
    unfold nxM
    cases nxt σ i with
    | none => rfl
    | some ov =>
      cases ov with
      | none => rfl
      | some v =>
        dsimp only
        cases t v σ with
        | stuck => rfl
        | exc e y => rfl
        | ok u y =>
          dsimp only
          cases b y with
          | stuck => rfl
          | exc e z => rfl
          | ok f z => cases f <;> first | rfl | exact forN_nxM nxt t b n (i + 1) z
theorem Iter.g {target : Expr} {I : Addr} {Src : Nat → Obj → Prop} {nxt : S → Nat → Option (Option V)} {ρ₀ : List Addr} {h₀ : Heap} (hI : Iter K F I Src nxt ρ₀ h₀) :
    GIter K F target I [I] (fun i h => ∃ o, h.get? I = some o ∧ Src i o) (nxM nxt) ρ₀ h₀ where
  hid := by
    rintro i h ⟨o, g, hs⟩ b hb
    obtain ⟨vs, T, d, c, _, r⟩ := hI.1 i o hs
    rw [List.mem_singleton.mp hb]
    exact ⟨o, vs, g, d, by rw [c]; exact fun e => r (by cases e; rfl)⟩
  frame := by
    rintro i h h' ⟨o, g, hs⟩ hk
    exact ⟨o, hk I (by simp) o g, hs⟩
  self := by
    rintro i s A Q E ⟨o, g, hs⟩ q
    exact hI.2.1 i o s A Q E g hs q
  step := by
    rintro σ ρ s i rel x hρ hm hb ⟨o, g, hs⟩
    have hstep := hI.2.2 σ ρ s i o rel x g hs
    obtain ⟨vs, T, hd, hc, hT, hr⟩ := hI.1 i o hs
    have hh : ∀ a ∈ [I], Hid s.heap a := by
      intro a ha
      rw [List.mem_singleton.mp ha]
      exact ⟨o, vs, g, hd, by rw [hc]; exact fun e => hr (by cases e; rfl)⟩
    unfold nxM
    cases en : nxt σ i with
    | none => trivial
    | some ov =>
      rw [en] at hstep
      cases ov with
      | none =>
        refine wpAny_mono hstep (fun r s₂ h => ?_) fun _ _ h => h.elim
        obtain ⟨rfl, hx, hg, hos⟩ := h
        have hx' : ∀ b o, b ∉ [I] → s.heap.get? b = some o → s₂.heap.get? b = some o := fun b o hb e => hx b o (by simpa using hb) e
        exact ⟨rfl, ρ, rel.hid hb hm hh hx' hg hos, List.prefix_refl _, fun ρ₀ h₀ x h0 => x.butHid h0 hx'⟩
      | some v =>
        refine wpAny_mono hstep (fun r s₂ h => ?_) fun _ _ h => h.elim
        obtain ⟨w, rfl, hx, hg, hos, ⟨o₂, ho₂, hs₂⟩, rv⟩ := h
        refine ⟨w, rfl, fun Q E q => ?_⟩
        obtain ⟨vs₂, T₂, hd₂, hc₂, hT₂, hr₂⟩ := hI.1 (i + 1) o₂ hs₂
        have hx' : ∀ b o, b ∉ [I] → s.heap.get? b = some o → s₂.heap.get? b = some o := fun b o hb e => hx b o (by simpa using hb) e
        refine owned_skip ho₂ hc₂ hT₂ (q s₂ ρ (rel.hid hb hm hh hx' hg hos) (Ext.hidden hh (fun a ha => by rw [List.mem_singleton.mp ha]; exact ⟨_, ho₂⟩) hx') ⟨o₂, ho₂, hs₂⟩ rv)
theorem run_compLoop {elt target : Expr} {gens : List Comprehension} {scope : Scope} {pos : Pos} {d l : Nat} {a : Addr} {test : Option Expr} {inner : Sem Unit} {t : V → M Unit} {c : M Bool} {mi : M Unit}
    (hto : TurnOk (.ListComp elt gens scope pos) d F.env (.ref a) target test inner)
    (ht : SimT K F target t) (hc : SimTest K F test c) (hin : SimA K F l a inner mi) {I : Addr} {Src : Nat → Obj → Prop} {nxt : S → Nat → Option (Option V)}
    {σ : S} {ρ ρ₀ : List Addr} {s : Shared} {h₀ : Heap} {o : Obj} (hI : Iter K F I Src nxt ρ₀ h₀) (rel : Rel K F σ ρ s) (hla : ρ[l]? = some a) (x₀ : Ext F.mine ρ₀ ρ h₀ s.heap) (h0 : h₀.get? I = none) (hbase : K.base.get? I = none)
    (hmi : I ∉ F.mine) (hρ : I ∉ ρ) (ho : s.heap.get? I = some o) (hs : Src 0 o) (n : Nat) (hne : forG nxt t (compB c mi) n 0 σ ≠ .stuck) :
    codeAny (model K.prog K.w) F.A (.compLoop (.ListComp elt gens scope pos) d (.ref I) (.ref a) F.env) (fun r s' => match r with
      | .ok _ => ∃ f σ' ρ', forG nxt t (compB c mi) n 0 σ = .ok f σ' ∧ Rel K F σ' ρ' s' ∧ Ext F.mine ρ₀ ρ' h₀ s'.heap ∧ ρ'[l]? = some a
      | .error v => EO K F (forG nxt t (compB c mi) n 0 σ) ρ₀ h₀ v s') s := by
  have key : ∀ {P : Addr → Prop}, P I → ∀ b ∈ [I], P b := fun h b hb => by rw [List.mem_singleton.mp hb]; exact h
  rw [← forN_nxM] at hne ⊢
  exact run_compLoopG hto ht hc hin hI.g rel hla x₀ (key h0) (key hbase) (key hmi) (key hρ) ⟨o, ho, hs⟩ n hne

theorem codeAny_compStartD {prog : Program} {w : World} {A : Around} {s : Shared} {R : Result → Shared → Prop} {elt target iter : Expr} {ifs : List Expr} {gens : List Comprehension} {scope : Scope} {pos : Pos} {d : Nat} {it acc : Value} {env : Env}
    (hg : gens[d]? = some ⟨target, iter, ifs, 0⟩)
    (h0 : codeAny (model prog w) A (.compLoop (.ListComp elt gens scope pos) d it acc env) R s)
    (h : ∀ (Q : Value → Shared → Prop) (E : Value → Shared → Prop), Q it s → wpAny (model prog w) A (pyIter it) Q E s) :
    codeAny (model prog w) A (.compStart (.ListComp elt gens scope pos) d it acc env) R s := by
  refine codeAny_of_tree ?_
  show wpAny _ A ((compStart (.ListComp elt gens scope pos) d it acc env).onRaise (fun x => do noteFrame x env; standAt theWindowsPlace)) _ _ s
  refine wpAny_notedAt ?_
  unfold compStart
  have hcl : clausesOf (.ListComp elt gens scope pos) = gens := rfl
  rw [hcl, hg]
  show wpAny _ _ (ask >>= _) _ _ s
  refine wpAny_bind (wpAny_askSetting (wpAny_ite ?_))
  split
  · first
      | exact wpAny_bind (wpAny_pure (wpAny_pure (And.intro rfl h0)))
      | exact wpAny_pure (And.intro rfl h0)
  · refine wpAny_bind (wpAny_rule ?_)
    show wpAny _ _ (standAt iter.pos >>= _) _ _ s
    exact wpAny_bind (wpAny_standAt (wpAny_bind (h _ _ (wpAny_pure (And.intro rfl h0)))))

/-! ### the comprehension's own frame -/
noncomputable def compFrm (F : Frm) (scope : Scope) (cl : List (Str × Addr)) (C : Addr) : Frm := ⟨compEnvC scope cl C F.env, F.A, [C], F.nh⟩
theorem FOk.comp (fk : FOk F) {scope : Scope} {cl : List (Str × Addr)} {C : Addr} (hk : scope.kind = .function) : FOk (compFrm F scope cl C) := ⟨hk, fk.glob, fk.blt, fk.hd, fk.units⟩

/-- C is no frame on the stack -/
noncomputable def NoFrame (F : Frm) (C : Addr) : Prop := ∀ l, F.A.frames = some l → ∀ env ∈ l, env.frame ≠ some C
theorem Rel.noFrame {σ : S} {ρ : List Addr} {s : Shared} {C : Addr} (rel : Rel K F σ ρ s) (h : s.heap.get? C = none) : NoFrame F C := by
  intro l hl env he hf
  obtain ⟨e, l', a1, a2, a3⟩ := rel.frs
  rw [a1] at hl; cases hl
  obtain ⟨_, L, o, es, n, f, _, g, _⟩ := a3 env he
  rw [f] at hf; cases hf
  rw [h] at g; cases g
theorem Rel.butC {σ : S} {ρ : List Addr} {s s' : Shared} {C : Addr} {m : Str → Option Value} (rel : Rel K F σ ρ s) (hb : K.base.get? C = none) (hm : C ∉ F.mine) (hρ : C ∉ ρ) (hn : s.heap.Ns C m) (hs : Heap.SameBut C s.heap s'.heap)
    (hg : s'.gens = s.gens) (ho : s'.os = s.os) (hC : NoFrame F C) : Rel K F σ ρ s' where
  toGRel := rel.toGRel.mineBut hb hρ hs (fun b o e f => ns_ne_tup hn e f) hg ho
  vars := fun y u e => by
    obtain ⟨w, h1, h2⟩ := rel.vars y u e
    refine ⟨w, h1.mono (fun m' n => n.sameBut hs (fun q => hm (q ▸ rel.mineLoc))) (fun c u _ n => n.sameBut hs (fun q => cell_ne_ns n hn q.symm)), ?_⟩
    exact Rep.mono' (List.prefix_refl _) (fun b o e f => (hs.2 b (ns_ne_tup hn e f)).trans e) h2
  loc := by obtain ⟨m', n⟩ := rel.loc; exact ⟨m', n.sameBut hs (fun q => hm (q ▸ rel.mineLoc))⟩
  cels := fun y c e => by obtain ⟨v, n⟩ := rel.cels y c e; exact ⟨v, n.sameBut hs (fun q => cell_ne_ns n hn q.symm)⟩
  mineAbove := fun b hb' => by
    obtain ⟨h1, o, h2⟩ := rel.mineAbove b hb'
    exact ⟨h1, o, (hs.2 b (fun q => hm (q ▸ hb'))).trans h2⟩
  mineApart := rel.mineApart
  mineLoc := rel.mineLoc
  frs := by
    obtain ⟨e, l, a1, a2, a3⟩ := rel.frs
    refine ⟨e, l, a1, a2, a3.next fun b o es n hfr g d => ⟨o, es, n, (hs.2 b ?_).trans g, d⟩⟩
    intro q
    obtain ⟨env, he, hf⟩ := hfr
    exact hC _ a1 env he (q ▸ hf)
theorem Ext.butC {mine ρ₀ ρ : List Addr} {h₀ h h' : Heap} {C : Addr} (x : Ext mine ρ₀ ρ h₀ h) (h0 : h₀.get? C = none) (hs : Heap.SameBut C h h') : Ext mine ρ₀ ρ h₀ h' where
  pre := x.pre
  alive := fun b o e => by
    obtain ⟨o1, e1⟩ := x.alive b o e
    exact ⟨o1, (hs.2 b (by rintro rfl; rw [h0] at e; cases e)).trans e1⟩
  new := x.new
  keep := fun b o e n1 n2 => by
    obtain ⟨o1, e1, l1⟩ := x.keep b o e n1 n2
    exact ⟨o1, (hs.2 b (by rintro rfl; rw [h0] at e; cases e)).trans e1, l1⟩
  froz := fun b o e f => (hs.2 b (by rintro rfl; rw [h0] at e; cases e)).trans (x.froz b o e f)

/-- what the clauses of a comprehension do, in the comprehension's frame -/
noncomputable def SimClauses (K : Glo) (F : Frm) (elt : Expr) (gens : List Comprehension) (scope : Scope) (pos : Pos) (d : Nat) (m : Nat → (S → Nat → Option (Option V)) → M Unit) : Prop :=
  ∀ (l : Nat) (a : Addr) (I : Addr) (Src : Nat → Obj → Prop) (nxt : S → Nat → Option (Option V)) σ ρ ρ₀ s h₀ o, Iter K F I Src nxt ρ₀ h₀ → Rel K F σ ρ s → ρ[l]? = some a → Ext F.mine ρ₀ ρ h₀ s.heap → h₀.get? I = none → K.base.get? I = none →
    I ∉ F.mine → I ∉ ρ → s.heap.get? I = some o → Src 0 o → m l nxt σ ≠ .stuck →
    codeAny (model K.prog K.w) F.A (.compStart (.ListComp elt gens scope pos) d (.ref I) (.ref a) F.env) (fun r s' => match r with
      | .ok _ => ∃ σ' ρ', m l nxt σ = .ok () σ' ∧ Rel K F σ' ρ' s' ∧ Ext F.mine ρ₀ ρ' h₀ s'.heap ∧ ρ'[l]? = some a
      | .error v => EO K F (m l nxt σ) ρ₀ h₀ v s') s

noncomputable def loopC (n : Nat) (t : V → M Unit) (c : M Bool) (mi : M Unit) (nxt : S → Nat → Option (Option V)) : M Unit := do
  let _ ← forG nxt t (compB c mi) n 0
  pure ()

theorem loopC_ne {n : Nat} {t : V → M Unit} {c : M Bool} {mi : M Unit} {nxt : S → Nat → Option (Option V)} {σ : S} (h : loopC n t c mi nxt σ ≠ .stuck) : forG nxt t (compB c mi) n 0 σ ≠ .stuck := by
  intro e; apply h; unfold loopC; rw [M.bind_def, e]

theorem clauses_of {elt target iter : Expr} {ifs : List Expr} {gens : List Comprehension} {scope : Scope} {pos : Pos} {d : Nat} {test : Option Expr} {inner : Value → Sem Unit} {t : V → M Unit} {c : M Bool} {mi : Nat → M Unit} (n : Nat)
    (hg : gens[d]? = some ⟨target, iter, ifs, 0⟩)
    (hto : ∀ acc, TurnOk (.ListComp elt gens scope pos) d F.env acc target test (inner acc)) (ht : SimT K F target t) (hc : SimTest K F test c) (hin : ∀ l a, SimA K F l a (inner (.ref a)) (mi l)) :
    SimClauses K F elt gens scope pos d (fun l nxt => loopC n t c (mi l) nxt) := by
  intro l a I Src nxt σ ρ ρ₀ s h₀ o hI rel hla x₀ h0 hb hm hρ ho hs hne
  refine codeAny_compStartD hg ?_ (fun Q E q => hI.2.1 0 o s _ Q E ho hs q)
  refine codeAny_mono (run_compLoop (hto _) ht hc (hin l a) hI rel hla x₀ h0 hb hm hρ ho hs n (loopC_ne hne)) fun r s' h => ?_
  cases r with
  | ok f =>
    obtain ⟨f', σ', ρ', e, r1, r2, r4⟩ := h
    exact ⟨σ', ρ', by show loopC n t c (mi l) nxt σ = _; unfold loopC; rw [M.bind_def, e]; rfl, r1, r2, r4⟩
  | error v =>
    obtain ⟨e, σ', ρ', e1, r1, r2, r3⟩ := h
    exact ⟨e, σ', ρ', by show loopC n t c (mi l) nxt σ = _; unfold loopC; rw [M.bind_def, e1], r1, r2, r3⟩

noncomputable def appendAt (l : Nat) (v : V) : M Unit := do
  let _ ← appendG (.obj l) [v]
  pure ()
theorem simA_emit (fk : FOk F) {elt : Expr} {me : M V} (he : SimE K F elt me) (l : Nat) (a : Addr) (hnh : F.nh = true := by rfl) : SimA K F l a (emitL elt F.env (.ref a)) (do let v ← me; appendAt l v) := by
  intro σ ρ s rel hla
  unfold emitL
  refine Run.bind (he σ ρ s rel) fun v σ₁ ρ₁ s₁ w _ rel₁ x₁ rv => ?_
  unfold appendAt
  refine Run.bind (meth_append F fk hnh σ₁ ρ₁ s₁ (.obj l) (.ref a) [v] [w] rel₁ (Rep.obj_iff.mpr ⟨a, getElem?_prefix x₁.pre hla, rfl⟩) (RepL.cons rv RepL.nil)) fun u σ₂ ρ₂ s₂ _ _ rel₂ x₂ _ => ?_
  exact Run.pure rel₂ trivial

end

/-! part F15 -/
set_option autoImplicit false
set_option maxRecDepth 100000
set_option linter.unusedVariables false
open PySem PySem.W PyProof.Rows
section
variable {K : Glo} {F : Frm}

noncomputable def restr (free : List String) (lo : String → Option V) : String → Option V := fun x => if x ∈ free then lo x else none
noncomputable def compTail (free : List String) (mc : Nat → (S → Nat → Option (Option V)) → M Unit) (v : V) : M V := fun σ => match okIter v σ with
  | .ok _ _ => match mc σ.st.length (nxtOf v) ⟨σ.st ++ [.lst []], restr free σ.lo⟩ with
    | .ok _ σ' => .ok (.obj σ.st.length) ⟨σ'.st, σ.lo⟩
    | .exc _ _ => .stuck
    | .stuck => .stuck
  | _ => .stuck

theorem okIter_ok {v : V} {σ : S} {u : Unit} {σ' : S} (h : okIter v σ = .ok u σ') : okIter v σ = .ok () σ := by
  cases v with
  | obj l =>
    have h' : chkL (.obj l) σ = .ok u σ' := h
    show chkL (.obj l) σ = _
    cases hc : σ.st[l]? with
    | none => simp only [chkL, hc] at h'; cases h'
    | some c => cases c with | lst us => exact chkL_ok hc
  | tup vs => rfl
  | rng a b' c =>
    unfold okIter at h ⊢
    by_cases hsm : Builtin.Range.small a b' c = true
    · simp only [hsm, if_true]
    · simp only [hsm] at h; cases h
  | _ => cases h

structure CompOk (F : Frm) (scope : Scope) (cl : List (Str × Addr)) (free : List String) : Prop where
  clos : closureFor scope F.env = pure cl
  kind : scope.kind = .function
  names : ∀ x ∈ scope.names, x.2 = .local → scope.names.lookup x.1 = some .local
  nocell : ∀ x ∈ scope.names, x.2 ≠ .cell
  free : ∀ x ∈ free, ((relabel scope F.env).names.lookup (Str.ofString x) = some .cell ∨ (relabel scope F.env).names.lookup (Str.ofString x) = some .free) ∧ F.env.kindOf (Str.ofString x) ≠ some .local ∧
    ∀ c, F.env.cells.lookup (Str.ofString x) = some c → cl.lookup (Str.ofString x) = some c
  cells : ∀ x c, cl.lookup x = some c → F.env.cells.lookup x = some c

theorem FrsOk.comp {h : Heap} {scope : Scope} {cl : List (Str × Addr)} {C : Addr} (x : FrsOk K F h) : FrsOk K (compFrm F scope cl C) h := x

theorem wp_comp (fk : FOk F) {elt target iter : Expr} {ifs : List Expr} {gs : List Comprehension} {scope : Scope} {pos fpos : Pos} {cl : List (Str × Addr)} {free : List String} {mi : M V} {mc : Nat → (S → Nat → Option (Option V)) → M Unit}
    {use : Option (Value → Sem Unit)} {Q : Value → Shared → Prop} {E : Value → Shared → Prop} (hs : ∀ x, foldedSetIterable iter F.env x = pure x) (ck : CompOk F scope cl free) (hi : SimE K F iter mi)
    (hc : ∀ C, SimClauses K (compFrm F scope cl C) elt (⟨target, iter, ifs, 0⟩ :: gs) scope pos 0 mc) {σ : S} {ρ : List Addr} {s : Shared} (rel : Rel K F σ ρ s) (hne : (mi >>= compTail free mc) σ ≠ .stuck) (hnh : F.nh = true)
    (hQ : ∀ v σ' ρ' s' w C m, (mi >>= compTail free mc) σ = .ok v σ' → Rel K F σ' ρ' s' → Ext F.mine ρ ρ' s.heap s'.heap → Rep K s'.heap ρ' v w → s'.heap.Ns C m → C ∉ F.mine → C ∉ ρ' → K.base.get? C = none → s.heap.get? C = none →
      compPost (model K.prog K.w) F.A E use Q w C (.ok .next) s')
    (hE : ∀ v s', EO K F ((mi >>= compTail free mc) σ) ρ s.heap v s' → E v s') :
    wpAny (model K.prog K.w) F.A (comprehension (.ListComp elt (⟨target, iter, ifs, 0⟩ :: gs) scope pos) scope F.env fpos (newList []) false (eval iter F.env) use) Q E s := by
  refine wpAny_comprehension_free (use := use) rfl hs ck.clos ck.kind ck.names ?_
  refine wpAny_mono (Run.bindWp (P := fun x s₁ => wpAny (model K.prog K.w) F.A (pyIter x) (fun it s₂ => wpAny (model K.prog K.w) F.A (newList []) (fun acc s₃ =>
      wpAny (model K.prog K.w) F.A (newFunctionEnv scope F.env.globals cl [] F.env.qual none .none (some F.env)) (fun cenv s₄ =>
        codeAny (model K.prog K.w) F.A (.compStart (.ListComp elt (⟨target, iter, ifs, 0⟩ :: gs) scope pos) 0 it acc { cenv with scope := relabel scope F.env }) (compPost (model K.prog K.w) F.A E use Q acc cenv.locals) s₄) E s₃) E s₂) E s₁)
    (hi σ ρ s rel) hne ?_) (fun _ _ q => q) (fun v s' q => hE v s' q)
  intro v σ₁ ρ₁ s₁ w e1 e2 rel₁ x₁ rv
  rw [e2] at hne hQ hE
  cases hok : okIter v σ₁ with
  | stuck => exact absurd (by unfold compTail; rw [hok]) hne
  | exc e y => exact absurd (by unfold compTail; rw [hok]) hne
  | ok u y =>
    have hok' := okIter_ok hok
    have eT : compTail free mc v σ₁ = (match mc σ₁.st.length (nxtOf v) ⟨σ₁.st ++ [.lst []], restr free σ₁.lo⟩ with
      | .ok _ σ' => .ok (.obj σ₁.st.length) ⟨σ'.st, σ₁.lo⟩
      | .exc _ _ => .stuck
      | .stuck => .stuck) := by unfold compTail; rw [hok]
    obtain ⟨obj, Src, hsrc, hfr, hIt, hpy⟩ := wp_pyIter rel₁ rv hok'
    obtain ⟨f0, f1, f2, f3⟩ := fresh_facts rel₁
    refine hpy _ _ _ ?_
    have rel₂ := rel₁.push obj s₁.toks
    have x₂ : Ext F.mine ρ₁ ρ₁ s₁.heap (s₁.heap.push obj) := Ext.push obj
    refine wpAny_newList ?_ (by simp [sizeLine_eq])
    obtain ⟨rel₃, x₃⟩ := rel₂.newList (vs := []) (ws := []) (o := { cls := .type "list", data := .seq ([] : List Value).toArray }) rfl RepL.nil (by simp) s₁.toks
    refine wpAny_newFunctionEnv ck.nocell (by intro y hy; simp at hy) (fun h₄ hns hsb => ?_) ck.kind
    dsimp only at hns hsb rel₃ x₃ ⊢
    generalize hH : (s₁.heap.push obj).push { cls := .type "list", data := .seq ([] : List Value).toArray } = H at hns hsb rel₃ x₃ ⊢
    have hI : (s₁.heap.push obj).objs.size = s₁.heap.objs.size + 1 := Heap.size_push ..
    have hC : H.objs.size = s₁.heap.objs.size + 2 := by rw [← hH, Heap.size_push, hI]
    generalize hCd : H.objs.size = C at hns hsb hC ⊢
    have hkeep : ∀ b o, H.get? b = some o → h₄.get? b = some o := fun b o e => (hsb.2 b (by rw [← hCd]; exact Nat.ne_of_lt (Heap.lt_size e))).trans (Heap.get?_push_of_some _ e)
    have fC : s₁.heap.get? C = none := Heap.get?_none_of_le (by rw [hC]; (first | lia | omega))
    have bC : K.base.get? C = none := by
      cases e : K.base.get? C with
      | none => rfl
      | some o => have := rel₁.base _ _ e; rw [fC] at this; cases this
    have rel₄ : Rel K (compFrm F scope cl C) ⟨σ₁.st ++ [.lst []], restr free σ₁.lo⟩ (ρ₁ ++ [(s₁.heap.push obj).objs.size]) { s₁ with heap := h₄, toks := s₁.toks + 0 } := by
      refine { toGRel := rel₃.toGRel.kept hkeep rfl rfl, vars := ?_, loc := ⟨_, hns⟩, cels := ?_, mineAbove := ?_, mineApart := ?_, mineLoc := List.mem_singleton.mpr rfl, frs := (rel₃.frs.kept hkeep).comp }
      · intro x v' e
        have hx : x ∈ free := by
          by_cases h : x ∈ free
          · exact h
          · simp only [restr, if_neg h] at e; cases e
        simp only [restr, if_pos hx] at e
        obtain ⟨w', h1, h2⟩ := rel₃.vars x v' e
        refine ⟨w', ?_, Rep.mono' (List.prefix_refl _) (kept_tup hkeep) h2⟩
        obtain ⟨q1, q2, q3⟩ := ck.free x hx
        rcases h1 with ⟨k1, _⟩ | ⟨k1, c, ec, n⟩
        · exact absurd k1 q2
        · exact .inr ⟨q1, c, q3 c ec, n.keeps hkeep⟩
      · intro x c e
        obtain ⟨v', n⟩ := rel₃.cels x c (ck.cells x c e)
        exact ⟨v', n.keeps hkeep⟩
      · intro a ha
        have : a = C := List.mem_singleton.mp ha
        subst this
        obtain ⟨o, _, _, e, _⟩ := hns
        exact ⟨bC, o, e⟩
      · intro a ha hb
        have : a = C := List.mem_singleton.mp ha
        subst this
        obtain ⟨_, o, e, _⟩ := rel₃.toGRel.alive hb
        rw [Heap.get?_none_of_le (by rw [hCd]; exact Nat.le_refl _)] at e; cases e
    have x₄ : Ext [C] ρ₁ (ρ₁ ++ [(s₁.heap.push obj).objs.size]) s₁.heap h₄ := by
      refine ⟨List.prefix_append _ _, fun b o e => ⟨o, hkeep b o (by rw [← hH]; exact Heap.get?_push_of_some _ (Heap.get?_push_of_some _ e))⟩, fun a ha => ?_, fun b o e _ _ => ⟨o, hkeep b o (by rw [← hH]; exact Heap.get?_push_of_some _ (Heap.get?_push_of_some _ e)), .refl _⟩,
        fun b o e _ => hkeep b o (by rw [← hH]; exact Heap.get?_push_of_some _ (Heap.get?_push_of_some _ e))⟩
      rcases List.mem_append.mp ha with ha | ha
      · exact .inl ha
      · have := List.mem_singleton.mp ha
        subst this
        exact .inr (Heap.get?_none_of_le (by rw [hI]; (first | lia | omega)))
    have hIC : s₁.heap.objs.size ≠ C := by rw [hC]; (first | lia | omega)
    have hne' : mc σ₁.st.length (nxtOf v) ⟨σ₁.st ++ [.lst []], restr free σ₁.lo⟩ ≠ .stuck := fun e => hne (by rw [eT, e])
    have main := hc C σ₁.st.length (s₁.heap.push obj).objs.size s₁.heap.objs.size Src (nxtOf v) ⟨σ₁.st ++ [.lst []], restr free σ₁.lo⟩ (ρ₁ ++ [(s₁.heap.push obj).objs.size]) ρ₁ { s₁ with heap := h₄, toks := s₁.toks + 0 } s₁.heap obj
      (hIt _ (fk.comp ck.kind) hnh) rel₄ (by rw [← rel₁.len, List.getElem?_concat_length]) x₄ f0 f1 (fun h => hIC (List.mem_singleton.mp h))
      (fun h => by
        rcases List.mem_append.mp h with h | h
        · exact f3 h
        · have := List.mem_singleton.mp h; rw [hI] at this; exact absurd this (Nat.ne_of_lt (Nat.lt_succ_self _)))
      (hkeep _ _ (by rw [← hH]; exact Heap.get?_push_of_some _ (Heap.get?_push_size _ hfr))) hsrc hne'
    refine codeAny_mono main fun r s' h => ?_
    cases r with
    | error v' =>
      obtain ⟨x, σ', ρ', em, r1, r2, r3⟩ := h
      have hmo : mc σ₁.st.length (nxtOf v) ⟨σ₁.st ++ [.lst []], restr free σ₁.lo⟩ = .exc x σ' := em
      rw [hmo] at eT
      exact absurd eT hne
    | ok f =>
      obtain ⟨σ', ρ', em, r1, r2, r4⟩ := h
      rw [em] at eT
      have xn : Ext [] ρ₁ ρ' s₁.heap s'.heap := ⟨r2.pre, r2.alive, r2.new, fun b o e n1 _ => r2.keep b o e n1 (fun hm => by have := List.mem_singleton.mp hm; subst this; rw [fC] at e; cases e), r2.froz⟩
      have relF := rel₁.called r1.toGRel xn fk
      obtain ⟨m, hm⟩ := r1.loc
      have hsC : s.heap.get? C = none := by
        cases e : s.heap.get? C with
        | none => rfl
        | some o => obtain ⟨o', e'⟩ := x₁.alive _ _ e; rw [fC] at e'; cases e'
      have hmC : C ∉ F.mine := fun h => by
        obtain ⟨_, o, e⟩ := rel₁.mineAbove _ h
        rw [fC] at e; cases e
      have := hQ (.obj σ₁.st.length) ⟨σ'.st, σ₁.lo⟩ ρ' s' (.ref (s₁.heap.push obj).objs.size) C m eT relF (x₁.trans (ext_of_nil xn)) (Rep.obj_iff.mpr ⟨_, r4, rfl⟩) hm hmC (r1.mineApart C (List.mem_singleton.mpr rfl)) bC hsC
      cases use <;> exact this

theorem simE_listcomp (fk : FOk F) {elt target iter : Expr} {ifs : List Expr} {gs : List Comprehension} {scope : Scope} {pos : Pos} {cl : List (Str × Addr)} {free : List String} {mi : M V} {mc : Nat → (S → Nat → Option (Option V)) → M Unit}
    (ck : CompOk F scope cl free) (hi : SimE K F iter mi)
    (hc : ∀ C, SimClauses K (compFrm F scope cl C) elt (⟨target, iter, ifs, 0⟩ :: gs) scope pos 0 mc) (hs : ∀ x, foldedSetIterable iter F.env x = pure x := by intro _; rfl) (hnh : F.nh = true := by rfl) :
    SimE K F (.ListComp elt (⟨target, iter, ifs, 0⟩ :: gs) scope pos) (mi >>= compTail free mc) := by
  intro σ ρ s rel
  refine Run.of_wp fun hne => ?_
  show wpAny _ _ (comprehension (.ListComp elt (⟨target, iter, ifs, 0⟩ :: gs) scope pos) scope F.env _ (newList []) false (eval iter F.env) none) _ _ s
  refine wp_comp fk (use := none) hs ck hi hc rel hne hnh ?_ fun _ _ q => q
  intro v σ' ρ' s' w C m e r1 x1 rv hm q1 q2 q3 q4
  exact ⟨m, hm, fun h' hsb => ⟨v, σ', ρ', e, r1.butC q3 q1 q2 hm hsb rfl rfl (rel.noFrame q4), x1.butC q4 hsb, Rep.mono' (List.prefix_refl _) (fun b o e f => (hsb.2 b (ns_ne_tup hm e f)).trans e) rv⟩⟩

/-- name = [.. for ..], where the stores are exchanged -/
theorem simS_assign_comp (fk : FOk F) {elt target iter : Expr} {ifs : List Expr} {gs : List Comprehension} {scope : Scope} {pos spos tpos : Pos} {cl : List (Str × Addr)} {free : List String} {mi : M V} {mc : Nat → (S → Nat → Option (Option V)) → M Unit} {x : String} {mt : V → M Unit}
    (ck : CompOk F scope cl free) (ht : SimT K F (.Name (Str.ofString x) tpos) mt) (hi : SimE K F iter mi)
    (hc : ∀ C, SimClauses K (compFrm F scope cl C) elt (⟨target, iter, ifs, 0⟩ :: gs) scope pos 0 mc)
    (hsw : swapsWith (.ListComp elt (⟨target, iter, ifs, 0⟩ :: gs) scope pos) (some (.Name (Str.ofString x) tpos)) spos.line F.env = pure true := by rfl)
    (hs : ∀ x, foldedSetIterable iter F.env x = pure x := by intro _; rfl) (hnh : F.nh = true := by rfl) :
    SimS K F (.Assign [.Name (Str.ofString x) tpos] (.ListComp elt (⟨target, iter, ifs, 0⟩ :: gs) scope pos) spos) (do let v ← mi >>= compTail free mc; mt v; pure .next) := by
  intro σ ρ s rel
  rw [exec_Assign_Name_used _ _ _ _ hsw]
  refine Run.standAt ?_
  refine Run.of_wp fun hne => ?_
  have hne1 : (mi >>= compTail free mc) σ ≠ .stuck := fun e => hne (by rw [M.bind_def, e])
  refine wpAny_bind ?_
  show wpAny _ _ (do let _ ← comprehension (.ListComp elt (⟨target, iter, ifs, 0⟩ :: gs) scope pos) scope F.env _ (newList []) false (eval iter F.env) (some (assign (.Name (Str.ofString x) tpos) F.env))) _ _ s
  refine wpAny_bind (wpAny_mono (wp_comp fk (use := some (assign (.Name (Str.ofString x) tpos) F.env)) (Q := fun _ s' => QO K F (FlRep K) ((do let v ← mi >>= compTail free mc; mt v; pure .next : M Fl) σ) ρ s.heap .next s') (E := EO K F ((do let v ← mi >>= compTail free mc; mt v; pure .next : M Fl) σ) ρ s.heap) hs ck hi hc rel hne1 hnh ?_ ?_)
    (fun _ s' hq => wpAny_pure (wpAny_pure hq)) fun _ _ e => e)
  · intro v σ' ρ' s' w C m e r1 x1 rv hm q1 q2 q3 q4
    have e2 : (do let v ← mi >>= compTail free mc; mt v; pure .next : M Fl) σ = (mt v >>= fun _ => (Pure.pure Fl.next : M Fl)) σ' := M.bind_ok e
    rw [e2] at hne ⊢
    show wpAny _ _ (assign (.Name (Str.ofString x) tpos) F.env w) _ _ s'
    refine wpAny_mono (Run.bindWp (P := fun _ s'' => ∃ m, s''.heap.Ns C m ∧ ∀ h', Heap.SameBut C s''.heap h' → QO K F (FlRep K) ((mt v >>= fun _ => (Pure.pure Fl.next : M Fl)) σ') ρ s.heap .next { s'' with heap := h' }) (ht σ' ρ' s' v w r1 rv) hne ?_) (fun _ _ q => q) (fun v s'' q => q.up x1)
    intro u σ₂ ρ₂ s₂ _ e3 e4 rel₂ x₂ _
    rw [e4]
    obtain ⟨o, es, ep, g, d, k, f⟩ := hm
    obtain ⟨o', g', l⟩ := x₂.keep C o g q2 q1
    have hC' : C ∉ ρ₂ := fun hin => by
      rcases x₂.new C hin with h1 | h1
      · exact q2 h1
      · rw [g] at h1; cases h1
    have hm' : s₂.heap.Ns C m := ⟨o', es, ep, g', l.data.1.trans d, k, f⟩
    exact ⟨m, hm', fun h' hsb => ⟨.next, σ₂, ρ₂, rfl, rel₂.butC q3 q1 hC' hm' hsb rfl rfl (rel.noFrame q4), (x1.trans x₂).butC q4 hsb, rfl⟩⟩
  · intro v s' q
    obtain ⟨e, σ', ρ', e1, r1, r2, r3⟩ := q
    exact ⟨e, σ', ρ', by rw [M.bind_def, e1], r1, r2, r3⟩

end

/-! part F16 -/
set_option autoImplicit false
set_option maxRecDepth 100000
set_option linter.unusedVariables false
open PySem PySem.W PyProof.Rows
section
variable {K : Glo} {F : Frm}

/-! ### range -/
noncomputable def rangeB : List V → M V
  | [.int n] => pure (.rng 0 n 1)
  | [.int a, .int b] => pure (.rng a b 1)
  | [.int a, .int b, .int c] => if c ≠ 0 ∧ c.natAbs < 1000000 then pure (.rng a b c) else stuck
  | _ => stuck

theorem built_range : BuiltOk K (.type "range") rangeB := by
  intro F fk hnh σ ρ s vs ws rel r
  have fin : ∀ (a b c : Int) (t u v : Tok) (tk : Nat), ∃ ρ', Rel K F σ ρ' { s with heap := s.heap.push { cls := .type "range", data := .fields #[.int a t, .int b u, .int c v] }, toks := tk } ∧
      Ext F.mine ρ ρ' s.heap (s.heap.push { cls := .type "range", data := .fields #[.int a t, .int b u, .int c v] }) ∧
      Rep K (s.heap.push { cls := .type "range", data := .fields #[.int a t, .int b u, .int c v] }) ρ' (.rng a b c) (.ref s.heap.objs.size) := by
    intro a b c t u v tk
    exact ⟨ρ, rel.push _ tk, Ext.push _, Rep.rng_iff.mpr ⟨_, t, u, v, rfl, IsRange.new _ a b c t u v⟩⟩
  unfold rangeB
  split
  · rename_i n
    obtain ⟨x, r', rfl, r1, r2⟩ := RepL.cons_iff.mp r
    obtain rfl := RepL.nil_iff.mp r2
    obtain ⟨t, rfl⟩ := Rep.int_iff.mp r1
    exact Run.ok (call_range_1 (fin ..))
  · rename_i a b
    obtain ⟨x, r', rfl, r1, r2⟩ := RepL.cons_iff.mp r
    obtain ⟨y, r'', rfl, r3, r4⟩ := RepL.cons_iff.mp r2
    obtain rfl := RepL.nil_iff.mp r4
    obtain ⟨t, rfl⟩ := Rep.int_iff.mp r1
    obtain ⟨u, rfl⟩ := Rep.int_iff.mp r3
    exact Run.ok (call_range_2 (fin ..))
  · rename_i a b c
    by_cases hc : c ≠ 0 ∧ c.natAbs < 1000000
    · rw [if_pos hc]
      obtain ⟨x, r', rfl, r1, r2⟩ := RepL.cons_iff.mp r
      obtain ⟨y, r'', rfl, r3, r4⟩ := RepL.cons_iff.mp r2
      obtain ⟨z, r''', rfl, r5, r6⟩ := RepL.cons_iff.mp r4
      obtain rfl := RepL.nil_iff.mp r6
      obtain ⟨t, rfl⟩ := Rep.int_iff.mp r1
      obtain ⟨u, rfl⟩ := Rep.int_iff.mp r3
      obtain ⟨v, rfl⟩ := Rep.int_iff.mp r5
      exact Run.ok (call_range_3 hc.1 (fin ..) (.inl (PyProof.noPylong_small (by (first | lia | omega)))))
    · rw [if_neg hc]; exact Run.stuck
  · exact Run.stuck

/-! ### reversed(range(..)) -/
noncomputable def revSmall (a b c : Int) : Bool := Builtin.Range.rangeFitsLong a && Builtin.Range.rangeFitsLong b && Builtin.Range.rangeFitsLong c && Builtin.Range.rangeFitsLong (-c) && Builtin.Range.rangeFitsLong (a - c) && Builtin.Range.rangeFitsLong (Builtin.Range.rangeSize a b c)
theorem range_reversed_meets (r : Addr) (a b c : Int) (t u v : Tok) (hc0 : ¬(!(Builtin.Range.rangeFitsLong a && Builtin.Range.rangeFitsLong b && Builtin.Range.rangeFitsLong c && Builtin.Range.rangeFitsLong (-c) && Builtin.Range.rangeFitsLong (a - c) && Builtin.Range.rangeFitsLong (Builtin.Range.rangeSize a b c))) = true) :
    Meets (Builtin.«range.__reversed__» ⟨[.ref r], []⟩) (fun _ R s => s.heap.get? r = some { cls := .type "range", dict := none, data := .fields #[.int a t, .int b u, .int c v], slots := #[] } ∧
      R (.ok (.ret (Value.ref s.heap.objs.size))) { s with heap := s.heap.push { cls := Value.type (if (Builtin.Range.rangeFitsLong a && Builtin.Range.rangeFitsLong b && Builtin.Range.rangeFitsLong c && Builtin.Range.rangeFitsLong (-c) && Builtin.Range.rangeFitsLong (a - c) && Builtin.Range.rangeFitsLong (Builtin.Range.rangeSize a b c)) = true then "range_iterator" else "longrange_iterator"), data := Data.fields #[rawInt (a + (Builtin.Range.rangeSize a b c - 1) * c), rawInt (Builtin.Range.rangeSize a b c), rawInt (-c)] }, toks := s.toks }) :=
  .of_wp fun prog w A R s h => by obtain ⟨hp, g, d, tk, os⟩ := s; obtain ⟨hl, h⟩ := h; wp_walk; exact ⟨_, rfl, h⟩

noncomputable def revRObj (a b c : Int) : Obj := { cls := .type "range_iterator", data := .fields #[rawInt (a + (Builtin.Range.rangeSize a b c - 1) * c), rawInt (Builtin.Range.rangeSize a b c), rawInt (-c)] }
theorem sub_ri_reversed : isSubtype (.type "range_iterator") (.type "reversed") = pure false := by rw [isSubtype_type]; kernel_rfl

section
variable {prog : Program} {w : World} {A : Around} {E : Value → Shared → Prop} {s : Shared}
theorem call_range_reversed {r : Addr} {a b c : Int} {t u v : Tok} {Q : Value → Shared → Prop} (hr : IsRange s.heap r a b c t u v) (hsm : revSmall a b c = true)
    (h : Q (.ref s.heap.objs.size) { s with heap := s.heap.push (revRObj a b c) }) : wpAny (model prog w) A (call (.builtin "range.__reversed__") [.ref r]) Q E s := by
  have hT : s.TypeIs (.ref r) "range" := ⟨_, hr, rfl⟩
  unfold revSmall at hsm
  refine call_meets F.slot_range_reversed hT F.entry_range_reversed (F.args_range_reversed_1 _) (range_reversed_meets r a b c t u v (by rw [hsm]; simp)) ⟨hr, ?_⟩
  simp only [hsm, if_true]
  exact h

theorem code_reversed_range {r : Addr} {a b c : Int} {t u v : Tok} {Q₁ : Value → Shared → Prop} (hr : IsRange s.heap r a b c t u v) (hsm : revSmall a b c = true)
    (h : Q₁ (.ref s.heap.objs.size) { s with heap := s.heap.push (revRObj a b c) }) :
    codeAny (model prog w) A (.call (.builtin "reversed.__new__") ⟨[.type "reversed", .ref r], []⟩) (wants Q₁ E) s := by
  have hT : s.TypeIs (.ref r) "range" := ⟨_, hr, rfl⟩
  refine codeAny_of_tree ?_
  show wpAny _ A.in1 (do checkBuiltinCall "reversed.__new__" ⟨[.type "reversed", .ref r], []⟩; again (.builtin "reversed.__new__" ⟨[.type "reversed", .ref r], []⟩)) _ _ s
  refine wpAny_bind (wpAny_of_eq (F.newCall_reversed_1 _) (wpAny_pure ⟨plainId_quiet F.plain_reversed_new _, codeAny_builtin F.entry_reversed_new ?_⟩))
  rw [Around.under_plainId F.plain_reversed_new _]
  unfold Builtin.«reversed.__new__»
  refine wpAny_bind (wpAny_of_eq (newClass_reversed _) ?_)
  try dsimp only
  refine wpAny_bind (wpAny_of_eq (a := ()) (by first | rfl | kernel_rfl) ?_)
  refine wpAny_bind (wpAny_of_eq (a := ()) (by first | rfl | kernel_rfl) ?_)
  try dsimp only
  refine wpAny_bind (wpAny_specialOf hT F.slot_range_reversed.lookup ?_)
  try dsimp only
  refine wpAny_bind (wpAny_of_eq (F.slot_range_reversed.bind _) ?_)
  try dsimp only
  first
  | rw [if_neg (show ¬ ((Value.builtin "range.__reversed__" == Value.none) = true) from Bool.false_ne_true)]
  | (show wpAny _ _ (if (Value.builtin "range.__reversed__" == Value.none) = true then _ else _) _ _ _; rw [if_neg (show ¬ ((Value.builtin "range.__reversed__" == Value.none) = true) from Bool.false_ne_true)])
  refine wpAny_bind (wpAny_rule ?_)
  refine wpAny_bind (m := runValue (.call (.builtin "range.__reversed__") ⟨[.ref r], []⟩)) (show wpAny _ _ (call (.builtin "range.__reversed__") [.ref r]) _ _ _ from call_range_reversed hr hsm ?_)
  first
  | exact wpAny_pure h
  | exact wpAny_bind (wpAny_pure (wpAny_pure h))

theorem call_reversed_range {r : Addr} {a b c : Int} {t u v : Tok} {Q : Value → Shared → Prop} (hr : IsRange s.heap r a b c t u v) (hsm : revSmall a b c = true)
    (h : Q (.ref s.heap.objs.size) { s with heap := s.heap.push (revRObj a b c) }) : wpAny (model prog w) A (call (.type "reversed") [.ref r]) Q E s := by
  refine callType_other (U := "range_iterator") (Q₁ := fun obj s₁ => obj = .ref s.heap.objs.size ∧ s₁ = { s with heap := s.heap.push (revRObj a b c) }) (by decide +kernel) F.create_reversed ⟨_, _, F.mro_reversed⟩ F.made_reversed sub_ri_reversed (F.typeCall_reversed_1 _) (code_reversed_range hr hsm ⟨rfl, rfl⟩) ?_
  rintro obj s₁ ⟨rfl, rfl⟩
  exact ⟨⟨_, Heap.get?_push_size _ rfl, rfl⟩, h⟩
end

noncomputable def revR : V → M V
  | .rng 0 b 1 => if 0 ≤ b ∧ b < 1000000 then pure (.rng (b - 1) (-1) (-1)) else stuck
  | _ => stuck

theorem fits_of {i : Int} (h : -1000000 ≤ i ∧ i ≤ 1000000) : Builtin.Range.rangeFitsLong i = true := by
  unfold Builtin.Range.rangeFitsLong
  simp only [Bool.and_eq_true, decide_eq_true_eq]
  (first | lia | omega)
theorem rangeSize_up {b : Int} (h : 0 ≤ b) : Builtin.Range.rangeSize 0 b 1 = b := by
  rw [rangeSize_one]; split <;> (first | lia | omega)
theorem rangeSize_down {b : Int} (h : 0 ≤ b) : Builtin.Range.rangeSize (b - 1) (-1) (-1) = b := by
  unfold Builtin.Range.rangeSize
  rw [if_neg (by (first | lia | omega))]
  split
  · simp
  · (first | lia | omega)

theorem simS_for_rev (fk : FOk F) {target arg : Expr} {body : List Stmt} {ma : M V} {t : V → M Unit} {b : M Fl} {np cpos : Pos} (pos : Pos) (n : Nat) (hx : F.env.kindOf (Str.ofString "reversed") = some .globalImplicit) (hm : K.mg (Str.ofString "reversed") = none)
    (ha : SimE K F arg ma) (ht : SimT K F target t) (hb : SimSs K F body b)
    (hpl : (starEach [arg] F.env).any (·.1) = false := by rfl) (hst : starEach (arg :: []) F.env = (false, eval arg F.env) :: starEach [] F.env := by rfl)
    (hs : ∀ x, foldedSetIterable (.Call (.Name (Str.ofString "reversed") np) [arg] [] cpos) F.env x = pure x := by intro _; rfl) (hnh : F.nh = true := by rfl) :
    SimS K F (.For target (.Call (.Name (Str.ofString "reversed") np) [arg] [] cpos) body [] pos) (do let v ← ma; let r ← revR v; forG (nxtOf r) t b n 0) := by
  intro σ ρ s rel
  rw [exec_For]
  refine Run.standAt ?_
  refine Run.of_wp fun hne => ?_
  refine wpAny_bind ?_
  rw [eval_CallName]
  refine wpAny_bind (wp_builtin fk rel hx hm (v := .type "reversed") (by decide +kernel) ?_)
  refine wp_callWith rfl (by rw [backTo_any]; exact hpl) ?_
  have hEs : SimEs K F [arg] (do let v ← ma; let vs ← (pure [] : M (List V)); pure (v :: vs)) := simEs_cons ha simEs_nil hst
  have hEq : (do let v ← ma; let r ← revR v; forG (nxtOf r) t b n 0 : M Fl) σ = ((do let v ← ma; let vs ← (pure [] : M (List V)); pure (v :: vs)) >>= fun vs => (match vs with | [v] => (do let r ← revR v; forG (nxtOf r) t b n 0 : M Fl) | _ => stuck)) σ := by
    simp only [M.bind_def]
    cases ma σ <;> rfl
  rw [hEq] at hne ⊢
  refine Run.bindWp (hEs cpos σ ρ s rel) hne fun vs σ₁ ρ₁ s₁ ws e1 e2 rel₁ x₁ rv => ?_
  rw [e2] at hne ⊢
  rcases vs with _ | ⟨v, _ | ⟨v2, vs⟩⟩
  · exact absurd rfl hne
  · obtain ⟨w, r', rfl, rv1, rv2⟩ := RepL.cons_iff.mp rv
    obtain rfl := RepL.nil_iff.mp rv2
    dsimp only at hne ⊢
    have hv : ∃ q, v = .rng 0 q 1 ∧ (0 ≤ q ∧ q < 1000000) := by
      unfold revR at hne
      split at hne
      · rename_i q
        by_cases h : 0 ≤ q ∧ q < 1000000
        · exact ⟨q, rfl, h⟩
        · rw [if_neg h] at hne; exact absurd rfl hne
      · exact absurd rfl hne
    obtain ⟨q, rfl, hq⟩ := hv
    have e3 : (do let r ← revR (.rng 0 q 1); forG (nxtOf r) t b n 0 : M Fl) σ₁ = forG (nxtOf (.rng (q - 1) (-1) (-1))) t b n 0 σ₁ := by
      rw [M.bind_def]; simp only [revR, if_pos hq]; rfl
    rw [e3] at hne ⊢
    obtain ⟨r, t', u, v', rfl, hR⟩ := Rep.rng_iff.mp rv1
    have hsm : revSmall 0 q 1 = true := by
      unfold revSmall
      simp only [Bool.and_eq_true]
      rw [rangeSize_up hq.1]
      refine ⟨⟨⟨⟨⟨fits_of (by (first | lia | omega)), fits_of (by (first | lia | omega))⟩, fits_of (by (first | lia | omega))⟩, fits_of (by (first | lia | omega))⟩, fits_of (by (first | lia | omega))⟩, fits_of (by (first | lia | omega))⟩
    show wpAny _ _ (PySem.call (.type "reversed") [.ref r]) _ _ s₁
    refine call_reversed_range hR hsm ?_
    obtain ⟨f0, f1, f2, f3⟩ := fresh_facts rel₁
    rw [hs, pureBind]
    refine wpAny_bind (wpAny_standAt ?_)
    have hobj : revRObj 0 q 1 = { cls := .type "range_iterator", dict := none, data := .fields #[rawInt (q - 1), rawInt q, rawInt (-1)], slots := #[] } := by
      unfold revRObj
      rw [rangeSize_up hq.1]
      have : (0 : Int) + (q - 1) * 1 = q - 1 := by (first | lia | omega)
      rw [this]
    have hget : (s₁.heap.push (revRObj 0 q 1)).get? s₁.heap.objs.size = some { cls := .type "range_iterator", dict := none, data := .fields #[rawInt (q - 1), rawInt q, rawInt (-1)], slots := #[] } := by
      rw [Heap.get?_push_size _ rfl, hobj]
    refine wpAny_bind (wpAny_holding (wpAny_pyIter_rangeiter hget ?_))
    have hlen : ((rngLen (q - 1) (-1) (-1) : Nat) : Int) = q := by rw [rngLen_eq, rangeSize_down hq.1]
    refine wpAny_mono (run_forLoop ht hb (iter_range (a := q - 1) (b := -1) (c := -1) fk hnh) (rel₁.push _ s₁.toks) (Ext.push _) f0 f1 f2 f3 hget ⟨Nat.zero_le _, ?_⟩ n hne) (fun _ _ q => q.up x₁) fun _ _ q => q.up x₁
    rw [hlen]; simp
  · exact absurd rfl hne

end

/-! part F17 -/
set_option autoImplicit false
set_option maxRecDepth 100000
set_option linter.unusedVariables false
open PySem PySem.W PyProof.Rows
section
variable {K : Glo} {F : Frm}

/-- a new list that lies somewhere above -/
theorem Rel.newAt {σ : S} {ρ : List Addr} {s s' : Shared} {vs : List V} {ws : List Value} {a : Addr} {n : Nat} (rel : Rel K F σ ρ s) (hk : ∀ b o, s.heap.get? b = some o → s'.heap.get? b = some o) (h0 : s.heap.get? a = none)
    (hL : IsL s'.heap a ws.toArray n) (hr : RepL K s.heap ρ vs ws) (hln : vs.length ≤ 1000000) (hg : s'.gens = s.gens) (ho : s'.os = s.os) :
    Rel K F { σ with st := σ.st ++ [.lst vs] } (ρ ++ [a]) s' ∧ Ext F.mine ρ (ρ ++ [a]) s.heap s'.heap := by
  have r := rel.kept hk hg ho
  have hpre : ρ <+: ρ ++ [a] := List.prefix_append _ _
  have hanρ : a ∉ ρ := fun h => by
    obtain ⟨_, o, e, _⟩ := rel.toGRel.alive h
    rw [h0] at e; cases e
  have x : Ext F.mine ρ (ρ ++ [a]) s.heap s'.heap := by
    refine ⟨hpre, fun b o' e => ⟨o', hk _ _ e⟩, fun b hb => ?_, fun b o' e _ _ => ⟨o', hk _ _ e, .refl _⟩, kept_tup hk⟩
    rcases List.mem_append.mp hb with hb | hb
    · exact .inl hb
    · simp only [List.mem_singleton] at hb; subst hb; exact .inr h0
  refine ⟨{ gens := r.gens, os := r.os, base := r.base, len := ?_, cell := ?_, nodup := ?_, above := ?_, vars := ?_, loc := r.loc, cels := r.cels, mineAbove := r.mineAbove, mineApart := ?_, mineLoc := r.mineLoc, frs := r.frs }, x⟩
  · simp [rel.len]
  · intro l b c h1 h2
    dsimp only at h2
    by_cases hl : l < σ.st.length
    · rw [List.getElem?_append_left (by rw [rel.len]; exact hl)] at h1
      rw [List.getElem?_append_left hl] at h2
      exact (rel.cell l b c h1 h2).mono hpre (kept_tup hk) fun _ _ x => hk _ _ x
    · have hl' : l = σ.st.length := by
        rcases List.getElem?_eq_some_iff.mp h2 with ⟨h3, _⟩
        simp at h3; (first | lia | omega)
      subst hl'
      rw [← rel.len, List.getElem?_concat_length] at h1; cases h1
      rw [List.getElem?_concat_length] at h2; cases h2
      exact ⟨hln, ws, n, hL, RepL.mono' hpre (kept_tup hk) hr⟩
  · refine List.nodup_append.mpr ⟨rel.nodup, by simp, ?_⟩
    intro b hb c hc
    simp only [List.mem_singleton] at hc; subst hc
    rintro rfl
    exact hanρ hb
  · intro l b hlb hl0
    by_cases hlt : l < ρ.length
    · rw [List.getElem?_append_left hlt] at hlb
      exact rel.above l b hlb hl0
    · have hb : b = a := by
        rw [List.getElem?_append_right (by (first | lia | omega))] at hlb
        have := List.mem_of_getElem? hlb
        simpa using this
      subst hb
      cases e : K.base.get? b with
      | none => rfl
      | some o' => have := rel.base _ _ e; rw [h0] at this; cases this
  · intro y v e
    obtain ⟨w, h1, h2⟩ := r.vars y v e
    exact ⟨w, h1, Rep.mono' hpre (fun _ _ e _ => e) h2⟩
  · intro b hb hc
    rcases List.mem_append.mp hc with hc | hc
    · exact rel.mineApart b hb hc
    · simp only [List.mem_singleton] at hc; subst hc
      obtain ⟨_, o', e⟩ := rel.mineAbove _ hb
      rw [h0] at e; cases e

/-! ### sorted of ints -/
noncomputable def intsOf : List V → Option (List Int)
  | [] => some []
  | .int i :: vs => (intsOf vs).map (i :: ·)
  | _ :: _ => none
theorem intsOf_are {h : Heap} {ρ : List Addr} : ∀ {vs : List V} {ws : List Value} {ns : List Int}, RepL K h ρ vs ws → intsOf vs = some ns → IntsAre ws ns
  | [], ws, ns, r, e => by rw [RepL.nil_iff.mp r]; cases e; exact .nil
  | .int i :: vs, ws, ns, r, e => by
    obtain ⟨x, r', rfl, r1, r2⟩ := RepL.cons_iff.mp r
    obtain ⟨t, rfl⟩ := Rep.int_iff.mp r1
    unfold intsOf at e
    cases h' : intsOf vs with
    | none => rw [h'] at e; cases e
    | some ns' => rw [h'] at e; cases e; exact .cons i t (intsOf_are r2 h')
  | .none :: _, _, _, _, e => by cases e
  | .bool _ :: _, _, _, _, e => by cases e
  | .str _ :: _, _, _, _, e => by cases e
  | .tup _ :: _, _, _, _, e => by cases e
  | .obj _ :: _, _, _, _, e => by cases e
  | .fn _ :: _, _, _, _, e => by cases e
  | .rng _ _ _ :: _, _, _, _, e => by cases e
theorem ints_rep {h : Heap} {ρ : List Addr} : ∀ {ws : List Value} {ns : List Int}, IntsAre ws ns → RepL K h ρ (ns.map .int) ws
  | _, _, .nil => RepL.nil
  | _, _, .cons n t r => RepL.cons (Rep.int n t) (ints_rep r)

end

/-! part F18 -/
set_option autoImplicit false
set_option maxRecDepth 100000
set_option linter.unusedVariables false
open PySem PySem.W PyProof.Rows
section
variable {K : Glo} {F : Frm}

/-! ### the defs of a text -/
noncomputable def recAt (p : Program) (i : Nat) : DefRec := match p.main.body[i]? with
  | some (.FunctionDef name a b _ _ _ sc _ _ pos) => ⟨name, a, b, sc, pos⟩
  | _ => ⟨Str.ofString "", { posonlyargs := [], args := [], vararg := none, kwonlyargs := [], kw_defaults := [], kwarg := none, defaults := [] }, [], { kind := .function, names := [], isGenerator := false, isCoroutine := false }, ⟨0, 0, 0, 0⟩⟩

noncomputable def frm (d : DefRec) (pm code doc : Value) (L fa : Addr) (A : Around) : Frm := defFrm (PySem.Calls.docDef d.name d.params d.body d.scope pm code doc) L fa A

theorem FOk.def {d : DefRec} {pm code doc : Value} {L fa : Addr} {A : Around} {n : Nat} (hr : Room A n) (hk : d.scope.kind = .function) : FOk (frm d pm code doc L fa A) :=
  ⟨hk, rfl, rfl, fun _ => hr.1, by have := hr.2.2; show A.units + 1000 < cLine; (first | lia | omega)⟩

noncomputable def HasF (K : Glo) (x : String) (lvl : Nat) (g : Fun) : Prop := ∃ fa fd body, K.mg (Str.ofString x) = some (.ref fa) ∧ DefAt K fa fd body ∧ SimF K lvl (.ref fa) g

theorem lenS {l : List Value} {n : Nat} (h : l.length = n + 1) : ∃ a t, l = a :: t ∧ t.length = n := by
  cases l with
  | nil => cases h
  | cons a t => exact ⟨a, t, rfl, Nat.succ.inj h⟩
theorem len1 {l : List Value} (h : l.length = 1) : ∃ a, l = [a] := by
  obtain ⟨a, t, rfl, h2⟩ := lenS h
  exact ⟨a, by rw [List.eq_nil_of_length_eq_zero h2]⟩
theorem len2 {l : List Value} (h : l.length = 2) : ∃ a b, l = [a, b] := by
  obtain ⟨a, t, rfl, h2⟩ := lenS h
  obtain ⟨b, rfl⟩ := len1 h2
  exact ⟨a, b, rfl⟩
theorem len3 {l : List Value} (h : l.length = 3) : ∃ a b c, l = [a, b, c] := by
  obtain ⟨a, t, rfl, h2⟩ := lenS h
  obtain ⟨b, c, rfl⟩ := len2 h2
  exact ⟨a, b, c, rfl⟩
theorem hasF_of {d : DefRec} {x : String} {params : List String} {lvl : Nat} {mb : M Fl} (hd : d ∈ recsOf K.p) (hx : d.name = Str.ofString x) (hsc : d.scope.kind = .function) (hco : d.scope.isCoroutine = false) (hgen : d.scope.isGenerator = false) (hnd : params.Nodup)
    (hbind : ∀ (pm code doc : Value) (ws : List Value), ws.length = params.length → bindArgs (PySem.Calls.docDef d.name d.params d.body d.scope pm code doc) ⟨ws, []⟩ = pure ((params.map Str.ofString).zip ws))
    (hkind : ∀ n, ∀ y ∈ params, d.scope.names.lookup (Str.ofString y) = some .local ∨ (d.scope.names.lookup (Str.ofString y) = some .cell ∧ ((cellsFrom n d.scope.names []).lookup (Str.ofString y)).isSome = true))
    (hb : ∀ pm code doc L fa A, Room A lvl → FOk (frm d pm code doc L fa A) → SimSs K (frm d pm code doc L fa A) d.body mb) : HasF K x (lvl + 1) (funM params mb) := by
  obtain ⟨a, o, pm, code, doc, h1, h2, h3, h4⟩ := K.top.fn d hd
  have da : DefAt K a (PySem.Calls.docDef d.name d.params d.body d.scope pm code doc) d.body := ⟨⟨o, h2, h3⟩, h4, rfl, rfl, rfl, rfl, hco, hgen, hsc⟩
  refine ⟨a, _, d.body, by rw [← hx]; exact h1, da, ?_⟩
  exact simF_def da hnd (hbind pm code doc) hkind fun L A hr => hb pm code doc L a A hr (FOk.def hr hsc)

theorem simE_callF (fk : FOk F) {x : String} {np pos : Pos} {args : List Expr} {ms : M (List V)} {g : Fun} {lvl : Nat} (hf : HasF K x lvl g) (hr : Room F.A lvl)
    (hs : SimEs K F args ms) (hx : F.env.kindOf (Str.ofString x) = some .globalImplicit := by kernel_rfl)
    (hpl : (starEach args F.env).any (·.1) = false := by rfl) (hdb : (Str.ofString x == ("__debug__" : Str)) = false := by decide) :
    SimE K F (.Call (.Name (Str.ofString x) np) args [] pos) (do let vs ← ms; callF g vs) := by
  obtain ⟨fa, fd, body, h1, h2, h3⟩ := hf
  exact simE_callDef fk hx h1 h2 h3 hr hs hpl hdb

theorem simT_cellD {d : DefRec} {pm code doc : Value} {L fa : Addr} {A : Around} (x : String) (pos : Pos) (fk : FOk (frm d pm code doc L fa A)) {c : Addr} (hk : d.scope.names.lookup (Str.ofString x) = some .cell)
    (hc : (cellsFrom (L + 1) d.scope.names []).lookup (Str.ofString x) = some c) : SimT K (frm d pm code doc L fa A) (.Name (Str.ofString x) pos) (fun v => setv x v) :=
  simT_cell x pos fk hk hc (List.mem_cons_of_mem _ (cellAddrs_of hc)) (cell_inj hc)

end

/-! part F19 -/
set_option autoImplicit false
set_option maxRecDepth 100000
set_option linter.unusedVariables false
open PySem PySem.W PyProof.Rows
section
variable {K : Glo} {F : Frm}

theorem wellAll_ints {P : Params} {h : Heap} : ∀ {vs : List Value} {ns : List Int}, WellAll P h vs (ofPys (ns.map PyData.int)) → IntsAre vs ns
  | _, [], x => by cases x; exact .nil
  | _, n :: ns, x => by
    cases x with
    | cons x1 x2 => cases x1; exact .cons n _ (wellAll_ints x2)
theorem well_script {P : Params} {h : Heap} {a : Addr} {ns : List Int} (x : Well P h (.ref a) (ofPy (PyData.list (ns.map PyData.int)))) : ∃ vs, IsL h a vs.toArray 0 ∧ IntsAre vs ns := by
  cases x with
  | list e r => exact ⟨_, e, wellAll_ints r⟩

theorem room_caller {n : Nat} (h : n ≤ 600) : Room callerA n := by
  refine ⟨rfl, ?_, ?_⟩
  · have h1 : callerA.depth = 301 := by decide +kernel
    have h2 : recursionLimit = 1000 := by decide +kernel
    (first | lia | omega)
  · have h1 : callerA.units = 4 := rfl
    have h2 : cLine = 9900 := by decide +kernel
    (first | lia | omega)

theorem top_law {prog : Program} {w : World} {p : Program} {loose : List Str} {mean mean' : ExcName → Option Value} {mg mb : Str → Option Value} {s₁ : Shared} {fa l : Addr} {c : ClaimW} {cl : Str → Option Addr} {args : List WData}
    (T : Top p loose mean mg mb s₁.heap) (hg : s₁.gens = #[]) {g : Fun} {lvl : Nat} {ws : List Value} {ns : List Int}
    (hf : HasF ⟨prog, w, p, loose, mean, mg, mb, s₁.heap, s₁.os, T⟩ "law" lvl g) (hl : lvl ≤ 600) (hmg : mg (Str.ofString "law") = some (.ref fa))
    (hL : IsL s₁.heap l ws.toArray 0) (hI : IntsAre ws ns) (hn : ns.length ≤ 63) {st' : Store} (hlaw : g [.obj 0] [.lst (ns.map .int)] = .ok (.bool true) st')
    (hraise : ∀ cls, c.raises args cls = false) (hpost : c.post args (.bool true) args = true) :
    codeAny (model prog w) callerA (.call (.ref fa) ⟨[.ref l], []⟩) (GoodW c cl mean' args s₁) s₁ := by
  obtain ⟨fa', fd, body, h1, h2, h3⟩ := hf
  have e : fa' = fa := by
    have h1' : mg (Str.ofString "law") = some (.ref fa') := h1
    rw [hmg] at h1'; cases h1'; rfl
  subst e
  have hlen : ws.length = ns.length := by
    have := (ints_rep (K := ⟨prog, w, p, loose, mean, mg, mb, s₁.heap, s₁.os, T⟩) (h := s₁.heap) (ρ := []) hI).length
    simpa using this
  have gr : GRel ⟨prog, w, p, loose, mean, mg, mb, s₁.heap, s₁.os, T⟩ [.lst (ns.map .int)] [l] s₁ := by
    refine ⟨hg, rfl, fun _ _ e => e, rfl, ?_, by simp, ?_⟩
    · intro k a c' h4 h5
      cases k with
      | zero =>
        simp only [List.getElem?_cons_zero, Option.some.injEq] at h4 h5
        subst h4 h5
        exact ⟨by simp; (first | lia | omega), ws, 0, hL, ints_rep hI⟩
      | succ k => simp at h4
    · intro k a h4 h5
      cases k with
      | zero => exact absurd rfl h5
      | succ k => simp at h4
  have main := h3 callerA (room_caller hl) _ [l] s₁ gr ⟨[], rfl, fun _ h => by cases h⟩ [.obj 0] [.ref l] (RepL.cons (Rep.obj_iff.mpr ⟨l, rfl, rfl⟩) RepL.nil) (by rw [hlaw]; simp)
  refine codeAny_mono main fun r s' h => ?_
  rcases h with ⟨v, st1, w1, ρ', e1, rfl, g1, x1, r1⟩ | ⟨e0, st1, w1, ρ', e1, _⟩
  · rw [hlaw] at e1
    cases e1
    rw [Rep.bool_iff.mp r1]
    exact ⟨.inl ⟨_, .bool true, [], rfl, hraise, .bool true, hpost, unshared_nil⟩, g1.base, g1.os, g1.gens⟩
  · rw [hlaw] at e1; cases e1

end

/-! part F20 -/
set_option autoImplicit false
set_option maxRecDepth 100000
set_option linter.unusedVariables false
open PySem PySem.W PyProof.Rows
section
variable {K : Glo} {F : Frm}
/-! ### x += y, where x is a name and y no list -/
end

/-! part F21 -/
set_option autoImplicit false
set_option maxRecDepth 100000
set_option linter.unusedVariables false
open PySem PySem.W PyProof.Rows
section
variable {K : Glo} {F : Frm}
/-! ### the names that a comprehension shares with its frame -/
theorem kne_cell {k : Option NameKind} (h : k = some .cell) : k ≠ some .local := by rw [h]; decide
theorem ck_nil {cells : List (Str × Addr)} : ∀ p ∈ ([] : List (Str × Addr)), cells.lookup p.1 = some p.2 := by intro p hp; cases hp
theorem ck_cons {cells cl : List (Str × Addr)} {x : Str} {a : Addr} (h : cells.lookup x = some a) (hs : ∀ p ∈ cl, cells.lookup p.1 = some p.2) : ∀ p ∈ (x, a) :: cl, cells.lookup p.1 = some p.2 := by
  intro p hp
  rcases List.mem_cons.mp hp with rfl | hp
  · exact h
  · exact hs p hp
theorem ck_cells {cl cells : List (Str × Addr)} (hall : ∀ p ∈ cl, cells.lookup p.1 = some p.2) : ∀ x c, cl.lookup x = some c → cells.lookup x = some c :=
  fun x c h => hall (x, c) (mem_of_lookup h)

end

/-! part S1 -/
set_option autoImplicit false
set_option maxRecDepth 100000
set_option linter.unusedVariables false
open PySem PySem.W PyProof.Rows
section
structure Ask (n : Nat) (ask : Nat → Nat → Bool) : Prop where
  asymm : ∀ i j, i < n → j < n → ask i j = true → ask j i = false
  trans : ∀ i j k, i < n → j < n → k < n → ask j i = false → ask k j = false → ask k i = false
section
variable {n : Nat} {ask : Nat → Nat → Bool}
theorem Ask.le_lt (A : Ask n ask) {i j k : Nat} (hi : i < n) (hj : j < n) (hk : k < n) (h1 : ask j i = false) (h2 : ask j k = true) : ask i k = true := by
  cases e : ask i k with
  | true => rfl
  | false => have := A.trans k i j hk hi hj e h1; rw [h2] at this; cases this
noncomputable def at0 (p : Array Nat) (k : Nat) : Nat := p.getD k 0
theorem at0_eq (p : Array Nat) (k : Nat) : at0 p k = p[k]?.getD 0 := by
  unfold at0; by_cases h : k < p.size <;> simp [Array.getD, h]
theorem at_rev {p : Array Nat} {i j : Nat} (hj : j ≤ p.size) (k : Nat) : at0 (kas_rev p i j) k = if i ≤ k ∧ k < j then at0 p (i + j - 1 - k) else at0 p k := by
  rw [at0_eq]; unfold kas_rev
  rw [getElem?_mirror_all hj]
  split <;> rw [at0_eq]
theorem at_bub {p : Array Nat} {src d : Nat} (hs : src < p.size) (hd : d ≤ src) (k : Nat) : at0 (bubble p src d) k = if k = src - d then at0 p src else if src - d < k ∧ k ≤ src then at0 p (k - 1) else at0 p k := by
  rw [at0_eq, getElem?_bubble hs d hd]
  repeat' split
  all_goals rw [at0_eq]

theorem rev_perm (p : Array Nat) (i j : Nat) : (kas_rev p i j).Perm p := mirror_perm ..
end
section
variable {n : Nat} {ask : Nat → Nat → Bool}
noncomputable def Small (n : Nat) (p : Array Nat) : Prop := ∀ k, at0 p k < n
theorem Small.perm {p q : Array Nat} (h : Small n p) (hp : q.Perm p) : Small n q := by
  intro k
  rw [at0_eq]
  by_cases hk : k < q.size
  · have hm : q[k] ∈ p := hp.mem_iff.mp (Array.getElem_mem hk)
    obtain ⟨j, hj, e⟩ := Array.mem_iff_getElem.mp hm
    have := h j
    rw [at0_eq] at this
    simp only [hj, getElem?_pos, Option.getD_some] at this
    simp only [hk, getElem?_pos, Option.getD_some]
    (first | lia | omega)
  · have := h p.size
    rw [at0_eq] at this
    simp at this
    simp [hk]; (first | lia | omega)
end

end

/-! part S2 -/
set_option autoImplicit false
set_option maxRecDepth 100000
set_option linter.unusedVariables false
open PySem PySem.W PyProof.Rows
section
section
variable {prog : Program} {w : World} {A : Around} {E : Value → Shared → Prop} {s : Shared}

/-- the heap while the sort goes -/
noncomputable def midHeap (h : Heap) (a : Addr) (vs : List Value) : Heap := ((h.update a (Obj.mapSeq fun _ => #[])).push (seqObj "tuple" vs.toArray 0)).push (seqObj "list" #[] 0)
/-- the heap behind collecting the items -/
noncomputable def colHeap (h : Heap) (vs : List Value) : Heap := ((h.push (seqObj "list" #[] 0)).update h.objs.size (Obj.mapSeq (· ++ vs.toArray))).push (seqObj "list" vs.toArray 0)
end

end

/-! part S3 -/
set_option autoImplicit false
set_option maxRecDepth 100000
set_option linter.unusedVariables false
open PySem PySem.W PyProof.Rows
section
variable {K : Glo} {F : Frm}

/-! ### sorted of tuples of ints -/
noncomputable def lexB : List Int → List Int → Bool
  | [], [] => false
  | [], _ :: _ => true
  | _ :: _, [] => false
  | a :: as, b :: bs => if a = b then lexB as bs else decide (a < b)

section
variable {prog : Program} {w : World} {A : Around} {E : Value → Shared → Prop} {s : Shared}
theorem lex_at {Q : Bool → Shared → Prop} : ∀ (xs ys : List Value) (as bs : List Int) (fin : Bool) (i : Nat), IntsAre xs as → IntsAre ys bs → (∀ c : Bool, c = (if as.take (min as.length bs.length) = bs.take (min as.length bs.length) then fin else lexB as bs) → Q c s) →
    KatLex prog w A true fin Q (xs.zip ys) i s
  | [], ys, as, bs, fin, i, hx, hy, h => by
    cases hx
    exact kat_nil (h fin (by simp))
  | x :: xs, [], as, bs, fin, i, hx, hy, h => by
    cases hy
    exact kat_nil (h fin (by simp))
  | x :: xs, y :: ys, as, bs, fin, i, hx, hy, h => by
    cases hx with
    | cons a t hx' =>
      rename_i as'
      cases hy with
      | cons b u hy' =>
        rename_i bs'
        show KatLex prog w A true fin Q ((Value.int a t, Value.int b u) :: xs.zip ys) i s
        refine kat_cons (wpAny_eqBool_int ?_)
        by_cases hab : a = b
        · subst hab
          rw [show (a == a) = true by simp]
          refine kat_yes (lex_at xs ys as' bs' fin (i + 1) hx' hy' fun c hc => h c ?_)
          rw [hc]
          simp only [List.length_cons, Nat.succ_min_succ, List.take_succ_cons, List.cons.injEq, true_and, lexB, if_true]
        · rw [show (a == b) = false by simpa using hab]
          refine kat_no ?_
          have hq : Q (decide (a < b)) s := h _ (by
            simp only [List.length_cons, Nat.succ_min_succ, List.take_succ_cons, List.cons.injEq, hab, false_and, if_false, lexB])
          by_cases hi : i = 0
          · subst hi
            exact oneLt_int hq
          · rw [show (true && i == 0) = false by simpa using hi]
            exact kat_one _ _ (PyProof.Rows.lt_int hq)
theorem lex_eq {as bs : List Int} : (if as.take (min as.length bs.length) = bs.take (min as.length bs.length) then decide (as.length < bs.length) else lexB as bs) = lexB as bs := by
  induction as generalizing bs with
  | nil => cases bs <;> simp [lexB]
  | cons a as ih =>
    cases bs with
    | nil => simp [lexB]
    | cons b bs =>
      simp only [List.length_cons, Nat.succ_min_succ, List.take_succ_cons, List.cons.injEq, lexB]
      by_cases hab : a = b
      · subst hab
        simp only [true_and, if_true, Nat.add_lt_add_iff_right]
        exact ih
      · simp [hab]
end

noncomputable def tupInts : V → Option (List Int)
  | .tup vs => match intsOf vs with
    | some (a :: as) => some (a :: as)
    | _ => none
  | _ => none
theorem tupInts_is {v : V} {t : List Int} (h : tupInts v = some t) : ∃ vs, v = .tup vs ∧ intsOf vs = some t ∧ t ≠ [] := by
  cases v with
  | tup vs =>
    unfold tupInts at h
    dsimp only at h
    cases e : intsOf vs with
    | none => rw [e] at h; cases h
    | some ns =>
      rw [e] at h
      cases ns with
      | nil => cases h
      | cons a as => cases h; exact ⟨vs, rfl, e, by simp⟩
  | _ => cases h
noncomputable def tupsOf : List V → Option (List (List Int)) := mapO tupInts
theorem getD_rep {h : Heap} {ρ : List Addr} {vs : List V} {ws : List Value} (r : RepL K h ρ vs ws) {i : Nat} (hi : i < vs.length) : Rep K h ρ (vs.getD i V.none) (ws.getD i Value.none) := by
  obtain ⟨w, e, q⟩ := r.get? (List.getElem?_eq_getElem hi)
  have hw : i < ws.length := (List.getElem?_eq_some_iff.mp e).1
  rw [List.getD_eq_getElem?_getD, List.getD_eq_getElem?_getD, e, List.getElem?_eq_getElem hi]
  exact q
theorem maps_rep {h : Heap} {ρ : List Addr} {vs : List V} {ws : List Value} (r : RepL K h ρ vs ws) : ∀ is : List Nat, (∀ i ∈ is, i < vs.length) → RepL K h ρ (is.map fun i => vs.getD i V.none) (is.map fun i => ws.getD i Value.none)
  | [], _ => RepL.nil
  | i :: is, hi => RepL.cons (getD_rep r (hi i List.mem_cons_self)) (maps_rep r is fun j hj => hi j (List.mem_cons_of_mem _ hj))

/-- the tuples as they lie -/
theorem tups_at {h : Heap} {ρ : List Addr} : ∀ {vs : List V} {ws : List Value} {ts : List (List Int)}, RepL K h ρ vs ws → tupsOf vs = some ts → ts.length = vs.length ∧
    (∀ i, i < vs.length → ∃ a o xs n, ws.getD i Value.none = .ref a ∧ h.get? a = some o ∧ Froz o ∧ o.cls = .type "tuple" ∧ o.data = .seq xs n ∧ IntsAre xs.toList (ts.getD i []) ∧ ts.getD i [] ≠ [])
  | [], ws, ts, r, e => by cases e; exact ⟨rfl, fun i hi => by simp at hi⟩
  | v :: vs, ws, ts, r, e => by
    obtain ⟨w, ws', rfl, r1, r2⟩ := RepL.cons_iff.mp r
    obtain ⟨t, ts', e1, e2, rfl⟩ := mapO_cons e
    obtain ⟨l1, l2⟩ := tups_at r2 e2
    obtain ⟨us, rfl, e3, hne⟩ := tupInts_is e1
    obtain ⟨_, a, xs, rfl, ht, rx⟩ := Rep.tup_iff.mp r1
    obtain ⟨o, ho, hc, n, hd⟩ := ht
    refine ⟨by simp [l1], fun i hi => ?_⟩
    cases i with
    | zero => exact ⟨a, o, xs.toArray, n, rfl, ho, .inl ⟨hc, _, n, hd⟩, hc, hd, by simpa using intsOf_are rx e3, hne⟩
    | succ i => simpa using l2 i (by simpa using hi)

theorem lexB_irrefl : ∀ as : List Int, lexB as as = false
  | [] => rfl
  | a :: as => by simp [lexB, lexB_irrefl as]
theorem lexB_asymm : ∀ as bs : List Int, lexB as bs = true → lexB bs as = false
  | [], [], h => by cases h
  | [], _ :: _, _ => rfl
  | _ :: _, [], h => by cases h
  | a :: as, b :: bs, h => by
    unfold lexB at h ⊢
    by_cases hab : a = b
    · subst hab
      simp only [if_true] at h ⊢
      exact lexB_asymm as bs h
    · rw [if_neg hab] at h
      rw [if_neg (Ne.symm hab)]
      simp at h ⊢; (first | lia | omega)
theorem lexB_trans : ∀ as bs cs : List Int, lexB bs as = false → lexB cs bs = false → lexB cs as = false
  | [], [], [], _, _ => rfl
  | [], _ :: _, [], _, h => by cases h
  | [], _, _ :: _, _, _ => rfl
  | _ :: _, [], _, h, _ => by cases h
  | _ :: _, _ :: _, [], _, h => by cases h
  | a :: as, b :: bs, c :: cs, h1, h2 => by
    unfold lexB at h1 h2 ⊢
    by_cases hab : b = a
    · subst hab
      simp only [if_true] at h1
      by_cases hcb : c = b
      · subst hcb
        simp only [if_true] at h2 ⊢
        exact lexB_trans as bs cs h1 h2
      · rw [if_neg hcb] at h2 ⊢
        exact h2
    · rw [if_neg hab] at h1
      by_cases hcb : c = b
      · subst hcb
        rw [if_neg hab]; exact h1
      · rw [if_neg hcb] at h2
        simp at h1 h2
        rw [if_neg (by (first | lia | omega))]
        simp; (first | lia | omega)
theorem lexB_total : ∀ as bs : List Int, lexB as bs = false → lexB bs as = false → as = bs
  | [], [], _, _ => rfl
  | [], _ :: _, h, _ => by cases h
  | _ :: _, [], _, h => by cases h
  | a :: as, b :: bs, h1, h2 => by
    unfold lexB at h1 h2
    by_cases hab : a = b
    · subst hab
      simp only [if_true] at h1 h2
      rw [lexB_total as bs h1 h2]
    · rw [if_neg hab] at h1
      rw [if_neg (Ne.symm hab)] at h2
      simp at h1 h2; (first | lia | omega)
theorem mid_keep {h : Heap} {ws : List Value} : ∀ b o, h.get? b = some o → (midHeap (colHeap h ws) (h.objs.size + 1) ws).get? b = some o := by
  intro b o e
  have hlt : b < h.objs.size := Heap.lt_size e
  unfold midHeap colHeap
  refine Heap.get?_push_of_some _ (Heap.get?_push_of_some _ ?_)
  rw [Heap.get?_update_ne _ _ _ _ (Nat.ne_of_lt (Nat.lt_succ_of_lt hlt))]
  refine Heap.get?_push_of_some _ ?_
  rw [Heap.get?_update_ne _ _ _ _ (Nat.ne_of_lt hlt)]
  exact Heap.get?_push_of_some _ e
theorem sortedAll_keep {h : Heap} {xs : List Value} {out : Array Value} : ∀ b o, h.get? b = some o → (sortedAll h xs out).get? b = some o := by
  intro b o e
  have hlt : b < h.objs.size := Heap.lt_size e
  have hne1 : b ≠ h.objs.size := Nat.ne_of_lt hlt
  have hne2 : b ≠ h.objs.size + 1 := Nat.ne_of_lt (Nat.lt_succ_of_lt hlt)
  unfold sortedAll sortedHeap
  rw [Heap.get?_update_ne _ _ _ _ hne2]
  refine Heap.get?_push_of_some _ (Heap.get?_push_of_some _ ?_)
  rw [Heap.get?_update_ne _ _ _ _ hne2]
  refine Heap.get?_push_of_some _ ?_
  rw [Heap.get?_update_ne _ _ _ _ hne1]
  exact Heap.get?_push_of_some _ e
theorem sortedAll_out {h : Heap} {xs : List Value} {out : Array Value} : ∃ m, IsL (sortedAll h xs out) (h.objs.size + 1) out m := by
  have hsz : ((h.push (seqObj "list" #[] 0)).update h.objs.size (Obj.mapSeq (· ++ xs.toArray))).objs.size = h.objs.size + 1 := by
    rw [Heap.size_update, size_push']
  have hoL : (((h.push (seqObj "list" #[] 0)).update h.objs.size (Obj.mapSeq (· ++ xs.toArray))).push (seqObj "list" xs.toArray 0)).get? (h.objs.size + 1) = some (seqObj "list" xs.toArray 0) := by
    rw [← hsz]; exact Heap.get?_push_size _ rfl
  unfold sortedAll sortedHeap
  have h1 := get?_update_seq hoL (fun _ => (#[] : Array Value))
  exact ⟨_, get?_update_seq (Heap.get?_push_of_some (seqObj "list" #[] 0) (Heap.get?_push_of_some (seqObj "tuple" xs.toArray 0) h1)) (fun _ => out)⟩

theorem katTups_of {h : Heap} : ∀ {ws : List Value} {ts : List (List Int)}, ts.length = ws.length → (∀ i, i < ws.length → ∃ a o xs n, ws.getD i Value.none = .ref a ∧ h.get? a = some o ∧ o.cls = .type "tuple" ∧ o.data = .seq xs n ∧ IntsAre xs.toList (ts.getD i []) ∧ ts.getD i [] ≠ []) →
    ∃ fs, KatTups h ws fs ∧ fs.length = ws.length ∧ ∀ v ∈ fs, ∃ i t, v = .int i t
  | [], ts, _, _ => ⟨[], KatTups.nil, rfl, fun v hv => by simp at hv⟩
  | w :: ws, [], e, _ => by simp at e
  | w :: ws, t :: ts, e, hh => by
    obtain ⟨fs, k1, k2, k3⟩ := katTups_of (ws := ws) (ts := ts) (by simpa using e) (fun i hi => by simpa using hh (i + 1) (by simpa using hi))
    obtain ⟨a, o, xs, n, e1, ho, hc, hd, hI, hne⟩ := hh 0 (by simp)
    simp only [List.getD_cons_zero] at e1 hI hne
    subst e1
    cases hx : xs.toList with
    | nil => rw [hx] at hI; cases hI; exact absurd rfl hne
    | cons x r =>
      have hx0 : xs[0]? = some x := by
        have : xs.toList[0]? = some x := by rw [hx]; rfl
        simpa using this
      rw [hx] at hI
      cases hI with
      | cons i t' _ =>
        exact ⟨_, KatTups.cons ho hc hd hx0 k1, by simp [k2], fun v hv => by
          rcases List.mem_cons.mp hv with rfl | hv
          · exact ⟨i, t', rfl⟩
          · exact k3 v hv⟩

end

/-! part S4 -/
set_option autoImplicit false
set_option maxRecDepth 100000
set_option linter.unusedVariables false
open PySem PySem.W PyProof.Rows
section
section
variable {prog : Program} {w : World} {A : Around} {E : Value → Shared → Prop} {s : Shared}
theorem list_sort_rev (a : Addr) : Builtin.«list.sort» ⟨[.ref a], [(Str.ofString "reverse", .bool true)]⟩ = (do
    let items ← Builtin.List.listItems (.ref a)
    Builtin.List.listUpdate (.ref a) fun _ => #[]
    let before ← seqEpoch a
    let held ← newTuple items.toList
    let keyStore ← newList []
    holding [held, keyStore] do
      rule "list.sort.reverse"
      let kind ← if items.size < 2 then pure general' else keyKind' items
      let ((), s) ← (if items.size < 2 then pure () else sortRuns').run (SortSt.mk' kind (items.zip items).reverse #[] 7 none)
      let sorted := (arrOf s).map (·.2)
      let touched := (← seqEpoch a) != before
      Builtin.List.listUpdate (.ref a) fun _ => sorted.reverse
      if let some e := failedOf s then rule "list.sort.comparison-raised"; throw e
      if touched then rule "list.sort.modified"; raiseError "ValueError" "list modified during sort"
      ret .none) := rfl

theorem pairs_rev (vs : List Value) : (vs.toArray.zip vs.toArray).reverse = pairsOf vs.reverse := by
  apply Array.toList_inj.mp
  rw [pairsOf_toList]
  simp only [Array.toList_reverse, Array.toList_zip]
  apply List.ext_getElem
  · simp
  · intro i h1 h2
    simp [List.getElem_reverse, List.getElem_zip]

theorem args_sorted_rev (a : Value) : argsOk "sorted" ⟨[a], [(Str.ofString "reverse", .bool true)]⟩ := by unfold argsOk; kernel_rfl
theorem args_list_sort_rev (a : Value) : argsOk "list.sort" ⟨[a], [(Str.ofString "reverse", .bool true)]⟩ := by unfold argsOk; kernel_rfl

end

end

/-! part S5 -/
set_option autoImplicit false
set_option maxRecDepth 100000
set_option linter.unusedVariables false
open PySem PySem.W PyProof.Rows
section
variable {K : Glo} {F : Frm}

section
variable {prog : Program} {w : World} {A : Around} {E : Value → Shared → Prop} {s : Shared}
theorem small_snd {vs : List Value} : ((vs.toArray.zip vs.toArray).map (·.2)) = vs.toArray := by
  apply Array.toList_inj.mp
  simp only [Array.toList_map, Array.toList_zip]
  exact List.map_snd_zip (Nat.le_refl _)
theorem arrOf_mk (k : SortKind) (a : Array Keyed) : arrOf (SortSt.mk' k a #[] 7 none) = a := rfl
theorem small_rev {vs : List Value} (h : vs.length < 2) : vs.reverse = vs := by
  rcases vs with _ | ⟨a, _ | ⟨b, l⟩⟩
  · rfl
  · rfl
  · exact absurd h (by rw [List.length_cons, List.length_cons]; exact Nat.not_lt.mpr (Nat.le_add_left 2 _))
theorem sort_small {a : Addr} {vs : List Value} {n : Nat} {P : PySem.Fin → Shared → Prop} (ho : s.heap.get? a = some (seqObj "list" vs.toArray n)) (h2 : vs.length < 2)
    (h : P (.done (.ret .none)) { s with heap := sortedHeap s.heap a vs vs.toArray }) (kw : List (Str × Value)) (hkw : kw = [] ∨ kw = [(Str.ofString "reverse", .bool true)]) :
    wpAny (model prog w) A (Builtin.«list.sort» ⟨[.ref a], kw⟩) P E s := by
  have ha : a < s.heap.objs.size := Heap.lt_size ho
  obtain ⟨e1, ho1⟩ : ∃ e1, (s.heap.update a (Obj.mapSeq fun _ => (#[] : Array Value))).get? a = some (seqObj "list" #[] e1) := ⟨_, get?_update_seq ho (fun _ => #[])⟩
  have ho6 : (midHeap s.heap a vs).get? a = some (seqObj "list" #[] e1) := by
    unfold midHeap
    rw [Heap.get?_push_ne _ _ _ (by rw [size_push', Heap.size_update]; exact Nat.ne_of_lt (Nat.lt_succ_of_lt ha)), Heap.get?_push_ne _ _ _ (by rw [Heap.size_update]; exact Nat.ne_of_lt ha)]
    exact ho1
  have hn2 : vs.toArray.size < 2 := by rw [List.size_toArray]; (first | lia | omega)
  rcases hkw with rfl | rfl
  · rw [list_sort_plain]
    refine wpAny_bind (listItems_at ho rfl ?_)
    refine wpAny_bind (listUpdate_at ho rfl ?_ (by rw [List.size_toArray, sizeLine_eq]; (first | lia | omega)) (Nat.zero_le _))
    refine wpAny_bind (seqEpoch_at ho1 rfl ?_)
    refine wpAny_bind (wpAny_newTuple ?_ (by show vs.length ≤ _; rw [sizeLine_eq]; (first | lia | omega)))
    refine wpAny_bind (wpAny_newList ?_ (Nat.zero_le _))
    refine wpAny_holding ?_
    show wpAny (model prog w) A _ P E { s with heap := midHeap s.heap a vs }
    dsimp only
    rw [if_pos hn2, if_pos hn2]
    refine wpAny_bind (wpAny_pure ?_)
    rw [StateT.run_pure]
    refine wpAny_bind (wpAny_pure ?_)
    dsimp only
    rw [arrOf_mk]
    rw [small_snd]
    refine wpAny_bind (seqEpoch_at ho6 rfl ?_)
    refine wpAny_bind (listUpdate_at ho6 rfl ?_ (Nat.zero_le _) (by rw [List.size_toArray, sizeLine_eq]; (first | lia | omega)))
    simp only [bne_self_eq_false, Bool.false_eq_true, if_false]
    exact wpAny_pure h
  · rw [list_sort_rev]
    refine wpAny_bind (listItems_at ho rfl ?_)
    refine wpAny_bind (listUpdate_at ho rfl ?_ (by rw [List.size_toArray, sizeLine_eq]; (first | lia | omega)) (Nat.zero_le _))
    refine wpAny_bind (seqEpoch_at ho1 rfl ?_)
    refine wpAny_bind (wpAny_newTuple ?_ (by show vs.length ≤ _; rw [sizeLine_eq]; (first | lia | omega)))
    refine wpAny_bind (wpAny_newList ?_ (Nat.zero_le _))
    refine wpAny_holding ?_
    show wpAny (model prog w) A _ P E { s with heap := midHeap s.heap a vs }
    dsimp only
    refine wpAny_bind (wpAny_rule ?_)
    rw [if_pos hn2, if_pos hn2]
    refine wpAny_bind (wpAny_pure ?_)
    rw [StateT.run_pure]
    refine wpAny_bind (wpAny_pure ?_)
    dsimp only
    have e : ((vs.toArray.zip vs.toArray).reverse.map (·.2)).reverse = vs.toArray := by
      rw [pairs_rev, small_rev h2]
      show ((vs.toArray.zip vs.toArray).map (·.2)).reverse = _
      rw [small_snd]
      apply Array.toList_inj.mp
      rw [Array.toList_reverse]
      exact small_rev h2
    rw [arrOf_mk]
    rw [e]
    refine wpAny_bind (seqEpoch_at ho6 rfl ?_)
    refine wpAny_bind (listUpdate_at ho6 rfl ?_ (Nat.zero_le _) (by rw [List.size_toArray, sizeLine_eq]; (first | lia | omega)))
    simp only [bne_self_eq_false, Bool.false_eq_true, if_false]
    exact wpAny_pure h
end

section
variable {prog : Program} {w : World} {A : Around} {E : Value → Shared → Prop} {s : Shared}
theorem sorted_small {l : Addr} {vs : List Value} {Q : Value → Shared → Prop} (hl : s.heap.IsList l vs.toArray) (h2 : vs.length < 2)
    (h : Q (.ref (s.heap.objs.size + 1)) { s with heap := sortedAll s.heap vs vs.toArray }) (kw : List (Str × Value)) (hkw : kw = [] ∨ kw = [(Str.ofString "reverse", .bool true)]) :
    wpAny (model prog w) A (call (.builtin "sorted") [.ref l] kw) Q E s := by
  refine call_function_entry_kw kind_sorted plain_sorted entry_sorted (by rcases hkw with rfl | rfl; exact args_sorted1 _; exact args_sorted_rev _) ?_
  unfold Builtin.«sorted»
  refine wpAny_bind (m := checkCount "sorted" 1 1 _) (wpAny_pure ?_)
  refine wpAny_bind (collect_list hl ?_ (by rw [sizeLine_eq]; (first | lia | omega)))
  refine wpAny_bind (wpAny_newList ?_ (by rw [sizeLine_eq]; (first | lia | omega)))
  have hsz : ((s.heap.push (seqObj "list" #[] 0)).update s.heap.objs.size (Obj.mapSeq (· ++ vs.toArray))).objs.size = s.heap.objs.size + 1 := by
    rw [Heap.size_update, size_push']
  have hoL : (colHeap s.heap vs).get? (s.heap.objs.size + 1) = some (seqObj "list" vs.toArray 0) := by
    unfold colHeap
    rw [← hsz]; exact Heap.get?_push_size _ rfl
  show wpAny _ _ _ _ _ { s with heap := colHeap s.heap vs }
  rw [hsz]
  refine wpAny_bind (wpAny_holding (wpAny_call_entry_kw slot_list_sort ⟨_, hoL, rfl⟩ entry_list_sort (sort_small (s := { s with heap := colHeap s.heap vs }) hoL h2 ⟨_, rfl, ?_⟩ kw hkw) (by rcases hkw with rfl | rfl; exact args_list_sort _; exact args_list_sort_rev _)))
  exact wpAny_pure ⟨_, rfl, h⟩
end
end

/-! part F22 -/
set_option autoImplicit false
set_option maxRecDepth 100000
set_option linter.unusedVariables false
open PySem PySem.W PyProof.Rows
section
variable {K : Glo} {F : Frm}
end

/-! part F23 -/
set_option autoImplicit false
set_option maxRecDepth 100000
set_option linter.unusedVariables false
open PySem PySem.W PyProof.Rows
section
variable {K : Glo} {F : Frm}
open PySem.SeqAt PySem.MeetsSeq PySem.MeetsSeq3
end

/-! part F24 -/
set_option autoImplicit false
set_option maxRecDepth 100000
set_option linter.unusedVariables false
open PySem PySem.W PyProof.Rows
section
variable {K : Glo} {F : Frm}
section
variable {prog : Program} {w : World} {A : Around} {R : Result → Shared → Prop} {I : Addr} {fp wr : List Addr} {n : Nat} {P : Nat → Value → Prop} {St : Nat → Heap → Prop} {h₀ : Heap}
end

section
variable {prog : Program} {w : World} {A : Around} {E : Value → Shared → Prop} {s : Shared}
end

section
end

section
variable {prog : Program} {w : World} {A : Around} {R : Result → Shared → Prop} {I : Addr} {fp wr : List Addr} {n : Nat} {P : Nat → Value → Prop} {St : Nat → Heap → Prop} {h₀ : Heap}
end

section
variable {prog : Program} {w : World} {A : Around} {E : Value → Shared → Prop} {s : Shared}
end

section
end

end

/-! part F26 -/
set_option autoImplicit false
set_option maxRecDepth 100000
set_option linter.unusedVariables false
open PySem PySem.W PyProof.Rows
section
variable {K : Glo} {F : Frm}
end

/-! part F27 -/
set_option autoImplicit false
set_option maxRecDepth 100000
set_option linter.unusedVariables false
open PySem PySem.W PyProof.Rows
section
variable {K : Glo} {F : Frm}
/-! ### t[:b] of a tuple -/
section
variable {prog : Program} {w : World} {A : Around} {E : Value → Shared → Prop} {s : Shared}
end
end

/-! part F29 -/
set_option autoImplicit false
set_option maxRecDepth 100000
set_option linter.unusedVariables false
open PySem PySem.W PyProof.Rows
section
variable {K : Glo} {F : Frm}

/-! ### the frame while an exception is handled -/
noncomputable def Fh (F : Frm) (v : Value) : Frm := ⟨F.env, F.A.mark (some v), F.mine, false⟩
theorem FOk.h (fk : FOk F) (v : Value) : FOk (Fh F v) := ⟨fk.kind, fk.glob, fk.blt, (fun q => by cases q), fk.units⟩
theorem Rel.h {σ : S} {ρ : List Addr} {s : Shared} (rel : Rel K F σ ρ s) (v : Value) : Rel K (Fh F v) σ ρ s :=
  { toGRel := rel.toGRel, vars := rel.vars, loc := rel.loc, cels := rel.cels, mineAbove := rel.mineAbove, mineApart := rel.mineApart, mineLoc := rel.mineLoc, frs := rel.frs }
theorem Rel.unh {σ : S} {ρ : List Addr} {s : Shared} {v : Value} (rel : Rel K (Fh F v) σ ρ s) : Rel K F σ ρ s :=
  { toGRel := rel.toGRel, vars := rel.vars, loc := rel.loc, cels := rel.cels, mineAbove := rel.mineAbove, mineApart := rel.mineApart, mineLoc := rel.mineLoc, frs := rel.frs }
noncomputable def S.del (σ : S) (x : String) : S := { σ with lo := fun y => if y = x then none else σ.lo y }
theorem Rel.del {σ : S} {ρ : List Addr} {s : Shared} (rel : Rel K F σ ρ s) (x : String) : Rel K F (σ.del x) ρ s :=
  { toGRel := rel.toGRel, vars := fun y v e => by
      by_cases hy : y = x
      · simp only [S.del, hy, if_true] at e; cases e
      · simp only [S.del, if_neg hy] at e; exact rel.vars y v e
    loc := rel.loc, cels := rel.cels, mineAbove := rel.mineAbove, mineApart := rel.mineApart, mineLoc := rel.mineLoc, frs := rel.frs }
/-- a name that the plain state does not know is bound, or unbound -/
theorem Rel.setRaw {σ : S} {ρ : List Addr} {s s' : Shared} {x : String} {w : Option Value} {m : Str → Option Value} (rel : Rel K F σ ρ s) (hx : σ.lo x = none) (hm : s.heap.Ns F.env.locals m)
    (hn : s'.heap.Ns F.env.locals (fun y => if y = Str.ofString x then w else m y)) (hs : Heap.SameBut F.env.locals s.heap s'.heap) (hg : s'.gens = s.gens) (ho : s'.os = s.os) : Rel K F σ ρ s' ∧ Ext F.mine ρ ρ s.heap s'.heap := by
  have ht : ∀ b o, s.heap.get? b = some o → Froz o → b ≠ F.env.locals := fun b o e f => ns_ne_tup hm e f
  have hal : ∃ o, s'.heap.get? F.env.locals = some o := by obtain ⟨o, _, _, e, _⟩ := hn; exact ⟨o, e⟩
  have ext : Ext F.mine ρ ρ s.heap s'.heap := Ext.mineBut rel.mineLoc hs hal ht
  have hfr : FrsOk K F s'.heap := rel.frs.next fun b o es n g d => by
    by_cases hb : b = F.env.locals
    · subst hb
      obtain ⟨o', es', ep', g', d', _⟩ := hn
      exact ⟨o', _, _, g', d'⟩
    · exact ⟨o, es, n, (hs.2 b hb).trans g, d⟩
  refine ⟨{ toGRel := rel.toGRel.mineBut (rel.mineAbove _ rel.mineLoc).1 (rel.mineApart _ rel.mineLoc) hs ht hg ho, vars := ?_, loc := ⟨_, hn⟩, cels := ?_, mineAbove := ?_, mineApart := rel.mineApart, mineLoc := rel.mineLoc, frs := hfr }, ext⟩
  · intro y u e
    have hy : y ≠ x := fun q => by rw [q, hx] at e; cases e
    obtain ⟨w', h1, h2⟩ := rel.vars y u e
    refine ⟨w', ?_, h2.mono ext⟩
    rcases h1 with ⟨k1, m1, n1, e1⟩ | ⟨k1, c, e1, n1⟩
    · refine .inl ⟨k1, _, hn, ?_⟩
      have hne : ¬ Str.ofString y = Str.ofString x := fun q => hy (ofString_inj q)
      rw [if_neg hne]
      obtain ⟨o1, es1, ep1, g1, d1, _, f1⟩ := n1
      obtain ⟨o2, es2, ep2, g2, d2, _, f2⟩ := hm
      rw [g1] at g2; cases g2; rw [d1] at d2; cases d2
      rw [← f2, f1]; exact e1
    · exact .inr ⟨k1, c, e1, n1.sameBut hs (fun q => cell_ne_ns n1 hm q.symm)⟩
  · intro y c e
    obtain ⟨v', n⟩ := rel.cels y c e
    exact ⟨v', n.sameBut hs (fun q => cell_ne_ns n hm q.symm)⟩
  · intro b hb
    obtain ⟨h1, o, h2⟩ := rel.mineAbove b hb
    obtain ⟨o', h3⟩ := ext.alive b o h2
    exact ⟨h1, o', h3⟩

/-! ### what stands in a handler's first statement -/
/-- the name n holds an exception with words msg -/
noncomputable def Caught (F : Frm) (n : Str) (v : Value) (cls : String) (msg : Str) (h : Heap) : Prop := ∃ a t tok m, v = .ref a ∧ h.Ns F.env.locals m ∧ m n = some (.ref a) ∧ h.ExcAt a cls (.ref t) ∧ h.TupAt t [.str msg tok]
noncomputable def SimEX (P : Heap → Prop) (K : Glo) (F : Frm) (e : Expr) (m : M V) : Prop := ∀ σ ρ s, Rel K F σ ρ s → P s.heap → Run K F (eval e F.env) (fun h ρ v w => P h ∧ Rep K h ρ v w) (m σ) ρ s
noncomputable def SimEsX (P : Heap → Prop) (K : Glo) (F : Frm) (es : List Expr) (m : M (List V)) : Prop := ∀ (pos : Pos) σ ρ s, Rel K F σ ρ s → P s.heap → Run K F (spliced (backTo pos (starEach es F.env))) (fun h ρ v w => P h ∧ RepL K h ρ v w) (m σ) ρ s
noncomputable def SimSX (P : Heap → Prop) (K : Glo) (F : Frm) (st : Stmt) (m : M Fl) : Prop := ∀ σ ρ s, Rel K F σ ρ s → P s.heap → Run K F (exec st F.env) (FlRep K) (m σ) ρ s
noncomputable def SimSsX (P : Heap → Prop) (K : Glo) (F : Frm) (st : List Stmt) (m : M Fl) : Prop := ∀ σ ρ s, Rel K F σ ρ s → P s.heap → Run K F (execs st F.env) (FlRep K) (m σ) ρ s
section
variable {P : Heap → Prop}
theorem simEX_str (x : Str) (k : Nat) (pos : Pos) : SimEX P K F (.Constant (.str x) k pos) (pure (.str x)) := fun _ ρ _ rel hP => Run.ok (wpAny_Constant_str ⟨ρ, rel.tok _, Ext.refl .., hP, Rep.str ..⟩)
theorem simEsX_nil : SimEsX P K F [] (pure []) := fun _ _ _ _ rel hP => Run.pure rel ⟨hP, RepL.nil⟩
theorem simEsX_cons {e : Expr} {es : List Expr} {m : M V} {ms : M (List V)} (he : SimEX P K F e m) (hs : SimEsX P K F es ms)
    (hst : starEach (e :: es) F.env = (false, eval e F.env) :: starEach es F.env := by rfl) : SimEsX P K F (e :: es) (do let v ← m; let vs ← ms; pure (v :: vs)) := by
  intro pos σ ρ s rel hP
  rw [hst]
  show Run K F (spliced ((false, eval e F.env) :: backTo pos (starEach es F.env))) _ _ ρ s
  rw [spliced_cons_eq]
  refine Run.bind (he σ ρ s rel hP) fun a σ₁ ρ₁ s₁ wa _ rel₁ x₁ ra => ?_
  refine Run.bind (Run.holding (hs pos σ₁ ρ₁ s₁ rel₁ ra.1)) fun b σ₂ ρ₂ s₂ wb _ rel₂ x₂ rb => ?_
  exact Run.pure rel₂ ⟨rb.1, RepL.cons (ra.2.mono x₂) rb.2⟩
theorem simSX_return_tuple {es : List Expr} {ms : M (List V)} (k : Nat) (pos tpos : Pos) (hs : SimEsX P K F es ms) : SimSX P K F (.Return (some (.Tuple es k tpos)) pos) (do let v ← (do let vs ← ms; mkT vs); pure (.ret v)) := by
  intro σ ρ s rel hP
  rw [exec_Return_some]
  refine Run.standAt (Run.bind (R := Rep K) (m := (do let vs ← ms; mkT vs)) ?_ fun v σ₁ ρ₁ s₁ w _ rel₁ x₁ r => Run.pure rel₁ ⟨w, rfl, r⟩)
  show Run K F (do standAt tpos; newTuple (← spliced (backTo tpos (starEach es F.env)))) (Rep K) _ ρ s
  refine Run.standAt (Run.bind (hs tpos σ ρ s rel hP) fun a σ₁ ρ₁ s₁ wa _ rel₁ x₁ ra => ?_)
  unfold mkT
  split
  · exact run_newTuple rel₁ ra.2 ‹_›
  · exact Run.stuck
theorem simSsX_cons {st : Stmt} {sts : List Stmt} {m ms : M Fl} (h : SimSX P K F st m) (hs : SimSs K F sts ms) : SimSsX P K F (st :: sts) (seqM m ms) := by
  intro σ ρ s rel hP
  show Run K F (do match ← exec st F.env with | .next => execs sts F.env | f => pure f) _ _ ρ s
  refine Run.bind (h σ ρ s rel hP) fun f σ₁ ρ₁ s₁ wf _ rel₁ x₁ rf => ?_
  cases f with
  | next => have : wf = .next := rf; subst this; exact hs σ₁ ρ₁ s₁ rel₁
  | brk => have : wf = .brk := rf; subst this; exact Run.pure rel₁ rfl
  | cont => have : wf = .cont := rf; subst this; exact Run.pure rel₁ rfl
  | ret v => obtain ⟨w, e, r⟩ := rf; subst e; exact Run.pure rel₁ ⟨w, rfl, r⟩
theorem simSsX_one {st : Stmt} {m : M Fl} (h : SimSX P K F st m) : SimSsX P K F [st] m := by
  intro σ ρ s rel hP
  have := simSsX_cons h simSs_nil σ ρ s rel hP
  have e : seqM m (pure .next) σ = m σ := by
    unfold seqM
    rw [M.bind_def]
    cases m σ with
    | stuck => rfl
    | exc x y => rfl
    | ok f y => cases f <;> rfl
  rw [e] at this; exact this
end
/-- str(n) of what was caught -/
theorem simEX_strOf (fk : FOk F) {n : String} {v : Value} {cls N : String} {msg : Str} (FX : ExcStrFacts cls N) {np ap pos : Pos} (hx : F.env.kindOf (Str.ofString "str") = some .globalImplicit) (hm : K.mg (Str.ofString "str") = none)
    (hn : F.env.kindOf (Str.ofString n) = some .local) (hst : starEach [.Name (Str.ofString n) ap] F.env = [(false, eval (.Name (Str.ofString n) ap) F.env)] := by rfl)
    (hd : (Str.ofString n == ("__debug__" : Str)) = false := by decide) :
    SimEX (Caught F (Str.ofString n) v cls msg) K F (.Call (.Name (Str.ofString "str") np) [.Name (Str.ofString n) ap] [] pos) (pure (.str msg)) := by
  intro σ ρ s rel hP
  have hP0 := hP
  obtain ⟨a, t, tok, m, h1, h2, h3, h4, h5⟩ := hP
  refine Run.ok ?_
  rw [eval_CallName]
  refine wpAny_bind (wp_builtin fk rel hx hm (v := .type "str") (by decide +kernel) ?_)
  refine wp_callWith rfl (by rw [backTo_any, hst]; rfl) ?_
  rw [hst]
  show wpAny _ _ (spliced ((false, eval (.Name (Str.ofString n) ap) F.env) :: backTo pos [])) _ _ s
  rw [spliced_cons_eq]
  refine wpAny_bind (wpAny_Name (wpAny_loadName_local fk.kind hn h2 h3 ?_) hd)
  refine wpAny_bind (wpAny_holding (wpAny_pure ?_))
  refine wpAny_pure ?_
  have hu := fk.units
  exact P.str_of_exc_one FX (by (first | lia | omega)) h4 h5 ⟨ρ, rel, Ext.refl .., hP0, Rep.str ..⟩

end

/-! part F30 -/
set_option autoImplicit false
set_option maxRecDepth 100000
set_option linter.unusedVariables false
open PySem PySem.W PyProof.Rows
section
variable {K : Glo} {F : Frm}

/-! ### try: .. except T as n: .. -/
noncomputable def tryM (body : M Fl) (h : Exc → M Fl) : M Fl := fun σ => match body σ with
  | .ok f σ' => .ok f σ'
  | .exc e σ' => h e σ'
  | .stuck => .stuck
noncomputable def noH : Exc → M Fl := fun _ => stuck
noncomputable def hndM (T n : String) (mh : Str → M Fl) (rest : Exc → M Fl) : Exc → M Fl := fun e σ =>
  if e.cls = T then (match mh e.msg (σ.del n) with
    | .ok f σ' => .ok f (σ'.del n)
    | _ => .stuck)
  else if e.cls = "IndexError" ∨ e.cls = "TypeError" then rest e σ else .stuck

noncomputable def SimHs (K : Glo) (F : Frm) (hs : List ExceptHandler) (h : Exc → M Fl) : Prop := ∀ e σ ρ ρ₀ h₀ s v, Rel K F σ ρ s → Ext F.mine ρ₀ ρ h₀ s.heap → XRepN K F e h₀ v s → h e σ ≠ .stuck →
  wpAny (model K.prog K.w) F.A (handleBy v F.env hs) (QO K F (FlRep K) (h e σ) ρ₀ h₀) (EO K F (h e σ) ρ₀ h₀) s
theorem simHs_nil : SimHs K F [] noH := fun _ _ _ _ _ _ _ _ _ _ hne => absurd rfl hne

structure ExcT (T : String) : Prop where
  exc : isSubtype (.type T) (.type "BaseException") = pure true
  nt : isSubtype (.type ((Manifest.find? T).elim "type" fun x => x.metatype)) (.type "tuple") = pure false
  self : isSubtype (.type T) (.type T) = pure true
  ix : "IndexError" ≠ T → isSubtype (.type "IndexError") (.type T) = pure false
  ty : "TypeError" ≠ T → isSubtype (.type "TypeError") (.type T) = pure false
theorem excT_IndexError : ExcT "IndexError" := ⟨by rw [isSubtype_type]; kernel_rfl, by rw [isSubtype_type]; kernel_rfl, by rw [isSubtype_type]; kernel_rfl, fun h => absurd rfl h, fun _ => by rw [isSubtype_type]; kernel_rfl⟩
theorem excT_TypeError : ExcT "TypeError" := ⟨by rw [isSubtype_type]; kernel_rfl, by rw [isSubtype_type]; kernel_rfl, by rw [isSubtype_type]; kernel_rfl, fun _ => by rw [isSubtype_type]; kernel_rfl, fun h => absurd rfl h⟩

theorem simHs_as (fk : FOk F) {T n : String} {np pos : Pos} {b₀ : Stmt} {suite : List Stmt} {rest : List ExceptHandler} {mh : Str → M Fl} {mr : Exc → M Fl} (HT : ExcT T)
    (hx : F.env.kindOf (Str.ofString T) = some .globalImplicit) (hm : K.mg (Str.ofString T) = none) (hb : bootBuiltins (Str.ofString T) = some (.type T)) (hn : F.env.kindOf (Str.ofString n) = some .local)
    (hs : ∀ v msg, SimSsX (Caught (Fh F v) (Str.ofString n) v T msg) K (Fh F v) (b₀ :: suite) (mh msg)) (hr : SimHs K F rest mr)
    (hnn : Str.ofString T ≠ "__name__" := by decide) (hdd : (Str.ofString T == ("__debug__" : Str)) = false := by decide) :
    SimHs K F (.ExceptHandler (some (.Name (Str.ofString T) np)) (some (Str.ofString n)) (b₀ :: suite) pos :: rest) (hndM T n mh mr) := by
  intro e σ ρ ρ₀ h₀ s v rel ext x hne
  have x0 := x
  obtain ⟨X, hfresh, hX, hcls, a, t, tok, oe, vs, rfl, haX, ht, ha, hc, hd, h0, hst⟩ := x0
  have hT : s.TypeIs (.ref a) e.cls := ⟨oe, ha, hc⟩
  unfold hndM at hne ⊢
  by_cases hq : e.cls = T
  · rw [if_pos hq] at hne ⊢
    subst hq
    refine wpAny_handleBy_builtin_as (X := e.cls) (T := e.cls) (b := true) HT.exc HT.nt HT.self ?_
    refine wp_builtin (F := Fh F (.ref a)) (fk.h _) (rel.h _) hx hm hb ⟨rfl, hT, ?_⟩ hnn hdd
    rw [if_pos rfl]
    refine XRepB.flight (F := Fh F (.ref a)) (e := e) (ρ₀ := ρ₀) (h₀ := h₀) x (rel.h _) ext (.inl rfl) fun s₂ rel₂ ext₂ x₂ => ?_
    obtain ⟨X₂, f₂, g₂, _, a', t', tok', oe', vs', q1, q2, q3, q4, q5, q6, q7, q8⟩ := x₂
    cases q1
    have rel₂' := (rel₂.del n)
    obtain ⟨m, hm₂⟩ := rel₂.loc
    refine wpAny_storeName_local (env := F.env) hn hm₂ (fun h' hn' hs' => ?_) (by rw [show F.env.scope.kind = .function from fk.kind]; rfl)
    obtain ⟨rel₃, x₃⟩ := rel₂'.setRaw (s' := { s₂ with heap := h', toks := s₂.toks + 1 }) (x := n) (w := some (.ref a)) (by simp [S.del]) hm₂ hn' hs' rfl rfl
    have hal : a ≠ F.env.locals := fun q => (g₂ a q2).2 (q ▸ rel.mineLoc)
    have hcaught : Caught (Fh F (.ref a)) (Str.ofString n) (.ref a) e.cls e.msg h' := by
      obtain ⟨o3, g3, c3, n3, d3⟩ := q3
      refine ⟨a, t', tok', _, rfl, hn', by simp, ⟨oe', vs', (hs'.2 a hal).trans q4, q5, q6, q7⟩, ?_⟩
      exact ⟨o3, n3, x₃.froz t' o3 g3 (.inl ⟨c3, _, n3, d3⟩), c3, d3⟩
    have hrun := hs (.ref a) e.msg (σ.del n) ρ { s₂ with heap := h', toks := s₂.toks + 1 } rel₃ hcaught
    cases em : mh e.msg (σ.del n) with
    | stuck => rw [em] at hne; exact absurd rfl hne
    | exc y z => rw [em] at hne; exact absurd rfl hne
    | ok f σ' =>
      (try rw [em] at hrun); (try rw [em] at hne); (try dsimp only at hne ⊢)
      refine wpAny_mono hrun (fun wf s₄ h₄ => ?_) fun _ _ h => h.elim
      obtain ⟨ρ', rel₄, x₄, rf⟩ := h₄
      obtain ⟨m₄, hm₄⟩ := rel₄.loc
      refine wpAny_nameGoes_keeps hn hm₄ (by rw [show F.env.scope.kind = .function from fk.kind]; rfl) fun h₅ u hn₅ hs₅ => ?_
      obtain ⟨rel₅, x₅⟩ := (rel₄.unh.del n).setRaw (s' := { s₄ with heap := h₅, toks := s₄.toks + 1 }) (x := n) (w := u) (by simp [S.del]) hm₄ hn₅ hs₅ rfl rfl
      refine ⟨f, σ'.del n, ρ', rfl, rel₅, ((ext₂.trans x₃).trans x₄).trans x₅, ?_⟩
      cases f with
      | ret v' =>
        obtain ⟨w, e1, r1⟩ := rf
        exact ⟨w, e1, r1.mono x₅⟩
      | _ => exact rf
  · rw [if_neg hq] at hne ⊢
    by_cases hk : e.cls = "IndexError" ∨ e.cls = "TypeError"
    · rw [if_pos hk] at hne ⊢
      have hsub : isSubtype (.type e.cls) (.type T) = pure false := by
        rcases hk with h | h
        · rw [h] at hq ⊢; exact HT.ix hq
        · rw [h] at hq ⊢; exact HT.ty hq
      refine wpAny_handleBy_builtin_as (X := e.cls) (T := T) (b := false) HT.exc HT.nt hsub ?_
      refine wp_builtin (F := Fh F (.ref a)) (fk.h _) (rel.h _) hx hm hb ⟨rfl, hT, ?_⟩ hnn hdd
      rw [if_neg Bool.false_ne_true]
      exact hr e σ ρ ρ₀ h₀ s _ rel ext x hne
    · rw [if_neg hk] at hne; exact absurd rfl hne

theorem simS_try (fk : FOk F) {body : List Stmt} {h₀ : ExceptHandler} {hs : List ExceptHandler} {pos : Pos} {mb : M Fl} {mh : Exc → M Fl} (hb : SimSs K F body mb) (hh : SimHs K F (h₀ :: hs) mh) :
    SimS K F (.Try body (h₀ :: hs) [] [] pos) (tryM mb mh) := by
  intro σ ρ s rel
  refine Run.of_wp fun hne => ?_
  refine wpAny_Try_except ?_
  unfold tryM at hne ⊢
  have hrun := hb σ ρ s rel
  cases em : mb σ with
  | stuck => rw [em] at hne; exact absurd rfl hne
  | ok f σ' =>
    (try rw [em] at hrun); (try rw [em] at hne); (try dsimp only at hne ⊢)
    refine wpAny_mono hrun (fun wf s₁ h₁ => ?_) fun _ _ h => h.elim
    obtain ⟨ρ', rel₁, x₁, rf⟩ := h₁
    have fin : QO K F (FlRep K) (.ok f σ') ρ s.heap wf s₁ := ⟨f, σ', ρ', rfl, rel₁, x₁, rf⟩
    cases f with
    | next => have : wf = .next := rf; subst this; exact wpAny_execs_nil fin
    | brk => have : wf = .brk := rf; subst this; exact fin
    | cont => have : wf = .cont := rf; subst this; exact fin
    | ret v => obtain ⟨w, e, r⟩ := id rf; subst e; exact fin
  | exc e σ' =>
    (try rw [em] at hrun); (try rw [em] at hne); (try dsimp only at hne ⊢)
    refine wpAny_mono hrun (fun _ _ h => h.elim) fun v s₁ h₁ => ?_
    obtain ⟨ρ', rel₁, x₁, xr⟩ := h₁
    refine xr.noted rel₁ x₁ fun s₂ rel₂ x₂ xn => ?_
    refine XRepB.flight xn rel₂ x₂ (.inl rfl) fun s₃ rel₃ x₃ xf => ?_
    refine hh e σ' ρ' ρ s.heap s₃ v rel₃ x₃ ?_ hne
    obtain ⟨X', f', g', hc', a', t', tok', oe', vs', q1, q2, q3, q4, q5, q6, q7, q8⟩ := xf
    refine ⟨X', f', g', hc', a', t', tok', oe', vs', q1, q2, q3, q4, q5, q6, q7, ?_⟩
    rcases q8 with ⟨q, _⟩ | ⟨T', oT', ts', fl', r1, r2, r3, r4, r5, r6, r7, r8⟩
    · cases q
    · exact .inr ⟨T', oT', ts', fl', r1, r2, r3, r4, r5, r6, r7, r8.1⟩

end

/-! part F31 -/
set_option autoImplicit false
set_option maxRecDepth 100000
set_option linter.unusedVariables false
open PySem PySem.W PyProof.Rows
section
variable {K : Glo} {F : Frm}
/-! ### list(x) of a list or a tuple -/
noncomputable def listB : List V → M V
  | [.obj l] => fun σ => match σ.st[l]? with
    | some (.lst vs) => .ok (.obj σ.st.length) { σ with st := σ.st ++ [.lst vs] }
    | _ => .stuck
  | [.tup vs] => fun σ => .ok (.obj σ.st.length) { σ with st := σ.st ++ [.lst vs] }
  | _ => stuck

theorem list_out {σ : S} {ρ : List Addr} {s : Shared} {T : String} {o : Obj} {it : Addr} {items : List Value} {n : Nat} {vs : List V} (rel : Rel K F σ ρ s) (hT : T = "list" ∨ T = "tuple")
    (ho : s.heap.get? it = some o) (hc : o.cls = .type T) (hd : o.data = .seq items.toArray n) (hr : RepL K s.heap ρ vs items) (hn : vs.length ≤ 1000000) :
    wpAny (model K.prog K.w) F.A (PySem.call (.type "list") [.ref it]) (fun v s' => ∃ ρ', Rel K F { σ with st := σ.st ++ [.lst vs] } ρ' s' ∧ Ext F.mine ρ ρ' s.heap s'.heap ∧ Rep K s'.heap ρ' (.obj σ.st.length) v) (fun _ _ => False) s := by
  refine call_list_seq it hT ho hc hd (fun h' c' hk hD => ?_) (sizeLine_ge (by rw [List.size_toArray, hr.length]; exact hn))
  obtain ⟨rel', x'⟩ := rel.newAt (s' := { s with heap := h' }) (a := s.heap.objs.size) (n := c') hk (Heap.get?_none_of_le (Nat.le_refl _)) hD hr hn rfl rfl
  exact ⟨_, rel', x', Rep.obj_iff.mpr ⟨_, by rw [← rel.len]; exact List.getElem?_concat_length, rfl⟩⟩

theorem built_list : BuiltOk K (.type "list") listB := by
  intro F fk hnh σ ρ s vs ws rel r
  unfold listB
  split
  · rename_i l
    obtain ⟨x, r', rfl, r1, r2⟩ := RepL.cons_iff.mp r
    obtain rfl := RepL.nil_iff.mp r2
    cases hl : σ.st[l]? with
    | none => exact Run.stuck
    | some c =>
      cases c with
      | lst us =>
        dsimp only
        obtain ⟨a, xs, n, rfl, hρ, hL, hr, hn⟩ := rel.list r1 hl
        exact Run.ok (list_out rel (.inl rfl) hL rfl rfl hr hn)
  · rename_i us
    obtain ⟨x, r', rfl, r1, r2⟩ := RepL.cons_iff.mp r
    obtain rfl := RepL.nil_iff.mp r2
    obtain ⟨hz, a, xs, rfl, ⟨o, ho, hc, n, hd⟩, hr⟩ := Rep.tup_iff.mp r1
    exact Run.ok (list_out rel (.inr rfl) ho hc hd hr hz)
  · exact Run.stuck

end

/-! part F32 -/
set_option autoImplicit false
set_option maxRecDepth 100000
set_option linter.unusedVariables false
open PySem PySem.W PyProof.Rows
section
variable {K : Glo} {F : Frm}

/-! ### less than, where TypeError counts -/
noncomputable def ltWords (a b : String) : String := s!"'{"<"}' not supported between instances of '{a}' and '{b}'"
noncomputable def teD : PyData → PyData → Option (String × String)
  | .tuple _, .none => some ("tuple", "NoneType")
  | .int _, .str _ => some ("int", "str")
  | .str _, .int _ => some ("str", "int")
  | _, _ => none
noncomputable def teX (a b : V) : M V := fun σ => match toD σ.st 6 a, toD σ.st 6 b with
  | some d, some d' => match teD d d' with
    | some p => .exc ⟨"TypeError", Str.ofString (ltWords p.1 p.2)⟩ σ
    | none => .stuck
  | _, _ => .stuck
noncomputable def ltX (a b : V) : M V := fun σ => match ltV a b σ with
  | .stuck => teX a b σ
  | r => r

section
variable {A : Around} {E : Value → Shared → Prop} {s : Shared}
theorem lt_declined {a b : Value} {Ta Tb ida idb : String} {Q : Value → Shared → Prop} (hh : A.handled = none) (ha : s.TypeIs a Ta) (hb : s.TypeIs b Tb)
    (hne : (Value.type Ta != Value.type Tb) = true) (hsub : isSubtype (.type Tb) (.type Ta) = pure false) (h1 : Slot Ta (cmpInfo .Lt).2.1 ida) (h2 : Slot Tb (cmpInfo .Lt).2.2 idb)
    (hna : (Value.type Ta == Value.type "builtin_function_or_method") = false) (hnb : (Value.type Tb == Value.type "builtin_function_or_method") = false)
    (hc1 : ∀ Q' : Value → Shared → Prop, Q' .notImplemented s → wpAny (model K.prog K.w) A (call (.builtin ida) [a, b]) Q' E s)
    (hc2 : ∀ Q' : Value → Shared → Prop, Q' .notImplemented s → wpAny (model K.prog K.w) A (call (.builtin idb) [b, a]) Q' E s)
    (hr : [a, b].any Value.onHeap = false ∨ A.units < cLine) (hw : (Str.ofString (ltWords (shownName Ta) (shownName Tb))).length ≤ sizeLine)
    (h : E (.ref (s.heap.objs.size + 1)) { s with heap := excHeap s.heap "TypeError" (Str.ofString (ltWords (shownName Ta) (shownName Tb))) s.toks, toks := s.toks + 1 }) : wpAny (model K.prog K.w) A (richCompare .Lt a b) Q E s := by
  rcases hi : cmpInfo CmpOp.Lt with ⟨sym, f, r⟩
  have hs : sym = "<" := by have := congrArg Prod.fst hi; exact this.symm
  subst hs
  rw [hi] at h1 h2
  simp only [richCompare, hi, ha.oneThing_none]
  try with_reducible refine wpAny_holding ?_
  refine wpAny_bind (wpAny_cRoomFor_or hr ?_)
  refine wpAny_bind (wpAny_typeOf ha (wpAny_bind (wpAny_typeOf hb ?_)))
  simp only [hne, if_true]
  refine wpAny_bind (wpAny_of_eq hsub ?_)
  simp only [Bool.false_eq_true, if_false, Bool.not_false, if_true]
  refine wpAny_bind (m := tryCompare a _ b) (wpAny_tryCompare_declines ha h1 (hc1 _ ⟨rfl, ?_⟩))
  refine wpAny_bind (m := tryCompare b _ a) (wpAny_tryCompare_declines hb h2 (hc2 _ ⟨rfl, ?_⟩))
  refine wpAny_bind (wpAny_rule (wpAny_bind (wpAny_typeNameOf' ha hna (wpAny_bind (wpAny_typeNameOf' hb hnb ?_)))))
  exact raise_made plainExc_TypeError hh hw h

theorem tuple_lt_none (l : Addr) (items : Array Value) (n : Nat) (dd : Option Addr) (sl : Array (Option Value)) :
    Meets (Builtin.«tuple.__lt__» ⟨[.ref l, .none], []⟩) (fun _ R s => s.heap.get? l = some { cls := .type "tuple", dict := dd, data := .seq items n, slots := sl } ∧ R (.ok (.ret .notImplemented)) s) :=
  .of_wp fun prog w A R s h => by obtain ⟨hp, g, d, tk, os⟩ := s; obtain ⟨hl, h⟩ := h; have f1 := F.sub_NoneType_tuple; wp_walk using wpAny_loadPart' hl; exact ⟨_, rfl, h⟩
theorem none_gt_ref (l : Addr) : Gives (Builtin.«NoneType.__gt__» ⟨[.none, .ref l], []⟩) (.val .notImplemented) :=
  .of_wp fun M A E s Q h => by obtain ⟨hp, g, d, tk, os⟩ := s; wp_walk; exact ⟨_, rfl, h⟩
theorem int_lt_str (i : Int) (t : Tok) (x : Str) (u : Tok) : Gives (Builtin.«int.__lt__» ⟨[.int i t, .str x u], []⟩) (.val .notImplemented) :=
  .of_wp fun M A E s Q h => by obtain ⟨hp, g, d, tk, os⟩ := s; wp_walk; exact ⟨_, rfl, h⟩
theorem int_gt_str (i : Int) (t : Tok) (x : Str) (u : Tok) : Gives (Builtin.«int.__gt__» ⟨[.int i t, .str x u], []⟩) (.val .notImplemented) :=
  .of_wp fun M A E s Q h => by obtain ⟨hp, g, d, tk, os⟩ := s; wp_walk; exact ⟨_, rfl, h⟩
theorem str_lt_int (i : Int) (t : Tok) (x : Str) (u : Tok) : Gives (Builtin.«str.__lt__» ⟨[.str x u, .int i t], []⟩) (.val .notImplemented) :=
  .of_wp fun M A E s Q h => by obtain ⟨hp, g, d, tk, os⟩ := s; wp_walk; exact ⟨_, rfl, h⟩
theorem str_gt_int (i : Int) (t : Tok) (x : Str) (u : Tok) : Gives (Builtin.«str.__gt__» ⟨[.str x u, .int i t], []⟩) (.val .notImplemented) :=
  .of_wp fun M A E s Q h => by obtain ⟨hp, g, d, tk, os⟩ := s; wp_walk; exact ⟨_, rfl, h⟩

/-- a < b is a TypeError that names x and y -/
noncomputable def TeAt (K : Glo) (A : Around) (s : Shared) (a b : Value) (x y : String) : Prop := ∀ (Q : Value → Shared → Prop) (E : Value → Shared → Prop),
  E (.ref (s.heap.objs.size + 1)) { s with heap := excHeap s.heap "TypeError" (Str.ofString (ltWords x y)) s.toks, toks := s.toks + 1 } → wpAny (model K.prog K.w) A (richCompare .Lt a b) Q E s
theorem teAt_tuple_none {l : Addr} {items : Array Value} (hh : A.handled = none) (hu : A.units < cLine) (hl : s.heap.IsTuple l items) : TeAt K A s (.ref l) .none "tuple" "NoneType" := by
  intro Q E h
  obtain ⟨⟨cls, dd, data, sl⟩, ho, hc, n, hd⟩ := id hl
  simp only at hc hd
  subst hc hd
  exact lt_declined hh ⟨_, ho, rfl⟩ rfl (by decide) F.sub_NoneType_tuple F.slot_tuple_lt F.slot_NoneType_gt_refl (by decide) (by decide)
    (fun _ hq => call_meets F.slot_tuple_lt ⟨_, ho, rfl⟩ F.entry_tuple_lt (F.args_tuple_lt_2 _ _) (tuple_lt_none l items n dd sl) ⟨ho, hq⟩)
    (fun _ hq => call_gives F.slot_NoneType_gt_refl rfl F.entry_NoneType_gt (F.args_NoneType_gt_2 _ _) (none_gt_ref l) hq) (.inr hu) (by decide +kernel) h
theorem teAt_int_str {i : Int} {t : Tok} {x : Str} {u : Tok} (hh : A.handled = none) : TeAt K A s (.int i t) (.str x u) "int" "str" := by
  intro Q E h
  exact lt_declined hh (typeIs_int s i t) (typeIs_str s x u) (by decide) F.sub_str_int F.slot_int_lt F.slot_str_gt_refl (by decide) (by decide)
    (fun _ hq => call_gives F.slot_int_lt (typeIs_int s i t) F.entry_int_lt (F.args_int_lt_2 _ _) (int_lt_str i t x u) hq)
    (fun _ hq => call_gives F.slot_str_gt_refl (typeIs_str s x u) F.entry_str_gt (F.args_str_gt_2 _ _) (str_gt_int i t x u) hq) (.inl rfl) (by decide +kernel) h
theorem teAt_str_int {i : Int} {t : Tok} {x : Str} {u : Tok} (hh : A.handled = none) : TeAt K A s (.str x u) (.int i t) "str" "int" := by
  intro Q E h
  exact lt_declined hh (typeIs_str s x u) (typeIs_int s i t) (by decide) F.sub_int_str F.slot_str_lt F.slot_int_gt_refl (by decide) (by decide)
    (fun _ hq => call_gives F.slot_str_lt (typeIs_str s x u) F.entry_str_lt (F.args_str_lt_2 _ _) (str_lt_int i t x u) hq)
    (fun _ hq => call_gives F.slot_int_gt_refl (typeIs_int s i t) F.entry_int_gt (F.args_int_gt_2 _ _) (int_gt_str i t x u) hq) (.inl rfl) (by decide +kernel) h
theorem teAt_reads {d d' : PyData} {a b : Value} {as bs : List Addr} {p : String × String} (hh : A.handled = none) (hu : A.units < cLine) (r1 : Reads s.heap a d as) (r2 : Reads s.heap b d' bs) (e : teD d d' = some p) :
    TeAt K A s a b p.1 p.2 := by
  cases d <;> cases d' <;> simp only [teD, reduceCtorEq, Option.some.injEq] at e
  all_goals subst e
  · cases r1; cases r2; exact teAt_int_str hh
  · cases r1; cases r2; exact teAt_str_int hh
  · cases r1 with
    | tuple hl hc hd _ => cases r2; exact teAt_tuple_none hh hu ⟨_, hl, hc, _, hd⟩
end

noncomputable def CmpOkX (K : Glo) (op : CmpOp) (f : V → V → M V) : Prop :=
  ∀ F : Frm, FOk F → F.nh = true → ∀ σ ρ s a b wa wb, Rel K F σ ρ s → Rep K s.heap ρ a wa → Rep K s.heap ρ b wb → Run K F (compareOp op wa wb) (Rep K) (f a b σ) ρ s
theorem cmp_ltX : CmpOkX K .Lt ltX := by
  intro F fk nh σ ρ s a b wa wb rel ra rb
  have h0 := cmp_lt F fk σ ρ s a b wa wb rel ra rb
  unfold ltX
  cases e : ltV a b σ with
  | ok v σ' => rw [e] at h0; exact h0
  | exc x σ' => rw [e] at h0; exact h0
  | stuck =>
    dsimp only
    unfold teX
    cases e1 : toD σ.st 6 a with
    | none => exact Run.stuck
    | some d =>
      cases e2 : toD σ.st 6 b with
      | none => exact Run.stuck
      | some d' =>
        obtain ⟨as, r1, c1, p1⟩ := toD_reads rel.toGRel 6 a wa d e1 ra
        obtain ⟨bs, r2, c2, p2⟩ := toD_reads rel.toGRel 6 b wb d' e2 rb
        dsimp only
        cases e3 : teD d d' with
        | none => exact Run.stuck
        | some p =>
          have hu := fk.units
          exact teAt_reads (fk.hd nh) (by (first | lia | omega)) r1 r2 e3 _ _ (x_made rel (by decide))
theorem simB_cmpX (fk : FOk F) {op : CmpOp} {f : V → V → M V} (ho : CmpOkX K op f) {tr : V → M Bool} (ht : TruOk K tr) {l r : Expr} {ml mr : M V} (pos : Pos) (hl : SimE K F l ml) (hr : SimE K F r mr)
    (hm : behindInMarks op r = false := by rfl) (hnh : F.nh = true := by rfl) :
    SimB K F (.Compare l [op] [r] pos) (do let a ← ml; let b ← mr; let c ← f a b; tr c) := by
  intro σ ρ s rel
  have e : isTrue (.Compare l [op] [r] pos) F.env (eval (.Compare l [op] [r] pos) F.env) = (do let left ← eval l F.env; let rv ← holding [left] (eval r F.env); standAt pos; let c ← operate [left, rv] (compareOp op left rv); holding [c] (truthy c)) := by
    rw [isTrue_Compare1]
    simp only [markedBehindIn_of_false hm]
  rw [e]
  refine Run.bind (hl σ ρ s rel) fun a σ₁ ρ₁ s₁ wa _ rel₁ x₁ ra => ?_
  refine Run.bind (Run.holding (hr σ₁ ρ₁ s₁ rel₁)) fun b σ₂ ρ₂ s₂ wb _ rel₂ x₂ rb => ?_
  refine Run.standAt (Run.bind (Run.operate (ho F fk hnh σ₂ ρ₂ s₂ a b wa wb rel₂ (ra.mono x₂) rb)) fun c σ₃ ρ₃ s₃ wc _ rel₃ x₃ rc => ?_)
  exact Run.holding (ht F fk σ₃ ρ₃ s₃ c wc rel₃ rc)
theorem ltX_ok {a b r : V} {σ σ' : S} (h : ltV a b σ = .ok r σ') : ltX a b σ = .ok r σ' := by unfold ltX; rw [h]
end

/-! part F33 -/
set_option autoImplicit false
set_option maxRecDepth 100000
set_option linter.unusedVariables false
open PySem PySem.W PyProof.Rows
section
variable {K : Glo} {F : Frm}
end

/-! part F34 -/
set_option autoImplicit false
set_option maxRecDepth 100000
set_option linter.unusedVariables false
open PySem PySem.W PyProof.Rows
section
variable {K : Glo} {F : Frm}
end

/-! part F35 -/
set_option autoImplicit false
set_option maxRecDepth 100000
set_option linter.unusedVariables false
open PySem PySem.W PyProof.Rows
section
variable {K : Glo} {F : Frm}
end

/-! part H1 -/
set_option autoImplicit false
set_option linter.unusedVariables false
section
/-! ### heaps, plain -/
section
variable {α : Type} [Inhabited α]

noncomputable def nth (vs : List α) (i : Nat) : α := vs[i]?.getD default
theorem nth_set_self {vs : List α} {i : Nat} {x : α} (h : i < vs.length) : nth (vs.set i x) i = x := by
  unfold nth; rw [List.getElem?_set_self h]; rfl
theorem nth_set_ne {vs : List α} {i j : Nat} {x : α} (h : i ≠ j) : nth (vs.set i x) j = nth vs j := by
  unfold nth; rw [List.getElem?_set_ne h]
theorem nth_eq {vs : List α} {i : Nat} (h : i < vs.length) : vs[i]? = some (nth vs i) := by
  unfold nth; rw [List.getElem?_eq_getElem h]; rfl
theorem nth_getElem {vs : List α} {i : Nat} (h : i < vs.length) : nth vs i = vs[i] := by
  unfold nth; rw [List.getElem?_eq_getElem h]; rfl
theorem nth_mem {vs : List α} {i : Nat} (h : i < vs.length) : nth vs i ∈ vs := by rw [nth_getElem h]; exact List.getElem_mem h

/-- the way up -/
noncomputable def sd (lt : α → α → Bool) (x : α) (start : Nat) (vs : List α) (pos : Nat) : List α :=
  if h : start < pos then
    if lt x (nth vs ((pos - 1) / 2)) = true then sd lt x start (vs.set pos (nth vs ((pos - 1) / 2))) ((pos - 1) / 2)
    else vs.set pos x
  else vs.set pos x
termination_by pos
decreasing_by (first | lia | omega)

/-- the way down to a leaf -/
noncomputable def kid (lt : α → α → Bool) (vs : List α) (pos : Nat) : Nat :=
  if 2 * pos + 2 < vs.length ∧ lt (nth vs (2 * pos + 1)) (nth vs (2 * pos + 2)) = false then 2 * pos + 2 else 2 * pos + 1
theorem kid_gt (lt : α → α → Bool) (vs : List α) (pos : Nat) : pos < kid lt vs pos := by unfold kid; split <;> (first | lia | omega)
theorem kid_lt {lt : α → α → Bool} {vs : List α} {pos : Nat} (h : 2 * pos + 1 < vs.length) : kid lt vs pos < vs.length := by unfold kid; split <;> (first | lia | omega)
theorem kid_par (lt : α → α → Bool) (vs : List α) (pos : Nat) : (kid lt vs pos - 1) / 2 = pos := by unfold kid; split <;> (first | lia | omega)

noncomputable def down (lt : α → α → Bool) (vs : List α) (pos : Nat) : List α × Nat :=
  if h : 2 * pos + 1 < vs.length then down lt (vs.set pos (nth vs (kid lt vs pos))) (kid lt vs pos) else (vs, pos)
termination_by vs.length - pos
decreasing_by
  have := kid_gt lt vs pos
  have := kid_lt (lt := lt) h
  simp only [List.length_set]; (first | lia | omega)

noncomputable def su (lt : α → α → Bool) (vs : List α) (pos : Nat) : List α :=
  sd lt (nth vs pos) pos ((down lt vs pos).1.set (down lt vs pos).2 (nth vs pos)) (down lt vs pos).2

/-- a weak order on the items P -/
structure SWO (P : α → Prop) (lt : α → α → Bool) : Prop where
  asymm : ∀ a b, P a → P b → lt a b = true → lt b a = false
  trans : ∀ a b c, P a → P b → P c → lt b a = false → lt c b = false → lt c a = false

/-! lengths and items -/
theorem sd_length (lt : α → α → Bool) (x : α) (start : Nat) : ∀ (pos : Nat) (vs : List α), (sd lt x start vs pos).length = vs.length := by
  intro pos
  induction pos using Nat.strongRecOn with
  | _ pos ih =>
    intro vs
    rw [sd]
    split
    · split
      · rw [ih _ (by (first | lia | omega))]; simp
      · simp
    · simp
theorem down_length (lt : α → α → Bool) : ∀ (k : Nat) (vs : List α) (pos : Nat), vs.length - pos ≤ k → (down lt vs pos).1.length = vs.length := by
  intro k
  induction k with
  | zero => intro vs pos h; rw [down, dif_neg (by (first | lia | omega))]
  | succ k ih =>
    intro vs pos h
    rw [down]
    split
    · rename_i hc
      have := kid_gt lt vs pos
      rw [ih _ _ (by simp; (first | lia | omega))]; simp
    · rfl
theorem down_pos_lt (lt : α → α → Bool) : ∀ (k : Nat) (vs : List α) (pos : Nat), vs.length - pos ≤ k → pos < vs.length → (down lt vs pos).2 < vs.length := by
  intro k
  induction k with
  | zero => intro vs pos h h2; (first | lia | omega)
  | succ k ih =>
    intro vs pos h h2
    rw [down]
    split
    · rename_i hc
      have h3 := kid_gt lt vs pos
      have h4 := kid_lt (lt := lt) hc
      have := ih (vs.set pos (nth vs (kid lt vs pos))) (kid lt vs pos) (by simp; (first | lia | omega)) (by simpa using h4)
      simpa using this
    · exact h2
theorem su_length (lt : α → α → Bool) (vs : List α) (pos : Nat) : (su lt vs pos).length = vs.length := by
  unfold su; rw [sd_length, List.length_set, down_length lt _ _ _ (Nat.le_refl _)]

theorem swap_perm {vs : List α} {i j : Nat} {x : α} (hi : i < vs.length) (hj : j < vs.length) (hne : i ≠ j) : ((vs.set i (nth vs j)).set j x).Perm (vs.set i x) := by
  have h := List.set_set_perm (as := vs.set i x) (i := i) (j := j) (by simpa using hi) (by simpa using hj)
  have e1 : (vs.set i x)[j]'(by simpa using hj) = nth vs j := by
    rw [List.getElem_set_ne hne, nth_getElem hj]
  have e2 : (vs.set i x)[i]'(by simpa using hi) = x := by rw [List.getElem_set_self]
  rw [e1, e2, List.set_set] at h
  exact h

theorem sd_perm (lt : α → α → Bool) (x : α) (start : Nat) : ∀ (pos : Nat) (vs : List α), pos < vs.length → (sd lt x start vs pos).Perm (vs.set pos x) := by
  intro pos
  induction pos using Nat.strongRecOn with
  | _ pos ih =>
    intro vs hp
    rw [sd]
    split
    · split
      · refine (ih _ (by (first | lia | omega)) _ (by simp; (first | lia | omega))).trans ?_
        exact swap_perm hp (by (first | lia | omega)) (by (first | lia | omega))
      · exact List.Perm.refl _
    · exact List.Perm.refl _
theorem down_perm (lt : α → α → Bool) (x : α) : ∀ (k : Nat) (vs : List α) (pos : Nat), vs.length - pos ≤ k → pos < vs.length → ((down lt vs pos).1.set (down lt vs pos).2 x).Perm (vs.set pos x) := by
  intro k
  induction k with
  | zero => intro vs pos h h2; (first | lia | omega)
  | succ k ih =>
    intro vs pos h h2
    rw [down]
    split
    · rename_i hc
      have h3 := kid_gt lt vs pos
      have h4 := kid_lt (lt := lt) hc
      exact (ih _ _ (by simp; (first | lia | omega)) (by simpa using h4)).trans (swap_perm h2 h4 (by (first | lia | omega)))
    · exact List.Perm.refl _
theorem set_nth {vs : List α} {i : Nat} : vs.set i (nth vs i) = vs := by
  by_cases h : i < vs.length
  · rw [nth_getElem h]; exact List.set_getElem_self h
  · exact List.set_eq_of_length_le (by (first | lia | omega))
theorem su_perm (lt : α → α → Bool) (vs : List α) (pos : Nat) (h : pos < vs.length) : (su lt vs pos).Perm vs := by
  unfold su
  have h1 := down_pos_lt lt _ vs pos (Nat.le_refl _) h
  have h2 := down_length lt _ vs pos (Nat.le_refl _)
  refine (sd_perm lt _ _ _ _ (by rw [List.length_set, h2]; exact h1)).trans ?_
  rw [List.set_set]
  refine (down_perm lt _ _ vs pos (Nat.le_refl _) h).trans ?_
  rw [set_nth]

/-! the order -/
noncomputable def HeapFrom (lt : α → α → Bool) (s : Nat) (vs : List α) : Prop := ∀ j, 0 < j → j < vs.length → s ≤ (j - 1) / 2 → lt (nth vs j) (nth vs ((j - 1) / 2)) = false

noncomputable def Desc (s p : Nat) : Prop := if h : s < p then Desc s ((p - 1) / 2) else p = s
termination_by p
decreasing_by (first | lia | omega)
theorem desc_iff (s p : Nat) : Desc s p ↔ p = s ∨ (s < p ∧ Desc s ((p - 1) / 2)) := by
  rw [Desc]
  split
  · rename_i h
    exact ⟨fun x => .inr ⟨h, x⟩, fun x => by
      rcases x with x | x
      · (first | lia | omega)
      · exact x.2⟩
  · rename_i h
    exact ⟨fun x => .inl x, fun x => by
      rcases x with x | x
      · exact x
      · exact absurd x.1 h⟩
theorem Desc.refl (s : Nat) : Desc s s := by rw [desc_iff]; exact .inl rfl
theorem Desc.up {s p : Nat} (h : Desc s p) (hlt : s < p) : Desc s ((p - 1) / 2) := by
  rw [desc_iff] at h; rcases h with h | h
  · (first | lia | omega)
  · exact h.2
theorem Desc.le {s p : Nat} (h : Desc s p) : s ≤ p := by
  rw [desc_iff] at h; rcases h with h | h <;> (first | lia | omega)
theorem Desc.kid {s p c : Nat} (h : Desc s p) (hc : (c - 1) / 2 = p) (hlt : p < c) : Desc s c := by
  rw [desc_iff]; right
  have := h.le
  exact ⟨by (first | lia | omega), by rw [hc]; exact h⟩

/-- a heap with a hole at pos -/
structure Hole (lt : α → α → Bool) (s : Nat) (vs : List α) (pos : Nat) : Prop where
  pair : ∀ j, 0 < j → j < vs.length → s ≤ (j - 1) / 2 → j ≠ pos → (j - 1) / 2 ≠ pos → lt (nth vs j) (nth vs ((j - 1) / 2)) = false
  skip : s < pos → ∀ j, 0 < j → j < vs.length → (j - 1) / 2 = pos → lt (nth vs j) (nth vs ((pos - 1) / 2)) = false
  desc : Desc s pos
  lt : pos < vs.length

theorem Hole.set {lt : α → α → Bool} {s : Nat} {vs : List α} {pos : Nat} (h : Hole lt s vs pos) (x : α) : Hole lt s (vs.set pos x) pos where
  pair := fun j h0 hl hs hj hp => by
    rw [List.length_set] at hl
    rw [nth_set_ne (Ne.symm hj), nth_set_ne (Ne.symm hp)]; exact h.pair j h0 hl hs hj hp
  skip := fun hs j h0 hl hp => by
    rw [List.length_set] at hl
    have := h.lt
    rw [nth_set_ne (by (first | lia | omega)), nth_set_ne (by (first | lia | omega))]; exact h.skip hs j h0 hl hp
  desc := h.desc
  lt := by rw [List.length_set]; exact h.lt

variable {P : α → Prop} {lt : α → α → Bool}

omit [Inhabited α] in
theorem all_set {vs : List α} {i : Nat} {x : α} (h : ∀ a ∈ vs, P a) (hx : P x) : ∀ a ∈ vs.set i x, P a := by
  intro a ha
  rcases List.mem_or_eq_of_mem_set ha with h1 | h1
  · exact h a h1
  · subst h1; exact hx

theorem sd_heap (O : SWO P lt) (x : α) (s : Nat) (hx : P x) : ∀ (pos : Nat) (vs : List α), (∀ a ∈ vs, P a) → Hole lt s vs pos → (∀ j, 0 < j → j < vs.length → (j - 1) / 2 = pos → lt (nth vs j) x = false) → HeapFrom lt s (sd lt x s vs pos) := by
  intro pos
  induction pos using Nat.strongRecOn with
  | _ pos ih =>
    intro vs hP hh hb
    have hpl := hh.lt
    rw [sd]
    split
    · rename_i hsp
      have hpar : s ≤ (pos - 1) / 2 := (hh.desc.up hsp).le
      have hpp : P (nth vs ((pos - 1) / 2)) := hP _ (nth_mem (by (first | lia | omega)))
      split
      · rename_i hlt
        refine ih _ (by (first | lia | omega)) _ (all_set hP hpp) ⟨?_, ?_, hh.desc.up hsp, by simp; (first | lia | omega)⟩ ?_
        · intro j h0 hl hs hj hp
          rw [List.length_set] at hl
          by_cases hjp : j = pos
          · subst hjp; exact absurd rfl hp
          · rw [nth_set_ne (Ne.symm hjp)]
            by_cases hp2 : (j - 1) / 2 = pos
            · rw [hp2, nth_set_self hpl]; exact hh.skip hsp j h0 hl hp2
            · rw [nth_set_ne (Ne.symm hp2)]; exact hh.pair j h0 hl hs hjp hp2
        · intro hs2 j h0 hl hp
          rw [List.length_set] at hl
          have hgp : s ≤ ((pos - 1) / 2 - 1) / 2 := ((hh.desc.up hsp).up hs2).le
          have hq : nth (vs.set pos (nth vs ((pos - 1) / 2))) (((pos - 1) / 2 - 1) / 2) = nth vs (((pos - 1) / 2 - 1) / 2) := nth_set_ne (by (first | lia | omega))
          rw [hq]
          have hpair := hh.pair ((pos - 1) / 2) (by (first | lia | omega)) (by (first | lia | omega)) hgp (by (first | lia | omega)) (by (first | lia | omega))
          by_cases hjp : j = pos
          · subst hjp; rw [nth_set_self hpl]; exact hpair
          · rw [nth_set_ne (Ne.symm hjp)]
            have h2 := hh.pair j h0 hl (by (first | lia | omega)) hjp (by (first | lia | omega))
            rw [hp] at h2
            exact O.trans _ _ _ (hP _ (nth_mem (by (first | lia | omega)))) hpp (hP _ (nth_mem hl)) hpair h2
        · intro j h0 hl hp
          rw [List.length_set] at hl
          by_cases hjp : j = pos
          · subst hjp; rw [nth_set_self hpl]; exact O.asymm _ _ hx hpp hlt
          · rw [nth_set_ne (Ne.symm hjp)]
            have h2 := hh.pair j h0 hl (by (first | lia | omega)) hjp (by (first | lia | omega))
            rw [hp] at h2
            exact O.trans _ _ _ hx hpp (hP _ (nth_mem hl)) (O.asymm _ _ hx hpp hlt) h2
      · rename_i hlt
        have hlt' : lt x (nth vs ((pos - 1) / 2)) = false := by simpa using hlt
        intro j h0 hl hs
        rw [List.length_set] at hl
        by_cases hjp : j = pos
        · subst hjp; rw [nth_set_self hpl, nth_set_ne (by (first | lia | omega))]; exact hlt'
        · rw [nth_set_ne (Ne.symm hjp)]
          by_cases hp2 : (j - 1) / 2 = pos
          · rw [hp2, nth_set_self hpl]; exact hb j h0 hl hp2
          · rw [nth_set_ne (Ne.symm hp2)]; exact hh.pair j h0 hl hs hjp hp2
    · rename_i hsp
      intro j h0 hl hs
      rw [List.length_set] at hl
      have hds := hh.desc.le
      by_cases hjp : j = pos
      · (first | lia | omega)
      · rw [nth_set_ne (Ne.symm hjp)]
        by_cases hp2 : (j - 1) / 2 = pos
        · rw [hp2, nth_set_self hpl]; exact hb j h0 hl hp2
        · rw [nth_set_ne (Ne.symm hp2)]; exact hh.pair j h0 hl hs hjp hp2

theorem kid_min (O : SWO P lt) {vs : List α} {pos j : Nat} (hP : ∀ a ∈ vs, P a) (hc : 2 * pos + 1 < vs.length) (h0 : 0 < j) (hl : j < vs.length) (hp : (j - 1) / 2 = pos) : lt (nth vs j) (nth vs (kid lt vs pos)) = false := by
  have refl : ∀ a, P a → lt a a = false := fun a ha => by
    cases e : lt a a with
    | false => rfl
    | true => have := O.asymm a a ha ha e; rw [e] at this; cases this
  unfold kid
  split
  · rename_i h
    rcases (show j = 2 * pos + 1 ∨ j = 2 * pos + 2 by (first | lia | omega)) with rfl | rfl
    · exact h.2
    · exact refl _ (hP _ (nth_mem hl))
  · rename_i h
    rcases (show j = 2 * pos + 1 ∨ j = 2 * pos + 2 by (first | lia | omega)) with rfl | rfl
    · exact refl _ (hP _ (nth_mem hl))
    · have : lt (nth vs (2 * pos + 1)) (nth vs (2 * pos + 2)) = true := by
        cases e : lt (nth vs (2 * pos + 1)) (nth vs (2 * pos + 2)) with
        | true => rfl
        | false => exact absurd ⟨hl, e⟩ h
      exact O.asymm _ _ (hP _ (nth_mem hc)) (hP _ (nth_mem hl)) this

theorem down_hole (O : SWO P lt) (s : Nat) : ∀ (k : Nat) (vs : List α) (pos : Nat), vs.length - pos ≤ k → (∀ a ∈ vs, P a) → Hole lt s vs pos →
    Hole lt s (down lt vs pos).1 (down lt vs pos).2 ∧ (∀ a ∈ (down lt vs pos).1, P a) ∧ ¬ 2 * (down lt vs pos).2 + 1 < (down lt vs pos).1.length := by
  intro k
  induction k with
  | zero => intro vs pos h hP hh; have := hh.lt; (first | lia | omega)
  | succ k ih =>
    intro vs pos h hP hh
    rw [down]
    split
    · rename_i hc
      have h3 := kid_gt lt vs pos
      have h4 := kid_lt (lt := lt) hc
      have h5 := kid_par lt vs pos
      have hpl := hh.lt
      have hds := hh.desc.le
      refine ih _ _ (by simp; (first | lia | omega)) (all_set hP (hP _ (nth_mem h4))) ⟨?_, ?_, hh.desc.kid h5 h3, by simpa using h4⟩
      · intro j h0 hl hs hj hp
        rw [List.length_set] at hl
        by_cases hjp : j = pos
        · subst hjp
          rw [nth_set_self hpl, nth_set_ne (by (first | lia | omega))]
          exact hh.skip (by (first | lia | omega)) _ (by (first | lia | omega)) h4 h5
        · rw [nth_set_ne (Ne.symm hjp)]
          by_cases hp2 : (j - 1) / 2 = pos
          · rw [hp2, nth_set_self hpl]; exact kid_min O hP hc h0 hl hp2
          · rw [nth_set_ne (Ne.symm hp2)]; exact hh.pair j h0 hl hs hjp hp2
      · intro hs2 j h0 hl hp
        rw [List.length_set] at hl
        rw [h5, nth_set_self hpl, nth_set_ne (by (first | lia | omega))]
        have := hh.pair j h0 hl (by (first | lia | omega)) (by (first | lia | omega)) (by (first | lia | omega))
        rw [hp] at this; exact this
    · rename_i hc
      exact ⟨hh, hP, hc⟩

theorem su_heap (O : SWO P lt) (vs : List α) (pos : Nat) (hP : ∀ a ∈ vs, P a) (hl : pos < vs.length) (hh : HeapFrom lt (pos + 1) vs) : HeapFrom lt pos (su lt vs pos) := by
  have h0 : Hole lt pos vs pos := ⟨fun j h0 hl hs hj hp => hh j h0 hl (by (first | lia | omega)), fun h => by (first | lia | omega), Desc.refl _, hl⟩
  obtain ⟨h1, h2, h3⟩ := down_hole O pos _ vs pos (Nat.le_refl _) hP h0
  unfold su
  have hx : P (nth vs pos) := hP _ (nth_mem hl)
  refine sd_heap O _ _ hx _ _ (all_set h2 hx) (h1.set _) ?_
  intro j hj hjl hjp
  rw [List.length_set] at hjl
  (first | lia | omega)

noncomputable def hpfy (lt : α → α → Bool) : Nat → List α → List α
  | 0, vs => vs
  | k + 1, vs => hpfy lt k (su lt vs k)
theorem hpfy_perm (lt : α → α → Bool) : ∀ (k : Nat) (vs : List α), k ≤ vs.length → (hpfy lt k vs).Perm vs
  | 0, vs, _ => List.Perm.refl _
  | k + 1, vs, h => (hpfy_perm lt k _ (by rw [su_length]; (first | lia | omega))).trans (su_perm lt vs k (by (first | lia | omega)))
theorem hpfy_heap (O : SWO P lt) : ∀ (k : Nat) (vs : List α), k ≤ vs.length → (∀ a ∈ vs, P a) → HeapFrom lt k vs → HeapFrom lt 0 (hpfy lt k vs)
  | 0, vs, _, _, h => h
  | k + 1, vs, hk, hP, h => hpfy_heap O k _ (by rw [su_length]; (first | lia | omega)) (fun a ha => hP a ((su_perm lt vs k (by (first | lia | omega))).mem_iff.mp ha)) (su_heap O vs k hP (by (first | lia | omega)) h)
theorem heapFrom_half (lt : α → α → Bool) (vs : List α) : HeapFrom lt (vs.length / 2) vs := by
  intro j h0 hl hs; (first | lia | omega)

theorem heap_min (O : SWO P lt) {vs : List α} (hP : ∀ a ∈ vs, P a) (hh : HeapFrom lt 0 vs) : ∀ j, j < vs.length → lt (nth vs j) (nth vs 0) = false := by
  intro j
  induction j using Nat.strongRecOn with
  | _ j ih =>
    intro hl
    by_cases h0 : j = 0
    · subst h0
      cases e : lt (nth vs 0) (nth vs 0) with
      | false => rfl
      | true => have := O.asymm _ _ (hP _ (nth_mem hl)) (hP _ (nth_mem hl)) e; rw [e] at this; cases this
    · have h1 := ih ((j - 1) / 2) (by (first | lia | omega)) (by (first | lia | omega))
      have h2 := hh j (by (first | lia | omega)) hl (by (first | lia | omega))
      exact O.trans _ _ _ (hP _ (nth_mem (by (first | lia | omega)))) (hP _ (nth_mem (by (first | lia | omega)))) (hP _ (nth_mem hl)) h1 h2

/-- push -/
noncomputable def hpush (lt : α → α → Bool) (vs : List α) (x : α) : List α := sd lt x 0 (vs ++ [x]) vs.length
theorem hpush_perm (lt : α → α → Bool) (vs : List α) (x : α) : (hpush lt vs x).Perm (vs ++ [x]) := by
  unfold hpush
  refine (sd_perm lt x 0 _ _ (by simp)).trans ?_
  have e : (vs ++ [x]).set vs.length x = vs ++ [x] := by
    have : nth (vs ++ [x]) vs.length = x := by unfold nth; simp
    conv => lhs; rw [← this]
    rw [this]
    have := set_nth (vs := vs ++ [x]) (i := vs.length)
    rwa [‹nth (vs ++ [x]) vs.length = x›] at this
  rw [e]
theorem desc_zero : ∀ p : Nat, Desc 0 p := by
  intro p
  induction p using Nat.strongRecOn with
  | _ p ih =>
    rw [desc_iff]
    by_cases h : p = 0
    · exact .inl h
    · exact .inr ⟨by (first | lia | omega), ih _ (by (first | lia | omega))⟩
theorem nth_append_left {vs ws : List α} {i : Nat} (h : i < vs.length) : nth (vs ++ ws) i = nth vs i := by
  unfold nth; rw [List.getElem?_append_left h]
theorem hpush_heap (O : SWO P lt) {vs : List α} {x : α} (hP : ∀ a ∈ vs, P a) (hx : P x) (hh : HeapFrom lt 0 vs) : HeapFrom lt 0 (hpush lt vs x) := by
  unfold hpush
  refine sd_heap O x 0 hx _ _ ?_ ⟨?_, ?_, desc_zero _, by simp⟩ ?_
  · intro a ha
    rcases List.mem_append.mp ha with h | h
    · exact hP a h
    · rw [List.mem_singleton.mp h]; exact hx
  · intro j h0 hl hs hj hp
    have hl' : j < vs.length := by simp at hl; (first | lia | omega)
    rw [nth_append_left hl', nth_append_left (by (first | lia | omega))]
    exact hh j h0 hl' hs
  · intro h j h0 hl hp
    simp at hl; (first | lia | omega)
  · intro j h0 hl hp
    simp at hl; (first | lia | omega)

/-- pop -/
noncomputable def hpop (lt : α → α → Bool) (vs : List α) : α × List α :=
  if vs.length ≤ 1 then (nth vs 0, []) else (nth vs 0, su lt ((vs.eraseIdx (vs.length - 1)).set 0 (nth vs (vs.length - 1))) 0)
theorem eraseLast_append {vs : List α} (h : 0 < vs.length) : vs.eraseIdx (vs.length - 1) ++ [nth vs (vs.length - 1)] = vs := by
  rw [List.eraseIdx_eq_take_drop_succ, List.drop_eq_nil_of_le (by (first | lia | omega)), List.append_nil, nth_getElem (by (first | lia | omega))]
  have := List.take_append_getElem (l := vs) (i := vs.length - 1) (by (first | lia | omega))
  rw [this, List.take_of_length_le (by (first | lia | omega))]
theorem hpop_perm (lt : α → α → Bool) {vs : List α} (h : 0 < vs.length) : ((hpop lt vs).1 :: (hpop lt vs).2).Perm vs := by
  unfold hpop
  split
  · rename_i h1
    match vs, h with
    | [a], _ => exact List.Perm.refl _
    | _ :: _ :: _, _ => simp at h1
  · rename_i h1
    have hlen : (vs.eraseIdx (vs.length - 1)).length = vs.length - 1 := by rw [List.length_eraseIdx]; simp; (first | lia | omega)
    dsimp only
    refine (List.Perm.cons _ (su_perm lt _ 0 (by rw [List.length_set]; (first | lia | omega)))).trans ?_
    have h2 := eraseLast_append h
    generalize hL : nth vs (vs.length - 1) = lst at h2 ⊢
    generalize hE : vs.eraseIdx (vs.length - 1) = es at h2 hlen ⊢
    have h3 : nth vs 0 = nth es 0 := by rw [← h2, nth_append_left (by (first | lia | omega))]
    rw [h3, ← h2]
    match es, hlen with
    | [], hlen => simp at hlen; (first | lia | omega)
    | e :: es, _ =>
      show (e :: lst :: es).Perm (e :: es ++ [lst])
      exact List.Perm.cons _ (List.perm_append_singleton lst es).symm
theorem hpop_heap (O : SWO P lt) {vs : List α} (hP : ∀ a ∈ vs, P a) (h : 0 < vs.length) (hh : HeapFrom lt 0 vs) : HeapFrom lt 0 (hpop lt vs).2 := by
  unfold hpop
  split
  · intro j h0 hl; simp at hl
  · rename_i h1
    have hlen : (vs.eraseIdx (vs.length - 1)).length = vs.length - 1 := by rw [List.length_eraseIdx]; simp; (first | lia | omega)
    dsimp only
    have h2 := eraseLast_append h
    have hn : ∀ j, j < vs.length - 1 → nth (vs.eraseIdx (vs.length - 1)) j = nth vs j := by
      intro j hj
      conv => rhs; rw [← h2]
      rw [nth_append_left (by (first | lia | omega))]
    refine su_heap O _ 0 (all_set (fun a ha => hP a ?_) (hP _ (nth_mem (by (first | lia | omega))))) (by rw [List.length_set]; (first | lia | omega)) ?_
    · exact List.mem_of_mem_eraseIdx ha
    · intro j h0 hl hs
      rw [List.length_set, hlen] at hl
      rw [nth_set_ne (by (first | lia | omega)), nth_set_ne (by (first | lia | omega)), hn j hl, hn _ (by (first | lia | omega))]
      exact hh j h0 (by (first | lia | omega)) (by (first | lia | omega))
theorem hpop_min (O : SWO P lt) {vs : List α} (hP : ∀ a ∈ vs, P a) (hh : HeapFrom lt 0 vs) : ∀ a ∈ vs, lt a (hpop lt vs).1 = false := by
  intro a ha
  obtain ⟨j, hj, rfl⟩ := List.mem_iff_getElem.mp ha
  have : (hpop lt vs).1 = nth vs 0 := by unfold hpop; split <;> rfl
  rw [this, ← nth_getElem hj]
  exact heap_min O hP hh j hj
end

end

/-! part Q1 -/
set_option autoImplicit false
set_option maxRecDepth 100000
set_option linter.unusedVariables false
open PySem PySem.W PyProof.Rows
section
/-! _siftdown -/
noncomputable def siftdown_w1_c : M Bool := (do let a ← (getv "pos"); let b ← (getv "startpos"); let c ← gtV a b; truV c)
noncomputable def siftdown_w1_b : M Fl := (seqM (do let v ← (do let a ← (do let a ← (getv "pos"); let b ← (pure (V.int 1) : M V); subV a b); let b ← (pure (V.int 1) : M V); shrV a b); (fun v => setv "parentpos" v) v; pure .next : M Fl) (seqM (do let v ← (do let o ← (getv "heap"); let i ← (getv "parentpos"); getI o i); (fun v => setv "parent" v) v; pure .next : M Fl) (seqM (do if (← (do let a ← (getv "newitem"); let b ← (getv "parent"); let c ← ltX a b; truV c)) = true then (seqM (do let v ← (getv "parent"); (fun v => do let a ← (getv "heap"); let b ← (getv "pos"); setI a b v) v; pure .next : M Fl) (seqM (do let v ← (getv "parentpos"); (fun v => setv "pos" v) v; pure .next : M Fl) (pure .cont : M Fl))) else (pure .next : M Fl) : M Fl) (pure .brk : M Fl))))
noncomputable def siftdown_m : M Fl := (seqM (do let v ← (do let o ← (getv "heap"); let i ← (getv "pos"); getI o i); (fun v => setv "newitem" v) v; pure .next : M Fl) (seqM (whileM siftdown_w1_c siftdown_w1_b 4096) (do let v ← (getv "newitem"); (fun v => do let a ← (getv "heap"); let b ← (getv "pos"); setI a b v) v; pure .next : M Fl)))
noncomputable def f_siftdown : Fun := funM ["heap", "startpos", "pos"] siftdown_m

/-! heappush -/
noncomputable def heappush_m : M Fl := (seqM (do let _ ← (do let ov ← (getv "heap"); chkL ov; let vs ← (do let v ← (getv "item"); let vs ← (pure [] : M (List V)); pure (v :: vs)); appendG ov vs); pure .next : M Fl) (do let _ ← (do let vs ← (do let v ← (getv "heap"); let vs ← (do let v ← (pure (V.int 0) : M V); let vs ← (do let v ← (do let a ← (do let vs ← (do let v ← (getv "heap"); let vs ← (pure [] : M (List V)); pure (v :: vs)); lenB vs); let b ← (pure (V.int 1) : M V); subV a b); let vs ← (pure [] : M (List V)); pure (v :: vs)); pure (v :: vs)); pure (v :: vs)); callF f_siftdown vs); pure .next : M Fl))
noncomputable def f_heappush : Fun := funM ["heap", "item"] heappush_m

/-! _siftup -/
noncomputable def siftup_w1_c : M Bool := (do let a ← (getv "childpos"); let b ← (getv "endpos"); let c ← ltV a b; truV c)
noncomputable def siftup_w1_b : M Fl := (seqM (do let v ← (do let a ← (getv "childpos"); let b ← (pure (V.int 1) : M V); addV a b); (fun v => setv "rightpos" v) v; pure .next : M Fl) (seqM (do if (← (do if (← (do let a ← (getv "rightpos"); let b ← (getv "endpos"); let c ← ltV a b; truV c)) = true then (do if (← (do let b ← (do let a ← (do let o ← (getv "heap"); let i ← (getv "childpos"); getI o i); let b ← (do let o ← (getv "heap"); let i ← (getv "rightpos"); getI o i); let c ← ltX a b; truV c); pure (!b))) = true then (pure true : M Bool) else pure false) else pure false)) = true then (do let v ← (getv "rightpos"); (fun v => setv "childpos" v) v; pure .next : M Fl) else (pure .next : M Fl) : M Fl) (seqM (do let v ← (do let o ← (getv "heap"); let i ← (getv "childpos"); getI o i); (fun v => do let a ← (getv "heap"); let b ← (getv "pos"); setI a b v) v; pure .next : M Fl) (seqM (do let v ← (getv "childpos"); (fun v => setv "pos" v) v; pure .next : M Fl) (do let v ← (do let a ← (do let a ← (pure (V.int 2) : M V); let b ← (getv "pos"); mulV a b); let b ← (pure (V.int 1) : M V); addV a b); (fun v => setv "childpos" v) v; pure .next : M Fl)))))
noncomputable def siftup_m : M Fl := (seqM (do let v ← (do let vs ← (do let v ← (getv "heap"); let vs ← (pure [] : M (List V)); pure (v :: vs)); lenB vs); (fun v => setv "endpos" v) v; pure .next : M Fl) (seqM (do let v ← (getv "pos"); (fun v => setv "startpos" v) v; pure .next : M Fl) (seqM (do let v ← (do let o ← (getv "heap"); let i ← (getv "pos"); getI o i); (fun v => setv "newitem" v) v; pure .next : M Fl) (seqM (do let v ← (do let a ← (do let a ← (pure (V.int 2) : M V); let b ← (getv "pos"); mulV a b); let b ← (pure (V.int 1) : M V); addV a b); (fun v => setv "childpos" v) v; pure .next : M Fl) (seqM (whileM siftup_w1_c siftup_w1_b 4096) (seqM (do let v ← (getv "newitem"); (fun v => do let a ← (getv "heap"); let b ← (getv "pos"); setI a b v) v; pure .next : M Fl) (do let _ ← (do let vs ← (do let v ← (getv "heap"); let vs ← (do let v ← (getv "startpos"); let vs ← (do let v ← (getv "pos"); let vs ← (pure [] : M (List V)); pure (v :: vs)); pure (v :: vs)); pure (v :: vs)); callF f_siftdown vs); pure .next : M Fl)))))))
noncomputable def f_siftup : Fun := funM ["heap", "pos"] siftup_m

/-! heappop -/
noncomputable def heappop_m : M Fl := (seqM (do let v ← (do let ov ← (getv "heap"); chkL ov; let vs ← (pure [] : M (List V)); popG ov vs); (fun v => setv "lastelt" v) v; pure .next : M Fl) (seqM (do if (← (do let v ← (getv "heap"); truV v)) = true then (seqM (do let v ← (do let o ← (getv "heap"); let i ← (pure (V.int 0) : M V); getI o i); (fun v => setv "returnitem" v) v; pure .next : M Fl) (seqM (do let v ← (getv "lastelt"); (fun v => do let a ← (getv "heap"); let b ← (pure (V.int 0) : M V); setI a b v) v; pure .next : M Fl) (seqM (do let _ ← (do let vs ← (do let v ← (getv "heap"); let vs ← (do let v ← (pure (V.int 0) : M V); let vs ← (pure [] : M (List V)); pure (v :: vs)); pure (v :: vs)); callF f_siftup vs); pure .next : M Fl) (do let v ← (getv "returnitem"); pure (.ret v) : M Fl)))) else (pure .next : M Fl) : M Fl) (do let v ← (getv "lastelt"); pure (.ret v) : M Fl)))
noncomputable def f_heappop : Fun := funM ["heap"] heappop_m

/-! heapreplace -/
noncomputable def heapreplace_m : M Fl := (seqM (do let v ← (do let o ← (getv "heap"); let i ← (pure (V.int 0) : M V); getIX o i); (fun v => setv "returnitem" v) v; pure .next : M Fl) (seqM (do let v ← (getv "item"); (fun v => do let a ← (getv "heap"); let b ← (pure (V.int 0) : M V); setI a b v) v; pure .next : M Fl) (seqM (do let _ ← (do let vs ← (do let v ← (getv "heap"); let vs ← (do let v ← (pure (V.int 0) : M V); let vs ← (pure [] : M (List V)); pure (v :: vs)); pure (v :: vs)); callF f_siftup vs); pure .next : M Fl) (do let v ← (getv "returnitem"); pure (.ret v) : M Fl))))
noncomputable def f_heapreplace : Fun := funM ["heap", "item"] heapreplace_m

/-! heappushpop -/
noncomputable def heappushpop_m : M Fl := (seqM (do if (← (do if (← (do let v ← (getv "heap"); truV v)) = true then (do if (← (do let a ← (do let o ← (getv "heap"); let i ← (pure (V.int 0) : M V); getI o i); let b ← (getv "item"); let c ← ltX a b; truV c)) = true then (pure true : M Bool) else pure false) else pure false)) = true then (seqM (do let v ← (do let vs ← (do let v ← (do let o ← (getv "heap"); let i ← (pure (V.int 0) : M V); getI o i); let vs ← (do let v ← (getv "item"); let vs ← (pure [] : M (List V)); pure (v :: vs)); pure (v :: vs)); mkT vs); (unpackT 2 (consT (fun v => setv "item" v) (consT (fun v => do let a ← (getv "heap"); let b ← (pure (V.int 0) : M V); setI a b v) (fun _ => pure ())))) v; pure .next : M Fl) (do let _ ← (do let vs ← (do let v ← (getv "heap"); let vs ← (do let v ← (pure (V.int 0) : M V); let vs ← (pure [] : M (List V)); pure (v :: vs)); pure (v :: vs)); callF f_siftup vs); pure .next : M Fl)) else (pure .next : M Fl) : M Fl) (do let v ← (getv "item"); pure (.ret v) : M Fl))
noncomputable def f_heappushpop : Fun := funM ["heap", "item"] heappushpop_m

/-! heapify -/
noncomputable def heapify_l1_t : V → M Unit := (fun v => setv "i" v)
noncomputable def heapify_l1_b : M Fl := (do let _ ← (do let vs ← (do let v ← (getv "x"); let vs ← (do let v ← (getv "i"); let vs ← (pure [] : M (List V)); pure (v :: vs)); pure (v :: vs)); callF f_siftup vs); pure .next : M Fl)
noncomputable def heapify_m : M Fl := (seqM (do let v ← (do let vs ← (do let v ← (getv "x"); let vs ← (pure [] : M (List V)); pure (v :: vs)); lenB vs); (fun v => setv "n" v) v; pure .next : M Fl) (do let v ← (do let vs ← (do let v ← (do let a ← (getv "n"); let b ← (pure (V.int 2) : M V); fdivV a b); let vs ← (pure [] : M (List V)); pure (v :: vs)); rangeB vs); let r ← revR v; forG (nxtOf r) heapify_l1_t heapify_l1_b 4096 0))
noncomputable def f_heapify : Fun := funM ["x"] heapify_m

end

/-! part H2 -/
set_option autoImplicit false
set_option maxRecDepth 100000
set_option linter.unusedVariables false
open PySem PySem.W PyProof.Rows
section
/-! ### what M-programs do -/
noncomputable def MW {α : Type} (m : M α) (σ : S) (Q : α → S → Prop) : Prop := ∃ a σ', m σ = .ok a σ' ∧ Q a σ'
section
variable {α β : Type} {σ : S}
theorem MW.mono {m : M α} {Q Q' : α → S → Prop} (h : MW m σ Q) (k : ∀ a σ', Q a σ' → Q' a σ') : MW m σ Q' := by
  obtain ⟨a, σ', e, q⟩ := h; exact ⟨a, σ', e, k _ _ q⟩
theorem MW_fun_ok {m : S → Res S α} {Q : α → S → Prop} {a : α} {σ' : S} (e : m σ = .ok a σ') : MW m σ Q ↔ Q a σ' := by
  constructor
  · rintro ⟨a', σ'', e', q⟩; rw [e] at e'; cases e'; exact q
  · exact fun q => ⟨a, σ', e, q⟩
theorem MW_pure {a : α} {Q : α → S → Prop} : MW (pure a : M α) σ Q ↔ Q a σ := MW_fun_ok rfl
theorem MW_bind {m : M α} {f : α → M β} {Q : β → S → Prop} : MW (m >>= f) σ Q ↔ MW m σ (fun a σ' => MW (f a) σ' Q) := by
  constructor
  · rintro ⟨b, σ', e, q⟩
    rw [M.bind_def] at e
    cases em : m σ with
    | ok a σ₁ => rw [em] at e; exact ⟨a, σ₁, em, b, σ', e, q⟩
    | exc x y => rw [em] at e; cases e
    | stuck => rw [em] at e; cases e
  · rintro ⟨a, σ₁, em, b, σ', e, q⟩
    exact ⟨b, σ', by rw [M.bind_def, em]; exact e, q⟩
theorem MW_seq {a b : M Fl} {Q : Fl → S → Prop} : MW (seqM a b) σ Q ↔ MW a σ (fun f σ' => match f with | .next => MW b σ' Q | .brk => Q .brk σ' | .cont => Q .cont σ' | .ret v => Q (.ret v) σ') := by
  unfold seqM
  rw [MW_bind]
  constructor
  · rintro ⟨f, σ', e, q⟩
    refine ⟨f, σ', e, ?_⟩
    cases f <;> first | exact q | exact MW_pure.mp q
  · rintro ⟨f, σ', e, q⟩
    refine ⟨f, σ', e, ?_⟩
    cases f <;> first | exact q | exact MW_pure.mpr q
theorem MW_getv {x : String} {Q : V → S → Prop} : MW (getv x) σ Q ↔ ∃ v, σ.lo x = some v ∧ Q v σ := by
  constructor
  · rintro ⟨a, σ', e, q⟩
    unfold getv at e
    cases h : σ.lo x with
    | none => rw [h] at e; cases e
    | some v => rw [h] at e; cases e; exact ⟨_, rfl, q⟩
  · rintro ⟨v, e, q⟩
    exact ⟨v, σ, by unfold getv; rw [e], q⟩
theorem MW_setv {x : String} {v : V} {Q : Unit → S → Prop} : MW (setv x v) σ Q ↔ Q () (σ.put x v) := MW_fun_ok rfl
theorem MW_tru {b : Bool} {Q : Bool → S → Prop} : MW (truV (.bool b)) σ Q ↔ Q b σ := MW_fun_ok rfl
theorem MW_lt_int {a b : Int} {Q : V → S → Prop} : MW (ltV (.int a) (.int b)) σ Q ↔ Q (.bool (decide (a < b))) σ := by
  refine MW_fun_ok ?_
  unfold ltV
  simp only [toD, ltD]
theorem MW_shr {a : Int} {Q : V → S → Prop} : MW (shrV (.int a) (.int 1)) σ Q ↔ 0 ≤ a ∧ Q (.int (a / 2)) σ := by
  by_cases h : 0 ≤ a
  · rw [MW_fun_ok (a := .int (a / 2)) (σ' := σ) (by simp [shrV, h])]; simp [h]
  · constructor
    · rintro ⟨_, _, e, _⟩; simp [shrV, h] at e
    · exact fun q => absurd q.1 h
theorem MW_mul {a b : Int} {Q : V → S → Prop} : MW (mulV (.int a) (.int b)) σ Q ↔ (-1000000000 < a ∧ a < 1000000000) ∧ Q (.int (a * b)) σ := by
  by_cases h : -1000000000 < a ∧ a < 1000000000
  · rw [MW_fun_ok (a := .int (a * b)) (σ' := σ) (by simp only [mulV, if_pos h])]; simp [h]
  · constructor
    · rintro ⟨_, _, e, _⟩; simp only [mulV, if_neg h] at e; cases e
    · exact fun q => absurd q.1 h
theorem MW_fdiv {a b : Int} {Q : V → S → Prop} : MW (fdivV (.int a) (.int b)) σ Q ↔ (0 < b ∧ b < 1000000000) ∧ Q (.int (a / b)) σ := by
  by_cases h : 0 < b ∧ b < 1000000000
  · rw [MW_fun_ok (a := .int (a / b)) (σ' := σ) (by simp only [fdivV, if_pos h])]; simp [h]
  · constructor
    · rintro ⟨_, _, e, _⟩; simp only [fdivV, if_neg h] at e; cases e
    · exact fun q => absurd q.1 h
theorem MW_fmod {a b : Int} {Q : V → S → Prop} : MW (fmodV (.int a) (.int b)) σ Q ↔ (0 < b ∧ b < 1000000000) ∧ Q (.int (a % b)) σ := by
  by_cases h : 0 < b ∧ b < 1000000000
  · rw [MW_fun_ok (a := .int (a % b)) (σ' := σ) (by simp only [fmodV, if_pos h])]; simp [h]
  · constructor
    · rintro ⟨_, _, e, _⟩; simp only [fmodV, if_neg h] at e; cases e
    · exact fun q => absurd q.1 h
theorem ix_nat {n j : Nat} : ix n (j : Int) = if j < n then some j else none := by
  unfold ix; rw [if_pos (by (first | lia | omega))]; simp
theorem MW_getI {l : Nat} {k : Int} {vs : List V} {j : Nat} {v : V} {Q : V → S → Prop} (h : σ.st[l]? = some (.lst vs)) (hk : ix vs.length k = some j) (hv : vs[j]? = some v) : MW (getI (.obj l) (.int k)) σ Q ↔ Q v σ := by
  refine MW_fun_ok ?_
  simp only [getI, h, hk, hv]
theorem MW_setI {l : Nat} {k : Int} {vs : List V} {v : V} {j : Nat} {Q : Unit → S → Prop} (h : σ.st[l]? = some (.lst vs)) (hl : l ≠ 0) (hk : k = j) (hj : j < vs.length) :
    MW (setI (.obj l) (.int k) v) σ Q ↔ Q () { σ with st := σ.st.set l (.lst (vs.set j v)) } := by
  refine MW_fun_ok ?_
  subst hk
  simp [setI, h, hl, hj]
theorem MW_len {l : Nat} {vs : List V} {Q : V → S → Prop} (h : σ.st[l]? = some (.lst vs)) : MW (lenB [.obj l]) σ Q ↔ Q (.int vs.length) σ := by
  refine MW_fun_ok ?_
  simp only [lenB, h]
theorem MW_truL {l : Nat} {vs : List V} {Q : Bool → S → Prop} (h : σ.st[l]? = some (.lst vs)) : MW (truV (.obj l)) σ Q ↔ Q (!vs.isEmpty) σ := by
  refine MW_fun_ok ?_
  simp only [truV, h]
theorem MW_chkL {l : Nat} {vs : List V} {Q : Unit → S → Prop} (h : σ.st[l]? = some (.lst vs)) : MW (chkL (.obj l)) σ Q ↔ Q () σ := MW_fun_ok (chkL_ok h)
theorem MW_append {l : Nat} {vs : List V} {v : V} {Q : V → S → Prop} (h : σ.st[l]? = some (.lst vs)) (hl : l ≠ 0) (hn : vs.length < 1000000) : MW (appendG (.obj l) [v]) σ Q ↔ Q .none { σ with st := σ.st.set l (.lst (vs ++ [v])) } := by
  refine MW_fun_ok ?_
  simp [appendG, h, hl, hn]
theorem MW_pop {l : Nat} {vs : List V} {v : V} {Q : V → S → Prop} (h : σ.st[l]? = some (.lst vs)) (hl : l ≠ 0) (hv : vs[vs.length - 1]? = some v) : MW (popG (.obj l) []) σ Q ↔ Q v { σ with st := σ.st.set l (.lst (vs.eraseIdx (vs.length - 1))) } := by
  refine MW_fun_ok ?_
  simp only [popG, if_neg hl, h, hv]
theorem MW_popAt {l : Nat} {vs : List V} {k : Int} {j : Nat} {v : V} {Q : V → S → Prop} (h : σ.st[l]? = some (.lst vs)) (hl : l ≠ 0) (hk : ix vs.length k = some j) (hv : vs[j]? = some v) : MW (popG (.obj l) [.int k]) σ Q ↔ Q v { σ with st := σ.st.set l (.lst (vs.eraseIdx j)) } := by
  refine MW_fun_ok ?_
  simp only [popG, if_neg hl, h, hk, hv]
theorem MW_newL {vs : List V} {Q : V → S → Prop} (hn : vs.length ≤ 1000000) : MW (newL vs) σ Q ↔ Q (.obj σ.st.length) { σ with st := σ.st ++ [.lst vs] } := by
  refine MW_fun_ok ?_
  simp only [newL, if_pos hn]
theorem MW_mkT {vs : List V} {Q : V → S → Prop} (hn : vs.length ≤ 1000000) : MW (mkT vs) σ Q ↔ Q (.tup vs) σ := by
  refine MW_fun_ok ?_
  simp only [mkT, if_pos hn]
theorem MW_callF {g : Fun} {vs : List V} {v : V} {st' : Store} {Q : V → S → Prop} (h : g vs σ.st = .ok v st') : MW (callF g vs) σ Q ↔ Q v { σ with st := st' } := by
  refine MW_fun_ok ?_
  simp only [callF, h]

theorem MW_while {c : M Bool} {b : M Fl} {Q : Fl → S → Prop} (I : Nat → S → Prop)
    (h : ∀ k σ, I k σ → MW c σ (fun t σ₁ => if t = true then MW b σ₁ (fun f σ₂ => match f with | .next => ∃ j, j < k ∧ I j σ₂ | .cont => ∃ j, j < k ∧ I j σ₂ | .brk => Q .next σ₂ | .ret v => Q (.ret v) σ₂) else Q .next σ₁)) :
    ∀ (n k : Nat) (σ : S), k < n → I k σ → MW (whileM c b n) σ Q := by
  intro n
  induction n with
  | zero => intro k σ hk; (first | lia | omega)
  | succ n ih =>
    intro k σ hk hI
    unfold whileM
    rw [MW_bind]
    refine (h k σ hI).mono fun t σ₁ ht => ?_
    cases t with
    | false => simp only [Bool.false_eq_true, if_false] at ht ⊢; exact MW_pure.mpr ht
    | true =>
      simp only [if_true] at ht ⊢
      rw [MW_bind]
      refine ht.mono fun f σ₂ hf => ?_
      cases f with
      | next => obtain ⟨j, hj, hI'⟩ := hf; exact ih j σ₂ (by (first | lia | omega)) hI'
      | cont => obtain ⟨j, hj, hI'⟩ := hf; exact ih j σ₂ (by (first | lia | omega)) hI'
      | brk => exact MW_pure.mpr hf
      | ret v => exact MW_pure.mpr hf

theorem MW_for {nxt : S → Nat → Option (Option V)} {t : V → M Unit} {b : M Fl} {Q : Fl → S → Prop} (N : Nat) (I : Nat → S → Prop)
    (hend : ∀ σ, I N σ → nxt σ N = some none ∧ Q .next σ)
    (h : ∀ i σ, i < N → I i σ → ∃ v, nxt σ i = some (some v) ∧ MW (t v) σ (fun _ σ₁ => MW b σ₁ (fun f σ₂ => match f with | .next => I (i + 1) σ₂ | .cont => I (i + 1) σ₂ | .brk => Q .next σ₂ | .ret v => Q (.ret v) σ₂))) :
    ∀ (n i : Nat) (σ : S), i ≤ N → N - i < n → I i σ → MW (forG nxt t b n i) σ Q := by
  intro n
  induction n with
  | zero => intro i σ _ hk; (first | lia | omega)
  | succ n ih =>
    intro i σ hi hk hI
    by_cases hN : i = N
    · subst hN
      obtain ⟨e, q⟩ := hend σ hI
      refine ⟨.next, σ, ?_, q⟩
      rw [forG]; dsimp only; rw [e]
    · obtain ⟨v, e, hw⟩ := h i σ (by (first | lia | omega)) hI
      have key : MW (do
        t v
        match ← b with
        | .next => forG nxt t b n (i + 1)
        | .cont => forG nxt t b n (i + 1)
        | .brk => pure .next
        | .ret v => pure (.ret v)) σ Q := by
        rw [MW_bind]
        refine hw.mono fun _ σ₁ h1 => ?_
        rw [MW_bind]
        refine h1.mono fun f σ₂ hf => ?_
        cases f with
        | next => exact ih (i + 1) σ₂ (by (first | lia | omega)) (by (first | lia | omega)) hf
        | cont => exact ih (i + 1) σ₂ (by (first | lia | omega)) (by (first | lia | omega)) hf
        | brk => exact MW_pure.mpr hf
        | ret v => exact MW_pure.mpr hf
      obtain ⟨a, σ', e2, q⟩ := key
      refine ⟨a, σ', ?_, q⟩
      rw [forG]; dsimp only; rw [e]; exact e2
end

/-! steps -/
section
variable {α β γ : Type} {σ : S}
theorem w_as {m : M α} {f : α → M β} {g : β → M γ} {Q : γ → S → Prop} (k : MW (m >>= fun a => f a >>= g) σ Q) : MW ((m >>= f) >>= g) σ Q :=
  MW_bind.mpr (MW_bind.mpr ((MW_bind.mp k).mono fun _ _ h => MW_bind.mp h))
theorem w_pure {a : α} {f : α → M β} {Q : β → S → Prop} (k : MW (f a) σ Q) : MW ((pure a : M α) >>= f) σ Q := k
theorem w_if {c : Prop} [Decidable c] {a b : M α} {f : α → M β} {Q : β → S → Prop} (k : MW (if c then a >>= f else b >>= f) σ Q) : MW ((if c then a else b) >>= f) σ Q := by
  split at k
  · rename_i h; rw [if_pos h]; exact k
  · rename_i h; rw [if_neg h]; exact k
theorem w_t {a b : M α} {Q : α → S → Prop} (k : MW a σ Q) : MW (if true = true then a else b) σ Q := k
theorem w_f {a b : M α} {Q : α → S → Prop} (k : MW b σ Q) : MW (if false = true then a else b) σ Q := k
theorem w_get {x : String} {v : V} {f : V → M β} {Q : β → S → Prop} (h : σ.lo x = some v) (k : MW (f v) σ Q) : MW (getv x >>= f) σ Q := MW_bind.mpr (MW_getv.mpr ⟨v, h, k⟩)
theorem w_set {x : String} {v : V} {f : Unit → M β} {Q : β → S → Prop} (k : MW (f ()) (σ.put x v) Q) : MW (setv x v >>= f) σ Q := k
theorem w_add {a b : Int} {f : V → M β} {Q : β → S → Prop} (k : MW (f (.int (a + b))) σ Q) : MW (addV (.int a) (.int b) >>= f) σ Q := k
theorem w_sub {a b : Int} {f : V → M β} {Q : β → S → Prop} (k : MW (f (.int (a - b))) σ Q) : MW (subV (.int a) (.int b) >>= f) σ Q := k
theorem w_neg {a : Int} {f : V → M β} {Q : β → S → Prop} (k : MW (f (.int (-a))) σ Q) : MW (negV (.int a) >>= f) σ Q := k
theorem w_tru {b : Bool} {f : Bool → M β} {Q : β → S → Prop} (k : MW (f b) σ Q) : MW (truV (.bool b) >>= f) σ Q := k
theorem w_lt {a b : Int} {f : V → M β} {Q : β → S → Prop} (k : MW (f (.bool (decide (a < b)))) σ Q) : MW (ltV (.int a) (.int b) >>= f) σ Q := MW_bind.mpr (MW_lt_int.mpr k)
theorem w_gt {a b : Int} {f : V → M β} {Q : β → S → Prop} (k : MW (f (.bool (decide (b < a)))) σ Q) : MW (gtV (.int a) (.int b) >>= f) σ Q := k
theorem w_ge {a b : Int} {f : V → M β} {Q : β → S → Prop} (k : MW (f (.bool (decide (b ≤ a)))) σ Q) : MW (geV (.int a) (.int b) >>= f) σ Q := k
theorem w_le {a b : Int} {f : V → M β} {Q : β → S → Prop} (k : MW (f (.bool (decide (a ≤ b)))) σ Q) : MW (leV (.int a) (.int b) >>= f) σ Q := k
theorem w_end {m : M α} {f : α → M β} {Q : β → S → Prop} (k : MW m σ (fun a σ' => MW (f a) σ' Q)) : MW (m >>= f) σ Q := MW_bind.mpr k
theorem w_seq {a b : M Fl} {Q : Fl → S → Prop} (k : MW a σ (fun f σ' => match f with | .next => MW b σ' Q | .brk => Q .brk σ' | .cont => Q .cont σ' | .ret v => Q (.ret v) σ')) : MW (seqM a b) σ Q := MW_seq.mpr k
theorem e_pure {a : α} {Q : α → S → Prop} (k : Q a σ) : MW (pure a : M α) σ Q := ⟨a, σ, rfl, k⟩
theorem e_set {x : String} {v : V} {Q : Unit → S → Prop} (k : Q () (σ.put x v)) : MW (setv x v) σ Q := MW_setv.mpr k
theorem e_tru {b : Bool} {Q : Bool → S → Prop} (k : Q b σ) : MW (truV (.bool b)) σ Q := MW_tru.mpr k
theorem e_get {x : String} {v : V} {Q : V → S → Prop} (h : σ.lo x = some v) (k : Q v σ) : MW (getv x) σ Q := MW_getv.mpr ⟨v, h, k⟩
end

theorem funM_of {params : List String} {body : M Fl} {vs : List V} {st st' : Store} {v : V} (hl : vs.length = params.length)
    (h : MW body ⟨st, bindP params vs⟩ (fun f σ' => (match f with | .ret u => u | _ => .none) = v ∧ σ'.st = st')) : funM params body vs st = .ok v st' := by
  obtain ⟨f, σ', e, h1, h2⟩ := h
  unfold funM
  rw [if_pos hl, e]
  subst h1 h2
  cases f <;> rfl

/-! ### the heap functions -/
/-- a < b, whatever stands at place l -/
noncomputable def LtAtL (st : Store) (l : Nat) (P : V → Prop) (lt : V → V → Bool) : Prop :=
  ∀ ws : List V, ∀ a b, P a → P b → ∀ lo, ltV a b ⟨st.set l (.lst ws), lo⟩ = .ok (.bool (lt a b)) ⟨st.set l (.lst ws), lo⟩

end

/-! part H3 -/
set_option autoImplicit false
set_option maxRecDepth 100000
set_option linter.unusedVariables false
set_option linter.unusedSimpArgs false
open PySem PySem.W PyProof.Rows
section
variable {P : V → Prop} {lt : V → V → Bool}

theorem set_get {st : Store} {l : Nat} {ws : List V} {c : Cel} (h : st[l]? = some c) : (st.set l (.lst ws))[l]? = some (.lst ws) := by
  rw [List.getElem?_set_self]; exact (List.getElem?_eq_some_iff.mp h).1
theorem set_id {st : Store} {l : Nat} {ws : List V} (h : st[l]? = some (.lst ws)) : st.set l (.lst ws) = st := by
  obtain ⟨h1, h2⟩ := List.getElem?_eq_some_iff.mp h
  rw [← h2]; exact List.set_getElem_self h1
theorem w_getN {l j : Nat} {k : Int} {vs : List V} {σ : S} {Q : V → S → Prop} (h : σ.st[l]? = some (.lst vs)) (hk : k = j) (hj : j < vs.length) (q : Q (nth vs j) σ) : MW (getI (.obj l) (.int k)) σ Q := by
  subst hk
  exact (MW_getI h (by rw [ix_nat, if_pos hj]) (nth_eq hj)).mpr q

theorem LtAtL.set {st : Store} {l : Nat} (h : LtAtL st l P lt) (ws : List V) : LtAtL (st.set l (.lst ws)) l P lt := by
  intro us a b ha hb lo
  rw [List.set_set]
  exact h us a b ha hb lo

end

/-! part H4 -/
set_option autoImplicit false
set_option maxRecDepth 100000
set_option linter.unusedVariables false
set_option linter.unusedSimpArgs false
open PySem PySem.W PyProof.Rows
section
variable {P : V → Prop} {lt : V → V → Bool}
theorem getIX_ok {σ : S} {l : Nat} {vs : List V} {v : V} (h : σ.st[l]? = some (.lst vs)) (hv : vs[0]? = some v) : getIX (.obj l) (.int 0) σ = .ok v σ := by
  simp [getIX, h, hv]
theorem getIX_exc {σ : S} {l : Nat} (h : σ.st[l]? = some (.lst [])) : getIX (.obj l) (.int 0) σ = .exc ⟨"IndexError", Str.ofString "list index out of range"⟩ σ := by
  simp [getIX, h]
theorem revR_eq {q : Int} (hq : 0 ≤ q ∧ q < 1000000) : revR (.rng 0 q 1) = pure (.rng (q - 1) (-1) (-1)) := by simp only [revR, if_pos hq]
theorem nxt_rng (a b c : Int) (σ : S) (i : Nat) : nxtOf (.rng a b c) σ i = some (if i < rngLen a b c then some (.int (a + i * c)) else none) := rfl

end

/-! part H5 -/
set_option autoImplicit false
set_option maxRecDepth 100000
set_option linter.unusedVariables false
set_option linter.unusedSimpArgs false
open PySem PySem.W PyProof.Rows
section
/-! ### lists of ints -/
section
variable {σ : S}

theorem toD_int {st : Store} {n : Nat} {i : Int} : toD st (n + 1) (.int i) = some (.int i) := by simp only [toD]
theorem MW_eqI {a b : Int} {Q : V → S → Prop} : MW (eqV (.int a) (.int b)) σ Q ↔ Q (.bool (decide (a = b))) σ := by
  refine MW_fun_ok ?_
  unfold eqV
  rw [toD_int, toD_int]
  simp only [PyData.eqv]
  rfl
theorem MW_neI {a b : Int} {Q : V → S → Prop} : MW (neV (.int a) (.int b)) σ Q ↔ Q (.bool (!decide (a = b))) σ := by
  refine MW_fun_ok ?_
  unfold neV
  rw [toD_int, toD_int]
  simp only [PyData.eqv]
  rfl
theorem MW_addL {l k : Nat} {as bs : List V} {Q : V → S → Prop} (h1 : σ.st[l]? = some (.lst as)) (h2 : σ.st[k]? = some (.lst bs)) (hn : (as ++ bs).length ≤ 1000000) :
    MW (addV (.obj l) (.obj k)) σ Q ↔ Q (.obj σ.st.length) { σ with st := σ.st ++ [.lst (as ++ bs)] } := by
  refine MW_fun_ok ?_
  simp only [addV, h1, h2, newL, if_pos hn]
end
section
variable {β : Type} {σ : S}
theorem w_eq {a b : Int} {f : V → M β} {Q : β → S → Prop} (k : MW (f (.bool (decide (a = b)))) σ Q) : MW (eqV (.int a) (.int b) >>= f) σ Q := MW_bind.mpr (MW_eqI.mpr k)
theorem w_ne {a b : Int} {f : V → M β} {Q : β → S → Prop} (k : MW (f (.bool (!decide (a = b)))) σ Q) : MW (neV (.int a) (.int b) >>= f) σ Q := MW_bind.mpr (MW_neI.mpr k)
end
end

/-! part H6 -/
set_option autoImplicit false
set_option maxRecDepth 100000
set_option linter.unusedVariables false
set_option linter.unusedSimpArgs false
open PySem PySem.W PyProof.Rows
section
/-! ### stores: all stays but the places L -/
noncomputable def Pres (L : List Nat) (st st' : Store) : Prop := st.length ≤ st'.length ∧ ∀ k, k < st.length → k ∉ L → st'[k]? = st[k]?
theorem lt_of_get {st : Store} {l : Nat} {c : Cel} (h : st[l]? = some c) : l < st.length := (List.getElem?_eq_some_iff.mp h).1
theorem Pres.refl (L : List Nat) (st : Store) : Pres L st st := ⟨Nat.le_refl _, fun _ _ _ => rfl⟩
theorem Pres.trans {L : List Nat} {a b c : Store} (x : Pres L a b) (y : Pres L b c) : Pres L a c :=
  ⟨Nat.le_trans x.1 y.1, fun k hk hl => (y.2 k (Nat.lt_of_lt_of_le hk x.1) hl).trans (x.2 k hk hl)⟩
theorem Pres.get {L : List Nat} {a b : Store} {k : Nat} {c : Cel} (x : Pres L a b) (h : a[k]? = some c) (hk : k ∉ L) : b[k]? = some c := (x.2 k (lt_of_get h) hk).trans h
theorem Pres.get0 {a b : Store} {k : Nat} {c : Cel} (x : Pres [] a b) (h : a[k]? = some c) : b[k]? = some c := x.get h (by simp)
theorem Pres.mono {L L' : List Nat} {a b : Store} (x : Pres L a b) (h : ∀ k ∈ L, k ∈ L') : Pres L' a b := ⟨x.1, fun k hk hl => x.2 k hk fun q => hl (h k q)⟩
theorem Pres.nil {L : List Nat} {a b : Store} (x : Pres [] a b) : Pres L a b := x.mono (by simp)
theorem Pres.app (L : List Nat) (st xs : Store) : Pres L st (st ++ xs) := ⟨by simp, fun k hk _ => List.getElem?_append_left hk⟩
theorem Pres.set {L : List Nat} {st : Store} {l : Nat} {c : Cel} (h : l ∈ L) : Pres L st (st.set l c) :=
  ⟨by simp, fun k hk hl => List.getElem?_set_ne (by rintro rfl; exact hl h)⟩
theorem set_self {st : Store} {l : Nat} {c : Cel} (h : l < st.length) : (st.set l c)[l]? = some c := List.getElem?_set_self h

section
variable {σ : S}
theorem MW_newL' {vs : List V} {Q : V → S → Prop} (hn : vs.length ≤ 1000000) (h : ∀ k st', Pres [] σ.st st' → σ.st.length ≤ k → st'[k]? = some (.lst vs) → Q (.obj k) ⟨st', σ.lo⟩) : MW (newL vs) σ Q :=
  (MW_newL hn).mpr (h _ _ (Pres.app ..) (Nat.le_refl _) List.getElem?_concat_length)
theorem MW_addL' {l k : Nat} {as bs : List V} {Q : V → S → Prop} (h1 : σ.st[l]? = some (.lst as)) (h2 : σ.st[k]? = some (.lst bs)) (hn : (as ++ bs).length ≤ 1000000)
    (h : ∀ k st', Pres [] σ.st st' → σ.st.length ≤ k → st'[k]? = some (.lst (as ++ bs)) → Q (.obj k) ⟨st', σ.lo⟩) : MW (addV (.obj l) (.obj k)) σ Q :=
  (MW_addL h1 h2 hn).mpr (h _ _ (Pres.app ..) (Nat.le_refl _) List.getElem?_concat_length)
theorem MW_callF' {g : Fun} {vs : List V} {v : V} {st' : Store} {Q : V → S → Prop} (h : g vs σ.st = .ok v st') (q : Q v ⟨st', σ.lo⟩) : MW (callF g vs) σ Q := (MW_callF h).mpr q
end
theorem funM_ex {params : List String} {body : M Fl} {vs : List V} {st : Store} {R : V → Store → Prop} (hl : vs.length = params.length)
    (h : MW body ⟨st, bindP params vs⟩ (fun f σ' => R (match f with | .ret u => u | _ => .none) σ'.st)) : ∃ v st', funM params body vs st = .ok v st' ∧ R v st' := by
  obtain ⟨f, σ', e, h1⟩ := h
  exact ⟨_, _, funM_of hl ⟨f, σ', e, rfl, rfl⟩, h1⟩

section
variable {σ : S}
end
section
variable {σ : S}
end

end

/-! part H7 -/
set_option autoImplicit false
set_option maxRecDepth 100000
set_option linter.unusedVariables false
set_option linter.unusedSimpArgs false
open PySem PySem.W PyProof.Rows
section
theorem MW_loopC {nxt : S → Nat → Option (Option V)} {t : V → M Unit} {c : M Bool} {mi : M Unit} {Q : Unit → S → Prop} (N : Nat) (I : Nat → S → Prop)
    (hend : ∀ σ, I N σ → nxt σ N = some none ∧ Q () σ)
    (h : ∀ i σ, i < N → I i σ → ∃ v, nxt σ i = some (some v) ∧ MW (t v) σ (fun _ σ₁ => MW c σ₁ (fun b σ₂ => if b = true then MW mi σ₂ (fun _ σ₃ => I (i + 1) σ₃) else I (i + 1) σ₂)))
    (n : Nat) (σ : S) (hn : N < n) (h0 : I 0 σ) : MW (loopC n t c mi nxt) σ Q := by
  unfold loopC
  rw [MW_bind]
  refine MW_for (Q := fun _ σ' => MW (pure ()) σ' Q) N I (fun σ hI => ⟨(hend σ hI).1, MW_pure.mpr (hend σ hI).2⟩) ?_ n 0 σ (Nat.zero_le _) (by (first | lia | omega)) h0
  intro i σ hi hI
  obtain ⟨v, e, hw⟩ := h i σ hi hI
  refine ⟨v, e, hw.mono fun _ σ₁ h1 => ?_⟩
  unfold compB
  rw [MW_bind]
  refine h1.mono fun b σ₂ h2 => ?_
  cases b with
  | true =>
    simp only [if_true] at h2 ⊢
    rw [MW_bind]
    exact h2.mono fun _ σ₃ h3 => MW_pure.mpr h3
  | false =>
    simp only [Bool.false_eq_true, if_false] at h2 ⊢
    exact MW_pure.mpr h2

theorem MW_compTail {free : List String} {mc : Nat → (S → Nat → Option (Option V)) → M Unit} {v : V} {σ : S} {Q : V → S → Prop} (hok : okIter v σ = .ok () σ)
    (h : MW (mc σ.st.length (nxtOf v)) ⟨σ.st ++ [.lst []], restr free σ.lo⟩ (fun _ σ' => Q (.obj σ.st.length) ⟨σ'.st, σ.lo⟩)) : MW (compTail free mc v) σ Q := by
  obtain ⟨u, σ', e, q⟩ := h
  refine ⟨.obj σ.st.length, ⟨σ'.st, σ.lo⟩, ?_, q⟩
  unfold compTail
  rw [hok]
  dsimp only
  rw [e]

noncomputable def Agree (st st' : Store) : Prop := ∀ k, k < st.length → st'[k]? = st[k]?

theorem MW_appendAt {l : Nat} {vs : List V} {v : V} {σ : S} {Q : Unit → S → Prop} (h : σ.st[l]? = some (.lst vs)) (hl : l ≠ 0) (hn : vs.length < 1000000) (q : Q () ⟨σ.st.set l (.lst (vs ++ [v])), σ.lo⟩) : MW (appendAt l v) σ Q := by
  unfold appendAt
  rw [MW_bind]
  exact (MW_append h hl hn).mpr (MW_pure.mpr q)

/-- a comprehension whose tests and items leave the store alone -/
theorem MW_compPure {free : List String} {mc : Nat → (S → Nat → Option (Option V)) → M Unit} {t : V → M Unit} {c : M Bool} {e : M V} {n : Nat} {v0 : V} {us : List V} {σ : S} {Q : V → S → Prop} (g : V → Option V)
    (hmc : ∀ l nxt, mc l nxt = loopC n t c (do let v ← e; appendAt l v) nxt)
    (hok : okIter v0 σ = .ok () σ) (h0 : 0 < σ.st.length) (hnx : ∀ σ' i, Agree σ.st σ'.st → nxtOf v0 σ' i = some us[i]?) (hn : us.length < n) (hn2 : us.length < 1000000)
    (h : ∀ v ∈ us, ∀ σ', Agree σ.st σ'.st → (∀ x ∈ free, σ'.lo x = σ.lo x) → MW (t v) σ' (fun _ σ₁ => σ₁.st = σ'.st ∧ (∀ x ∈ free, σ₁.lo x = σ'.lo x) ∧
      MW c σ₁ (fun b σ₂ => σ₂ = σ₁ ∧ (match g v with | none => b = false | some w => b = true ∧ MW e σ₁ (fun u σ₃ => u = w ∧ σ₃ = σ₁)))))
    (q : ∀ k st', Pres [] σ.st st' → σ.st.length ≤ k → st'[k]? = some (.lst (us.filterMap g)) → Q (.obj k) ⟨st', σ.lo⟩) : MW (compTail free mc v0) σ Q := by
  refine MW_compTail hok ?_
  rw [hmc]
  refine MW_loopC us.length (fun i σ' => σ'.st = σ.st ++ [.lst ((us.take i).filterMap g)] ∧ ∀ x ∈ free, σ'.lo x = σ.lo x) ?_ ?_ n _ hn ⟨by simp, fun x hx => by simp only [restr, if_pos hx]⟩
  · rintro σ' ⟨e1, _⟩
    refine ⟨?_, ?_⟩
    · rw [hnx σ' _ (by rw [e1]; intro k hk; exact List.getElem?_append_left hk)]; simp
    · rw [e1, List.take_length]
      exact q _ _ (Pres.app ..) (Nat.le_refl _) List.getElem?_concat_length
  · rintro i σ' hi ⟨e1, e2⟩
    have hag : Agree σ.st σ'.st := by rw [e1]; intro k hk; exact List.getElem?_append_left hk
    refine ⟨us[i], by rw [hnx σ' i hag, List.getElem?_eq_getElem hi], ?_⟩
    refine (h us[i] (List.getElem_mem hi) σ' hag e2).mono fun _ σ₁ h1 => ?_
    obtain ⟨e3, e4, h2⟩ := h1
    refine h2.mono fun b σ₂ h3 => ?_
    obtain ⟨rfl, h3⟩ := h3
    have htake : us.take (i + 1) = us.take i ++ [us[i]] := by rw [List.take_add_one, List.getElem?_eq_getElem hi]; rfl
    cases hg : g us[i] with
    | none =>
      rw [hg] at h3
      simp only at h3
      subst h3
      simp only [Bool.false_eq_true, if_false]
      refine ⟨?_, fun x hx => (e4 x hx).trans (e2 x hx)⟩
      rw [e3, e1, htake, List.filterMap_append]
      simp [hg]
    | some w =>
      rw [hg] at h3
      obtain ⟨rfl, h4⟩ := h3
      simp only [if_true]
      rw [MW_bind]
      refine h4.mono fun u σ₃ h5 => ?_
      obtain ⟨rfl, rfl⟩ := h5
      have hlt : ((us.take i).filterMap g).length < 1000000 := by
        have h6 := List.length_filterMap_le g (us.take i)
        rw [List.length_take] at h6
        (first | lia | omega)
      have hst : σ₃.st = σ.st ++ [.lst ((us.take i).filterMap g)] := e3.trans e1
      refine MW_appendAt (by rw [hst]; exact List.getElem?_concat_length) (by (first | lia | omega)) hlt ⟨?_, fun x hx => (e4 x hx).trans (e2 x hx)⟩
      dsimp only
      rw [hst, htake, List.filterMap_append, List.set_append_right _ _ (Nat.le_refl _)]
      simp [hg]

theorem nxt_obj {l : Nat} {vs : List V} {st : Store} (h : st[l]? = some (.lst vs)) : ∀ (σ' : S) i, Agree st σ'.st → nxtOf (.obj l) σ' i = some vs[i]? := by
  intro σ' i hag
  have : σ'.st[l]? = some (.lst vs) := (hag l (lt_of_get h)).trans h
  show (match σ'.st[l]? with | some (.lst vs) => some vs[i]? | _ => none) = _
  rw [this]
theorem ok_rng {a b c : Int} {σ : S} (h : Builtin.Range.small a b c = true) : okIter (.rng a b c) σ = .ok () σ := by simp only [okIter, h, if_true]
theorem ok_obj {l : Nat} {vs : List V} {σ : S} (h : σ.st[l]? = some (.lst vs)) : okIter (.obj l) σ = .ok () σ := chkL_ok h

end

/-! part H8 -/
set_option autoImplicit false
set_option maxRecDepth 100000
set_option linter.unusedVariables false
set_option linter.unusedSimpArgs false
open PySem PySem.W PyProof.Rows
section
section
variable {σ : S}
theorem MW_unpack {n : Nat} {m : List V → M Unit} {vs : List V} {Q : Unit → S → Prop} (h : vs.length = n) : MW (unpackT n m (.tup vs)) σ Q ↔ MW (m vs) σ Q := by
  unfold unpackT; dsimp only; rw [if_pos h]
theorem MW_unpack2 {m : List V → M Unit} {a b : V} {Q : Unit → S → Prop} : MW (unpackT 2 m (.tup [a, b])) σ Q ↔ MW (m [a, b]) σ Q := MW_unpack rfl
theorem MW_consT {m : V → M Unit} {ms : List V → M Unit} {v : V} {vs : List V} {Q : Unit → S → Prop} : MW (consT m ms (v :: vs)) σ Q ↔ MW (m v) σ (fun _ σ' => MW (ms vs) σ' Q) := by
  show MW (m v >>= fun _ => ms vs) σ Q ↔ _
  rw [MW_bind]
theorem nxt_objI {l : Nat} {vs : List V} (h : σ.st[l]? = some (.lst vs)) (i : Nat) : nxtOf (.obj l) σ i = some vs[i]? := by
  show (match σ.st[l]? with | some (.lst vs) => some vs[i]? | _ => none) = _
  rw [h]
theorem MW_okL {l : Nat} {vs : List V} {Q : Unit → S → Prop} (h : σ.st[l]? = some (.lst vs)) : MW (okIter (.obj l)) σ Q ↔ Q () σ := MW_fun_ok (ok_obj h)
end

/-! ### ranges -/
theorem rngS_pos {a b c : Int} (hc : 0 < c) : Builtin.Range.rangeSize a b c = if a < b then (b - a - 1) / c + 1 else 0 := by
  unfold Builtin.Range.rangeSize; rw [if_pos hc]
theorem rngU_small {a b c : Int} (ha : -100000 ≤ a ∧ a ≤ 100000) (hb : -100000 ≤ b ∧ b ≤ 100000) (hc : 0 < c ∧ c ≤ 100000) : Builtin.Range.small a b c = true := by
  have hz : 0 ≤ Builtin.Range.rangeSize a b c ∧ Builtin.Range.rangeSize a b c ≤ 300000 := by
    refine ⟨rangeSize_nonneg a b c, ?_⟩
    rw [rngS_pos hc.1]
    split
    · have := Int.ediv_le_self (a := b - a - 1) c (by (first | lia | omega))
      (first | lia | omega)
    · (first | lia | omega)
  unfold Builtin.Range.small
  simp only [Bool.and_eq_true]
  refine ⟨⟨⟨⟨fits_of (by (first | lia | omega)), fits_of (by (first | lia | omega))⟩, fits_of (by (first | lia | omega))⟩, fits_of (by (first | lia | omega))⟩, ?_⟩
  simp only [Bool.or_eq_true]
  right
  rw [if_pos (by (first | lia | omega))]
  exact fits_of (by (first | lia | omega))
/-- range(a, b) as a list -/
theorem nxt_rngU {a b : Int} {n : Nat} (σ : S) (i : Nat) (hn : n = (b - a).toNat) : nxtOf (.rng a b 1) σ i = some ((List.range n).map fun (j : Nat) => V.int (a + j))[i]? := by
  rw [nxt_rng]
  have h1 := rngLen_eq a b 1
  rw [rngS_pos (by (first | lia | omega))] at h1
  have : rngLen a b 1 = n := by split at h1 <;> (first | lia | omega)
  rw [this]
  by_cases hi : i < n
  · rw [if_pos hi]; simp [hi]
  · rw [if_neg hi, List.getElem?_eq_none (by simp; (first | lia | omega))]

section
variable {σ : S}
end
theorem su0_heap {P : V → Prop} {lt : V → V → Bool} (O : SWO P lt) {vs : List V} {x : V} (hP : ∀ a ∈ vs, P a) (hx : P x) (h0 : 0 < vs.length) (hh : HeapFrom lt 0 vs) : HeapFrom lt 0 (su lt (vs.set 0 x) 0) := by
  refine su_heap O _ 0 (all_set hP hx) (by rw [List.length_set]; exact h0) ?_
  intro j h1 h2 h3
  rw [List.length_set] at h2
  rw [nth_set_ne (by (first | lia | omega)), nth_set_ne (by (first | lia | omega))]
  exact hh j h1 h2 (by (first | lia | omega))
end

/-! part H9 -/
set_option autoImplicit false
set_option maxRecDepth 100000
set_option linter.unusedVariables false
set_option linter.unusedSimpArgs false
open PySem PySem.W PyProof.Rows
section
section
variable {σ : S}
end
section
variable {σ : S}
end
end

/-! part H10 -/
set_option autoImplicit false
set_option maxRecDepth 100000
set_option linter.unusedVariables false
set_option linter.unusedSimpArgs false
open PySem PySem.W PyProof.Rows
section
end

/-! part P09 -/
set_option autoImplicit false
set_option linter.unusedVariables false
set_option linter.unusedSectionVars false
section
/-! ### a heap's halves, level by level -/
noncomputable def pw (i : Nat) : Nat := 2 ^ (i + 1).log2
noncomputable def pos (q i : Nat) : Nat := pw i * q + i
section
variable {α : Type} [Inhabited α] {lt : α → α → Bool}
variable {n q m : Nat}
end

end

/-! part P01 -/
set_option autoImplicit false
set_option maxRecDepth 100000
set_option linter.unusedVariables false
set_option linter.unusedSimpArgs false
section
section
variable {α : Type} [Inhabited α] {lt : α → α → Bool}
end
end

/-! part H11 -/
set_option autoImplicit false
set_option maxRecDepth 100000
set_option linter.unusedVariables false
set_option linter.unusedSimpArgs false
open PySem PySem.W PyProof.Rows
section
/-! ### the heap functions, where items stand at the places D alone -/
variable {P : V → Prop} {lt : V → V → Bool} {D : Nat → Prop}
end

/-! part H12 -/
set_option autoImplicit false
set_option maxRecDepth 100000
set_option linter.unusedVariables false
set_option linter.unusedSimpArgs false
open PySem PySem.W PyProof.Rows
section
section
variable {α β : Type} {σ : S} {e : Exc} {Q : S → Prop}
end
/-! ### _siftdown up to None -/
variable {P : V → Prop} {lt : V → V → Bool} {D : Nat → Prop}
end

/-! part H13 -/
set_option autoImplicit false
set_option maxRecDepth 100000
set_option linter.unusedVariables false
set_option linter.unusedSimpArgs false
open PySem PySem.W PyProof.Rows
section
theorem MW_list' {l : Nat} {vs : List V} {σ : S} {Q : V → S → Prop} (h : σ.st[l]? = some (.lst vs)) (q : ∀ k st', Pres [] σ.st st' → σ.st.length ≤ k → st'[k]? = some (.lst vs) → Q (.obj k) ⟨st', σ.lo⟩) : MW (listB [.obj l]) σ Q := by
  refine (MW_fun_ok (a := .obj σ.st.length) (σ' := { σ with st := σ.st ++ [.lst vs] }) ?_).mpr (q _ _ (Pres.app ..) (Nat.le_refl _) List.getElem?_concat_length)
  simp only [listB, h]
theorem MW_getN {l j : Nat} {k : Int} {vs : List V} {σ : S} {Q : V → S → Prop} (h : σ.st[l]? = some (.lst vs)) (hk : k = j) (hj : j < vs.length) : MW (getI (.obj l) (.int k)) σ Q ↔ Q (nth vs j) σ := by
  subst hk
  exact MW_getI h (by rw [ix_nat, if_pos hj]) (nth_eq hj)
theorem bind_exc {α β : Type} {m : M α} {f : α → M β} {σ σ' : S} {e : Exc} (h : m σ = .exc e σ') : (m >>= f) σ = .exc e σ' := by rw [M.bind_def, h]
theorem bind_okx {α β : Type} {m : M α} {f : α → M β} {σ σ' : S} {a : α} {r : Res S β} (h : m σ = .ok a σ') (h2 : f a σ' = r) : (m >>= f) σ = r := by rw [M.bind_def, h]; exact h2
theorem getv_okx {σ : S} {x : String} {v : V} (h : σ.lo x = some v) : getv x σ = .ok v σ := by unfold getv; rw [h]
theorem seq_exc {a b : M Fl} {σ σ' : S} {e : Exc} (h : a σ = .exc e σ') : seqM a b σ = .exc e σ' := by unfold seqM; exact bind_exc h
theorem eqI_okx {a b : Int} {σ : S} : eqV (.int a) (.int b) σ = .ok (.bool (decide (a = b))) σ := by
  obtain ⟨v, σ', e, h1, h2⟩ := (MW_eqI (σ := σ) (a := a) (b := b) (Q := fun v σ' => v = .bool (decide (a = b)) ∧ σ' = σ)).mpr ⟨rfl, rfl⟩
  rw [e, h1, h2]

end

/-! part H14 -/
set_option autoImplicit false
set_option maxRecDepth 100000
set_option linter.unusedVariables false
set_option linter.unusedSimpArgs false
open PySem PySem.W PyProof.Rows
section
/-! ### programs that end well or by an exception -/
noncomputable def MY {α : Type} (m : M α) (σ : S) (Q : α → S → Prop) (X : Exc → S → Prop) : Prop := match m σ with
  | .ok a σ' => Q a σ'
  | .exc e σ' => X e σ'
  | .stuck => False
section
variable {α β γ : Type} {σ : S} {X : Exc → S → Prop}
theorem MY_bind {m : M α} {f : α → M β} {Q : β → S → Prop} (h : MY m σ (fun a σ' => MY (f a) σ' Q X) X) : MY (m >>= f) σ Q X := by
  unfold MY at h ⊢
  rw [M.bind_def]
  cases e : m σ with
  | ok a σ' => rw [e] at h; exact h
  | exc x y => rw [e] at h; exact h
  | stuck => rw [e] at h; exact h
theorem MY_of {m : M α} {Q : α → S → Prop} (h : MW m σ Q) : MY m σ Q X := by
  obtain ⟨a, σ', e, q⟩ := h
  unfold MY; rw [e]; exact q
theorem MY.mono {m : M α} {Q Q' : α → S → Prop} {X' : Exc → S → Prop} (h : MY m σ Q X) (k : ∀ a σ', Q a σ' → Q' a σ') (kx : ∀ e σ', X e σ' → X' e σ') : MY m σ Q' X' := by
  unfold MY at h ⊢
  cases e : m σ with
  | ok a σ' => rw [e] at h; exact k _ _ h
  | exc x y => rw [e] at h; exact kx _ _ h
  | stuck => rw [e] at h; exact h
theorem MY_ok {m : M α} {a : α} {σ' : S} {Q : α → S → Prop} (e : m σ = .ok a σ') (q : Q a σ') : MY m σ Q X := by unfold MY; rw [e]; exact q
theorem y_as {m : M α} {f : α → M β} {g : β → M γ} {Q : γ → S → Prop} (k : MY (m >>= fun a => f a >>= g) σ Q X) : MY ((m >>= f) >>= g) σ Q X := by
  have e : ((m >>= f) >>= g) σ = (m >>= fun a => f a >>= g) σ := by
    simp only [M.bind_def]
    cases m σ <;> rfl
  unfold MY at k ⊢
  rw [e]; exact k
theorem y_pure {a : α} {f : α → M β} {Q : β → S → Prop} (k : MY (f a) σ Q X) : MY ((pure a : M α) >>= f) σ Q X := k
theorem y_if {c : Prop} [Decidable c] {a b : M α} {f : α → M β} {Q : β → S → Prop} (k : MY (if c then a >>= f else b >>= f) σ Q X) : MY ((if c then a else b) >>= f) σ Q X := by
  split at k
  · rename_i h; rw [if_pos h]; exact k
  · rename_i h; rw [if_neg h]; exact k
theorem y_t {a b : M α} {Q : α → S → Prop} (k : MY a σ Q X) : MY (if true = true then a else b) σ Q X := k
theorem y_f {a b : M α} {Q : α → S → Prop} (k : MY b σ Q X) : MY (if false = true then a else b) σ Q X := k
theorem y_get {x : String} {v : V} {f : V → M β} {Q : β → S → Prop} (h : σ.lo x = some v) (k : MY (f v) σ Q X) : MY (getv x >>= f) σ Q X := MY_bind (MY_ok (getv_okx h) k)
theorem y_set {x : String} {v : V} {f : Unit → M β} {Q : β → S → Prop} (k : MY (f ()) (σ.put x v) Q X) : MY (setv x v >>= f) σ Q X := k
theorem y_add {a b : Int} {f : V → M β} {Q : β → S → Prop} (k : MY (f (.int (a + b))) σ Q X) : MY (addV (.int a) (.int b) >>= f) σ Q X := k
theorem y_sub {a b : Int} {f : V → M β} {Q : β → S → Prop} (k : MY (f (.int (a - b))) σ Q X) : MY (subV (.int a) (.int b) >>= f) σ Q X := k
theorem y_neg {a : Int} {f : V → M β} {Q : β → S → Prop} (k : MY (f (.int (-a))) σ Q X) : MY (negV (.int a) >>= f) σ Q X := k
theorem y_tru {b : Bool} {f : Bool → M β} {Q : β → S → Prop} (k : MY (f b) σ Q X) : MY (truV (.bool b) >>= f) σ Q X := k
theorem y_lt {a b : Int} {f : V → M β} {Q : β → S → Prop} (k : MY (f (.bool (decide (a < b)))) σ Q X) : MY (ltV (.int a) (.int b) >>= f) σ Q X := MY_bind (MY_of (MW_lt_int.mpr k))
theorem y_gt {a b : Int} {f : V → M β} {Q : β → S → Prop} (k : MY (f (.bool (decide (b < a)))) σ Q X) : MY (gtV (.int a) (.int b) >>= f) σ Q X := k
theorem y_eq {a b : Int} {f : V → M β} {Q : β → S → Prop} (k : MY (f (.bool (decide (a = b)))) σ Q X) : MY (eqV (.int a) (.int b) >>= f) σ Q X := MY_bind (MY_ok eqI_okx k)
theorem y_end {m : M α} {f : α → M β} {Q : β → S → Prop} (k : MY m σ (fun a σ' => MY (f a) σ' Q X) X) : MY (m >>= f) σ Q X := MY_bind k
theorem y_seq {a b : M Fl} {Q : Fl → S → Prop} (k : MY a σ (fun f σ' => match f with | .next => MY b σ' Q X | .brk => Q .brk σ' | .cont => Q .cont σ' | .ret v => Q (.ret v) σ') X) : MY (seqM a b) σ Q X := by
  unfold seqM
  refine MY_bind (k.mono (fun f σ' h => ?_) fun _ _ h => h)
  cases f <;> exact h
theorem z_pure {a : α} {Q : α → S → Prop} (k : Q a σ) : MY (pure a : M α) σ Q X := k
theorem z_set {x : String} {v : V} {Q : Unit → S → Prop} (k : Q () (σ.put x v)) : MY (setv x v) σ Q X := k
theorem z_tru {b : Bool} {Q : Bool → S → Prop} (k : Q b σ) : MY (truV (.bool b)) σ Q X := k
theorem z_get {x : String} {v : V} {Q : V → S → Prop} (h : σ.lo x = some v) (k : Q v σ) : MY (getv x) σ Q X := MY_ok (getv_okx h) k
theorem MY_while {c : M Bool} {b : M Fl} {Q : Fl → S → Prop} (I : Nat → S → Prop)
    (h : ∀ k σ, I k σ → MY c σ (fun t σ₁ => if t = true then MY b σ₁ (fun f σ₂ => match f with | .next => ∃ j, j < k ∧ I j σ₂ | .cont => ∃ j, j < k ∧ I j σ₂ | .brk => Q .next σ₂ | .ret v => Q (.ret v) σ₂) X else Q .next σ₁) X) :
    ∀ (n k : Nat) (σ : S), k < n → I k σ → MY (whileM c b n) σ Q X := by
  intro n
  induction n with
  | zero => intro k σ hk; (first | lia | omega)
  | succ n ih =>
    intro k σ hk hI
    unfold whileM
    refine MY_bind ((h k σ hI).mono (fun t σ₁ ht => ?_) fun _ _ h => h)
    cases t with
    | false => simp only [Bool.false_eq_true, if_false] at ht ⊢; exact ht
    | true =>
      simp only [if_true] at ht ⊢
      refine MY_bind (ht.mono (fun f σ₂ hf => ?_) fun _ _ h => h)
      cases f with
      | next => obtain ⟨j, hj, hI'⟩ := hf; exact ih j σ₂ (by (first | lia | omega)) hI'
      | cont => obtain ⟨j, hj, hI'⟩ := hf; exact ih j σ₂ (by (first | lia | omega)) hI'
      | brk => exact hf
      | ret v => exact hf
end
/-- a def's end, either way -/
theorem funM_y {params : List String} {body : M Fl} {vs : List V} {st : Store} {r : Res Store V} (hl : vs.length = params.length)
    (h : MY body ⟨st, bindP params vs⟩ (fun f σ' => r = .ok (match f with | .ret u => u | _ => .none) σ'.st) (fun e σ' => r = .exc e σ'.st)) : funM params body vs st = r := by
  unfold MY at h
  unfold funM
  rw [if_pos hl]
  cases e : body ⟨st, bindP params vs⟩ with
  | ok f σ' => rw [e] at h; rw [h]; cases f <;> rfl
  | exc x σ' => rw [e] at h; rw [h]
  | stuck => rw [e] at h; exact h.elim
theorem MY_callF {g : Fun} {vs : List V} {σ : S} {r : Res Store V} {Q : V → S → Prop} {X : Exc → S → Prop} (h : g vs σ.st = r) (q : match (generalizing := false) r with | .ok v st' => Q v ⟨st', σ.lo⟩ | .exc e st' => X e ⟨st', σ.lo⟩ | .stuck => False) : MY (callF g vs) σ Q X := by
  unfold MY callF
  rw [h]
  cases r <;> exact q

/-! ### heaps of items that may not be compared, plain -/
section
variable {α : Type} [Inhabited α]
noncomputable def sdE (lt bad : α → α → Bool) (x : α) (start : Nat) (vs : List α) (pos : Nat) : List α × Option (α × α) :=
  if h : start < pos then
    if bad x (nth vs ((pos - 1) / 2)) = true then (vs, some (x, nth vs ((pos - 1) / 2)))
    else if lt x (nth vs ((pos - 1) / 2)) = true then sdE lt bad x start (vs.set pos (nth vs ((pos - 1) / 2))) ((pos - 1) / 2)
    else (vs.set pos x, none)
  else (vs.set pos x, none)
termination_by pos
decreasing_by (first | lia | omega)
noncomputable def downE (lt bad : α → α → Bool) (vs : List α) (pos : Nat) : (List α × Nat) × Option (α × α) :=
  if h : 2 * pos + 1 < vs.length then
    if 2 * pos + 2 < vs.length ∧ bad (nth vs (2 * pos + 1)) (nth vs (2 * pos + 2)) = true then ((vs, pos), some (nth vs (2 * pos + 1), nth vs (2 * pos + 2)))
    else downE lt bad (vs.set pos (nth vs (kid lt vs pos))) (kid lt vs pos)
  else ((vs, pos), none)
termination_by vs.length - pos
decreasing_by
  have := kid_gt lt vs pos
  have := kid_lt (lt := lt) h
  simp only [List.length_set]; (first | lia | omega)
noncomputable def suE (lt bad : α → α → Bool) (vs : List α) (pos : Nat) : List α × Option (α × α) :=
  match (downE lt bad vs pos).2 with
  | some e => ((downE lt bad vs pos).1.1, some e)
  | none => sdE lt bad (nth vs pos) pos ((downE lt bad vs pos).1.1.set (downE lt bad vs pos).1.2 (nth vs pos)) (downE lt bad vs pos).1.2
noncomputable def hpushE (lt bad : α → α → Bool) (vs : List α) (x : α) : List α × Option (α × α) := sdE lt bad x 0 (vs ++ [x]) vs.length
noncomputable def hpopE (lt bad : α → α → Bool) (vs : List α) : List α × Option (α × α) :=
  if vs.length ≤ 1 then ([], none) else suE lt bad ((vs.eraseIdx (vs.length - 1)).set 0 (nth vs (vs.length - 1))) 0
end
local macro_rules | `(tactic| walk_at "my") => `(tactic| ((repeat (first | (with_reducible first | apply y_as | apply y_pure | apply y_set | apply y_tru | apply y_add | apply y_sub | apply y_lt | apply y_gt | apply y_t | apply y_f | apply y_if | apply z_pure | apply z_set | apply z_tru | apply y_neg | apply y_eq) | ((with_reducible first | apply y_get | apply z_get); · first | exact rfl | assumption))); try with_reducible apply y_end))

/-! ### what the code does -/
variable {P : V → Prop} {lt bad : V → V → Bool} {te : V → V → Exc}
noncomputable def CmpAt (st : Store) (l : Nat) (P : V → Prop) (lt bad : V → V → Bool) (te : V → V → Exc) : Prop :=
  ∀ ws : List V, ∀ a b, P a → P b → ∀ lo, ltX a b ⟨st.set l (.lst ws), lo⟩ = if bad a b = true then .exc (te a b) ⟨st.set l (.lst ws), lo⟩ else .ok (.bool (lt a b)) ⟨st.set l (.lst ws), lo⟩
theorem CmpAt.set {st : Store} {l : Nat} (h : CmpAt st l P lt bad te) (ws : List V) : CmpAt (st.set l (.lst ws)) l P lt bad te := by
  intro us a b ha hb lo
  rw [List.set_set]
  exact h us a b ha hb lo
noncomputable def outE (te : V → V → Exc) (st : Store) (l : Nat) (v : V) (r : List V × Option (V × V)) : Res Store V := match r.2 with
  | none => .ok v (st.set l (.lst r.1))
  | some e => .exc (te e.1 e.2) (st.set l (.lst r.1))
theorem outE_set {st : Store} {l : Nat} {v : V} {c : Cel} {r : List V × Option (V × V)} : outE te (st.set l c) l v r = outE te st l v r := by
  unfold outE
  cases r.2 <;> dsimp only <;> rw [List.set_set]
/-- a call whose end is told by outE -/
theorem MY_callE {g : Fun} {vs : List V} {σ : S} {st : Store} {l : Nat} {v : V} {r : List V × Option (V × V)} {Q : V → S → Prop} {X : Exc → S → Prop} (h : g vs σ.st = outE te st l v r)
    (q : r.2 = none → Q v ⟨st.set l (.lst r.1), σ.lo⟩) (x : ∀ e, r.2 = some e → X (te e.1 e.2) ⟨st.set l (.lst r.1), σ.lo⟩) : MY (callF g vs) σ Q X := by
  refine MY_callF h ?_
  unfold outE
  cases hr : r.2 with
  | none => exact q hr
  | some e => exact x e hr
theorem outE_none {st : Store} {l : Nat} {v : V} {r : List V × Option (V × V)} (h : r.2 = none) : outE te st l v r = .ok v (st.set l (.lst r.1)) := by unfold outE; rw [h]
theorem outE_some {st : Store} {l : Nat} {v : V} {r : List V × Option (V × V)} {e : V × V} (h : r.2 = some e) : outE te st l v r = .exc (te e.1 e.2) (st.set l (.lst r.1)) := by unfold outE; rw [h]
theorem MY_lt {st : Store} {l : Nat} {σ : S} {ws : List V} {a b : V} {Q : V → S → Prop} {X : Exc → S → Prop} (h : CmpAt st l P lt bad te) (hs : σ.st = st.set l (.lst ws)) (ha : P a) (hb : P b)
    (q : bad a b = false → Q (.bool (lt a b)) σ) (x : bad a b = true → X (te a b) σ) : MY (ltX a b) σ Q X := by
  obtain ⟨s1, lo⟩ := σ
  dsimp only at hs
  subst hs
  have e := h ws a b ha hb lo
  unfold MY
  rw [e]
  cases hc : bad a b with
  | true => simpa [hc] using x hc
  | false => simpa [hc] using q hc
theorem y_getN {l j : Nat} {k : Int} {vs : List V} {σ : S} {Q : V → S → Prop} {X : Exc → S → Prop} (h : σ.st[l]? = some (.lst vs)) (hk : k = j) (hj : j < vs.length) (q : Q (nth vs j) σ) : MY (getI (.obj l) (.int k)) σ Q X := MY_of (w_getN h hk hj q)

structure SdY (st : Store) (l s : Nat) (vs : List V) (x : V) (P : V → Prop) (lt bad : V → V → Bool) (out : List V × Option (V × V)) (k : Nat) (σ : S) (ws : List V) : Prop where
  h1 : σ.lo "heap" = some (.obj l)
  h2 : σ.lo "startpos" = some (.int s)
  h3 : σ.lo "newitem" = some x
  h4 : σ.lo "pos" = some (.int (k : Nat))
  h5 : σ.st = st.set l (.lst ws)
  h6 : k < ws.length
  h7 : ∀ a ∈ ws, P a
  h8 : ws.length = vs.length
  h9 : sdE lt bad x s ws k = out

theorem siftdownE_spec {st : Store} {l : Nat} {vs : List V} {s p : Nat} (hl : st[l]? = some (.lst vs)) (hl0 : l ≠ 0) (hp : p < vs.length) (hn : vs.length ≤ 4000) (hP : ∀ a ∈ vs, P a) (hlt : CmpAt st l P lt bad te) :
    f_siftdown [.obj l, .int s, .int p] st = outE te st l .none (sdE lt bad (nth vs p) s vs p) := by
  refine funM_y rfl ?_
  generalize hO : sdE lt bad (nth vs p) s vs p = out
  have hPx : P (nth vs p) := hP _ (nth_mem hp)
  unfold siftdown_m
  apply y_seq
  walk_at "my"
  refine y_getN (by exact hl) rfl hp ?_
  walk_at "my"
  apply y_seq
  refine MY_while (fun k σ => ∃ ws, SdY st l s vs (nth vs p) P lt bad out k σ ws) ?_ 4096 p _ (by (first | lia | omega)) ⟨vs, rfl, rfl, rfl, rfl, (set_id hl).symm, hp, hP, rfl, hO⟩
  rintro k σ ⟨ws, h1, h2, h3, h4, h5, h6, h7, h8, h9⟩
  have hg : σ.st[l]? = some (.lst ws) := by rw [h5]; exact set_get hl
  clear hO
  have hset : ∀ us, σ.st.set l (.lst us) = st.set l (.lst us) := fun us => by rw [h5, List.set_set]
  rw [sdE] at h9
  unfold siftdown_w1_c siftdown_w1_b
  walk_at "my"
  split
  · rename_i hlt'
    have hsk : s < k := by have := of_decide_eq_true hlt'; (first | lia | omega)
    have hq : (k - 1) / 2 < ws.length := by (first | lia | omega)
    rw [dif_pos hsk] at h9
    apply y_seq
    walk_at "my"
    refine MY_of (MW_shr.mpr ⟨by (first | lia | omega), ?_⟩)
    have ek : ((k : Int) - 1) / 2 = (((k - 1) / 2 : Nat) : Int) := by (first | lia | omega)
    rw [ek]
    walk_at "my"
    apply y_seq
    walk_at "my"
    refine y_getN (by exact hg) rfl hq ?_
    walk_at "my"
    apply y_seq
    walk_at "my"
    have hPy : P (nth ws ((k - 1) / 2)) := h7 _ (nth_mem hq)
    refine MY_lt hlt (by exact h5) hPx hPy (fun hb => ?_) (fun hb => ?_)
    · rw [if_neg (by rw [hb]; decide)] at h9
      walk_at "my"
      split
      · rename_i hc
        rw [if_pos hc] at h9
        apply y_seq
        walk_at "my"
        refine MY_of ((MW_setI (by exact hg) hl0 rfl h6).mpr ?_)
        walk_at "my"
        apply y_seq
        walk_at "my"
        exact ⟨(k - 1) / 2, by (first | lia | omega), ws.set k (nth ws ((k - 1) / 2)), h1, h2, h3, rfl, hset _, by rw [List.length_set]; exact hq, all_set h7 hPy, by rw [List.length_set]; exact h8, h9⟩
      · rename_i hc
        rw [if_neg hc] at h9
        walk_at "my"
        refine MY_of ((MW_setI (by exact hg) hl0 rfl h6).mpr ?_)
        walk_at "my"
        rw [← h9]
        exact congrArg (Res.ok V.none) (hset _).symm
    · rw [if_pos hb] at h9
      rw [← h9]
      exact congrArg (Res.exc (te (nth vs p) (nth ws ((k - 1) / 2)))) h5.symm
  · rename_i hlt'
    rw [dif_neg (by intro h; exact hlt' (decide_eq_true (by (first | lia | omega))))] at h9
    walk_at "my"
    refine MY_of ((MW_setI (by exact hg) hl0 rfl h6).mpr ?_)
    walk_at "my"
    rw [← h9]
    exact congrArg (Res.ok V.none) (hset _).symm

structure SuY (st : Store) (l p : Nat) (vs : List V) (P : V → Prop) (lt bad : V → V → Bool) (out : (List V × Nat) × Option (V × V)) (k : Nat) (σ : S) (ws : List V) (q : Nat) : Prop where
  h1 : σ.lo "heap" = some (.obj l)
  h2 : σ.lo "endpos" = some (.int vs.length)
  h3 : σ.lo "startpos" = some (.int p)
  h4 : σ.lo "newitem" = some (nth vs p)
  h5 : σ.lo "pos" = some (.int (q : Nat))
  h6 : σ.lo "childpos" = some (.int (2 * (q : Int) + 1))
  h7 : σ.st = st.set l (.lst ws)
  h8 : q < ws.length
  h9 : ∀ a ∈ ws, P a
  h10 : ws.length = vs.length
  h11 : downE lt bad ws q = out
  h12 : k = vs.length - q

theorem siftupE_spec {st : Store} {l : Nat} {vs : List V} {p : Nat} (hl : st[l]? = some (.lst vs)) (hl0 : l ≠ 0) (hp : p < vs.length) (hn : vs.length ≤ 4000) (hP : ∀ a ∈ vs, P a) (hlt : CmpAt st l P lt bad te) :
    f_siftup [.obj l, .int p] st = outE te st l .none (suE lt bad vs p) := by
  refine funM_y rfl ?_
  unfold suE
  generalize hO : downE lt bad vs p = out
  have hPx : P (nth vs p) := hP _ (nth_mem hp)
  unfold siftup_m
  apply y_seq
  walk_at "my"
  refine MY_of ((MW_len (by exact hl)).mpr ?_)
  walk_at "my"
  apply y_seq
  walk_at "my"
  apply y_seq
  walk_at "my"
  refine y_getN (by exact hl) rfl hp ?_
  walk_at "my"
  apply y_seq
  walk_at "my"
  refine MY_of (MW_mul.mpr ⟨by (first | lia | omega), ?_⟩)
  walk_at "my"
  apply y_seq
  refine MY_while (fun k σ => ∃ ws q, SuY st l p vs P lt bad out k σ ws q) ?_ 4096 (vs.length - p) _ (by (first | lia | omega)) ⟨vs, p, rfl, rfl, rfl, rfl, rfl, rfl, (set_id hl).symm, hp, hP, rfl, hO, rfl⟩
  rintro k σ ⟨ws, q, h1, h2, h3, h4, h5, h6, h7, h8, h9, h10, h11, h12⟩
  have hg : σ.st[l]? = some (.lst ws) := by rw [h7]; exact set_get hl
  have hset : ∀ us, σ.st.set l (.lst us) = st.set l (.lst us) := fun us => by rw [h7, List.set_set]
  rw [downE] at h11
  unfold siftup_w1_c siftup_w1_b
  walk_at "my"
  split
  · rename_i hc
    have hc' : 2 * q + 1 < ws.length := by have := of_decide_eq_true hc; (first | lia | omega)
    rw [dif_pos hc'] at h11
    have hk1 := kid_gt lt ws q
    have hk2 := kid_lt (lt := lt) hc'
    apply y_seq
    walk_at "my"
    apply y_seq
    refine MY.mono (Q := fun f σ' => ¬ (2 * q + 2 < ws.length ∧ bad (nth ws (2 * q + 1)) (nth ws (2 * q + 2)) = true) ∧ f = .next ∧ σ'.lo "heap" = some (.obj l) ∧ σ'.lo "endpos" = some (.int vs.length) ∧ σ'.lo "startpos" = some (.int p) ∧ σ'.lo "newitem" = some (nth vs p) ∧ σ'.lo "pos" = some (.int (q : Nat)) ∧
      σ'.st = σ.st ∧ σ'.lo "childpos" = some (.int ((kid lt ws q : Nat) : Int))) (X := fun e σ' => (2 * q + 2 < ws.length ∧ bad (nth ws (2 * q + 1)) (nth ws (2 * q + 2)) = true) ∧ e = te (nth ws (2 * q + 1)) (nth ws (2 * q + 2)) ∧ σ'.st = σ.st) ?_ ?_ ?_
    · walk_at "my"
      split
      · rename_i hr
        have hr' : 2 * q + 2 < ws.length := by have := of_decide_eq_true hr; (first | lia | omega)
        walk_at "my"
        refine y_getN (j := 2 * q + 1) (by exact hg) (by (first | lia | omega)) hc' ?_
        walk_at "my"
        refine y_getN (j := 2 * q + 2) (by exact hg) (by (first | lia | omega)) hr' ?_
        walk_at "my"
        refine MY_lt hlt (by exact h7) (h9 _ (nth_mem hc')) (h9 _ (nth_mem hr')) (fun hb => ?_) (fun hb => ⟨⟨hr', hb⟩, rfl, rfl⟩)
        walk_at "my"
        have nb : ¬ (2 * q + 2 < ws.length ∧ bad (nth ws (2 * q + 1)) (nth ws (2 * q + 2)) = true) := fun h => by rw [hb] at h; cases h.2
        cases hb : lt (nth ws (2 * q + 1)) (nth ws (2 * q + 2)) with
        | true =>
          have hkid : kid lt ws q = 2 * q + 1 := by unfold kid; rw [if_neg (by rw [hb]; simp)]
          refine ⟨nb, rfl, h1, h2, h3, h4, h5, rfl, ?_⟩
          rw [hkid]; exact h6
        | false =>
          have hkid : kid lt ws q = 2 * q + 2 := by unfold kid; rw [if_pos ⟨hr', hb⟩]
          refine ⟨nb, rfl, h1, h2, h3, h4, h5, rfl, ?_⟩
          rw [hkid]; rfl
      · rename_i hr
        have hkid : kid lt ws q = 2 * q + 1 := by unfold kid; rw [if_neg (fun h => hr (decide_eq_true (by (first | lia | omega))))]
        refine ⟨fun h => hr (decide_eq_true (by (first | lia | omega))), rfl, h1, h2, h3, h4, h5, rfl, ?_⟩
        rw [hkid]; exact h6
    · clear h1 h2 h3 h4 h5 h6
      rintro f σ' ⟨nb, rfl, h1, h2, h3, h4, h5, g7, h6⟩
      rw [if_neg nb] at h11
      apply y_seq
      walk_at "my"
      refine y_getN (by rw [g7]; exact hg) rfl hk2 ?_
      walk_at "my"
      refine MY_of ((MW_setI (by rw [g7]; exact hg) hl0 rfl h8).mpr ?_)
      walk_at "my"
      apply y_seq
      walk_at "my"
      refine MY_of (MW_mul.mpr ⟨by (first | lia | omega), ?_⟩)
      walk_at "my"
      exact ⟨vs.length - kid lt ws q, by (first | lia | omega), ws.set q (nth ws (kid lt ws q)), kid lt ws q, h1, h2, h3, h4, rfl, rfl, by show σ'.st.set l _ = _; rw [g7]; exact hset _, by rw [List.length_set]; exact hk2, all_set h9 (h9 _ (nth_mem hk2)), by rw [List.length_set]; exact h10, h11, rfl⟩
    · rintro e σ' ⟨nb, rfl, g7⟩
      rw [if_pos nb] at h11
      rw [← h11, g7, h7]
      rfl
  · rename_i hc
    rw [dif_neg (fun h => hc (decide_eq_true (by (first | lia | omega))))] at h11
    apply y_seq
    walk_at "my"
    refine MY_of ((MW_setI (by exact hg) hl0 rfl h8).mpr ?_)
    walk_at "my"
    have hsd : f_siftdown [.obj l, .int p, .int q] (σ.st.set l (.lst (ws.set q (nth vs p)))) = outE te (st.set l (.lst (ws.set q (nth vs p)))) l .none (sdE lt bad (nth vs p) p (ws.set q (nth vs p)) q) := by
      rw [hset]
      have := siftdownE_spec (s := p) (set_get hl) hl0 (by rw [List.length_set]; exact h8) (by rw [List.length_set]; (first | lia | omega)) (all_set h9 hPx) (hlt.set (ws.set q (nth vs p)))
      rw [nth_set_self h8] at this
      exact this
    rw [outE_set] at hsd
    rw [← h11]
    refine MY_callE (by exact hsd) (fun hr => ?_) (fun e hr => ?_)
    · walk_at "my"
      exact outE_none hr
    · exact outE_some hr
end

local macro_rules | `(tactic| walk_at "my") => `(tactic| ((repeat (first | (with_reducible first | apply y_as | apply y_pure | apply y_set | apply y_tru | apply y_add | apply y_sub | apply y_lt | apply y_gt | apply y_t | apply y_f | apply y_if | apply z_pure | apply z_set | apply z_tru | apply y_neg | apply y_eq) | ((with_reducible first | apply y_get | apply z_get); · first | exact rfl | assumption))); try with_reducible apply y_end))
/-! part H15 -/
set_option autoImplicit false
set_option maxRecDepth 100000
set_option linter.unusedVariables false
set_option linter.unusedSimpArgs false
open PySem PySem.W PyProof.Rows
section
variable {P : V → Prop} {lt bad : V → V → Bool} {te : V → V → Exc}

theorem nth_last {vs : List V} {x : V} : nth (vs ++ [x]) vs.length = x := by unfold nth; simp
theorem heappushE_spec {st : Store} {l : Nat} {vs : List V} {x : V} (hl : st[l]? = some (.lst vs)) (hl0 : l ≠ 0) (hn : vs.length < 4000) (hP : ∀ a ∈ vs, P a) (hx : P x) (hlt : CmpAt st l P lt bad te) :
    f_heappush [.obj l, x] st = outE te st l .none (hpushE lt bad vs x) := by
  refine funM_y rfl ?_
  unfold heappush_m
  apply y_seq
  walk_at "my"
  refine MY_of ((MW_chkL (by exact hl)).mpr ?_)
  walk_at "my"
  refine MY_of ((MW_append (by exact hl) hl0 (by (first | lia | omega))).mpr ?_)
  walk_at "my"
  refine MY_of ((MW_len (vs := vs ++ [x]) (by exact set_get hl)).mpr ?_)
  walk_at "my"
  have e : (((vs ++ [x]).length : Nat) : Int) - 1 = ((vs.length : Nat) : Int) := by simp
  rw [e]
  have hsd : f_siftdown [.obj l, .int ((0 : Nat) : Int), .int ((vs.length : Nat) : Int)] (st.set l (.lst (vs ++ [x]))) = outE te st l .none (hpushE lt bad vs x) := by
    have := siftdownE_spec (te := te) (lt := lt) (bad := bad) (P := P) (s := 0) (p := vs.length) (set_get hl) hl0 (by simp) (by simp; (first | lia | omega)) (by
      intro a ha
      rcases List.mem_append.mp ha with h | h
      · exact hP a h
      · rw [List.mem_singleton.mp h]; exact hx) (hlt.set (vs ++ [x]))
    rw [nth_last, outE_set] at this
    exact this
  refine MY_callE (by exact hsd) (fun hr => ?_) (fun e hr => ?_)
  · walk_at "my"
    exact outE_none hr
  · exact outE_some hr

theorem heapreplaceE_spec {st : Store} {l : Nat} {vs : List V} {x : V} (hl : st[l]? = some (.lst vs)) (hl0 : l ≠ 0) (h0 : 0 < vs.length) (hn : vs.length ≤ 4000) (hP : ∀ a ∈ vs.set 0 x, P a) (hlt : CmpAt st l P lt bad te) :
    f_heapreplace [.obj l, x] st = outE te st l (nth vs 0) (suE lt bad (vs.set 0 x) 0) := by
  refine funM_y rfl ?_
  unfold heapreplace_m
  apply y_seq
  walk_at "my"
  refine MY_ok (getIX_ok (by exact hl) (nth_eq h0)) ?_
  walk_at "my"
  apply y_seq
  walk_at "my"
  refine MY_of ((MW_setI (j := 0) (by exact hl) hl0 rfl h0).mpr ?_)
  walk_at "my"
  apply y_seq
  walk_at "my"
  have hsu : f_siftup [.obj l, .int ((0 : Nat) : Int)] (st.set l (.lst (vs.set 0 x))) = outE te st l .none (suE lt bad (vs.set 0 x) 0) := by
    have := siftupE_spec (te := te) (lt := lt) (bad := bad) (P := P) (p := 0) (set_get hl) hl0 (by rw [List.length_set]; exact h0) (by rw [List.length_set]; (first | lia | omega)) hP (hlt.set (vs.set 0 x))
    rw [outE_set] at this
    exact this
  refine MY_callE (by exact hsu) (fun hr => ?_) (fun e hr => ?_)
  · walk_at "my"
    exact outE_none hr
  · exact outE_some hr

theorem heappopE_spec {st : Store} {l : Nat} {vs : List V} (hl : st[l]? = some (.lst vs)) (hl0 : l ≠ 0) (h0 : 0 < vs.length) (hn : vs.length ≤ 4000) (hP : ∀ a ∈ (vs.eraseIdx (vs.length - 1)).set 0 (nth vs (vs.length - 1)), P a) (hlt : CmpAt st l P lt bad te) :
    f_heappop [.obj l] st = outE te st l (nth vs 0) (hpopE lt bad vs) := by
  refine funM_y rfl ?_
  unfold heappop_m
  have hlen : (vs.eraseIdx (vs.length - 1)).length = vs.length - 1 := by rw [List.length_eraseIdx]; simp; (first | lia | omega)
  apply y_seq
  walk_at "my"
  refine MY_of ((MW_chkL (by exact hl)).mpr ?_)
  walk_at "my"
  refine MY_of ((MW_pop (by exact hl) hl0 (nth_eq (by (first | lia | omega)))).mpr ?_)
  walk_at "my"
  apply y_seq
  walk_at "my"
  refine MY_of ((MW_truL (vs := vs.eraseIdx (vs.length - 1)) (by exact set_get hl)).mpr ?_)
  by_cases h1 : vs.length ≤ 1
  · have he : vs.eraseIdx (vs.length - 1) = [] := List.eq_nil_of_length_eq_zero (by (first | lia | omega))
    have hp : hpopE lt bad vs = ([], none) := by unfold hpopE; rw [if_pos h1]
    rw [he]
    simp only [List.isEmpty_nil, Bool.not_true, Bool.false_eq_true, if_false]
    walk_at "my"
    rw [hp]
    have : vs.length - 1 = 0 := by (first | lia | omega)
    rw [this]
    rfl
  · have he : (vs.eraseIdx (vs.length - 1)).isEmpty = false := by
      cases h : vs.eraseIdx (vs.length - 1) with
      | nil => rw [h] at hlen; simp at hlen; (first | lia | omega)
      | cons a b => rfl
    have hn0 : nth (vs.eraseIdx (vs.length - 1)) 0 = nth vs 0 := by
      have h2 := eraseLast_append h0
      conv => rhs; rw [← h2]
      rw [nth_append_left (by (first | lia | omega))]
    have hp : hpopE lt bad vs = suE lt bad ((vs.eraseIdx (vs.length - 1)).set 0 (nth vs (vs.length - 1))) 0 := by unfold hpopE; rw [if_neg h1]
    rw [he, hp]
    simp only [Bool.not_false, if_true]
    apply y_seq
    walk_at "my"
    refine y_getN (vs := vs.eraseIdx (vs.length - 1)) (j := 0) (by exact set_get hl) rfl (by (first | lia | omega)) ?_
    walk_at "my"
    apply y_seq
    walk_at "my"
    refine MY_of ((MW_setI (vs := vs.eraseIdx (vs.length - 1)) (j := 0) (by exact set_get hl) hl0 rfl (by (first | lia | omega))).mpr ?_)
    walk_at "my"
    apply y_seq
    walk_at "my"
    have hsu : f_siftup [.obj l, .int ((0 : Nat) : Int)] ((st.set l (.lst (vs.eraseIdx (vs.length - 1)))).set l (.lst ((vs.eraseIdx (vs.length - 1)).set 0 (nth vs (vs.length - 1))))) = outE te st l .none (suE lt bad ((vs.eraseIdx (vs.length - 1)).set 0 (nth vs (vs.length - 1))) 0) := by
      rw [List.set_set]
      have := siftupE_spec (te := te) (lt := lt) (bad := bad) (P := P) (p := 0) (set_get hl) hl0 (by rw [List.length_set]; (first | lia | omega)) (by rw [List.length_set]; (first | lia | omega)) hP (hlt.set ((vs.eraseIdx (vs.length - 1)).set 0 (nth vs (vs.length - 1))))
      rw [outE_set] at this
      exact this
    refine MY_callE (by exact hsu) (fun hr => ?_) (fun e hr => ?_)
    · walk_at "my"
      rw [← hn0]
      exact outE_none hr
    · exact outE_some hr

theorem heappushpopE_exc {st : Store} {l : Nat} {vs : List V} {x : V} (hl : st[l]? = some (.lst vs)) (h0 : 0 < vs.length) (hP : ∀ a ∈ vs, P a) (hx : P x) (hlt : CmpAt st l P lt bad te) (hb : bad (nth vs 0) x = true) :
    f_heappushpop [.obj l, x] st = .exc (te (nth vs 0) x) st := by
  refine funM_y rfl ?_
  unfold heappushpop_m
  apply y_seq
  walk_at "my"
  refine MY_of ((MW_truL (by exact hl)).mpr ?_)
  have he : vs.isEmpty = false := by cases vs with | nil => simp at h0 | cons a b => rfl
  rw [he]
  simp only [Bool.not_false, if_true]
  walk_at "my"
  refine y_getN (j := 0) (by exact hl) rfl h0 ?_
  walk_at "my"
  exact MY_lt hlt (by exact (set_id hl).symm) (hP _ (nth_mem h0)) hx (fun h => by rw [hb] at h; cases h) (fun _ => rfl)

end

local macro_rules | `(tactic| walk_at "mx") => `(tactic| ((repeat (first | (with_reducible first | apply w_as | apply w_pure | apply w_set | apply w_tru | apply w_add | apply w_sub | apply w_lt | apply w_gt | apply w_t | apply w_f | apply w_if | apply e_pure | apply e_set | apply e_tru | apply q_cond | apply w_ge | apply w_le | apply w_neg | apply w_eq | apply w_ne) | ((with_reducible first | apply w_get | apply e_get); · first | exact rfl | assumption))); try with_reducible apply w_end))
/-! part H16 -/
set_option autoImplicit false
set_option maxRecDepth 100000
set_option linter.unusedVariables false
set_option linter.unusedSimpArgs false
open PySem PySem.W PyProof.Rows
section
section
variable {α : Type} [Inhabited α] {lt bad : α → α → Bool}
theorem downE_none : ∀ (k : Nat) (vs : List α) (pos : Nat), vs.length - pos ≤ k → (∀ i j, pos < i → i < vs.length → pos < j → j < vs.length → bad (nth vs i) (nth vs j) = false) → downE lt bad vs pos = (down lt vs pos, none) := by
  intro k
  induction k with
  | zero => intro vs pos h hb; rw [downE, down, dif_neg (by (first | lia | omega)), dif_neg (by (first | lia | omega))]
  | succ k ih =>
    intro vs pos h hb
    rw [downE, down]
    split
    · rename_i hc
      rw [if_neg (by rintro ⟨h1, h2⟩; rw [hb _ _ (by (first | lia | omega)) (by (first | lia | omega)) (by (first | lia | omega)) h1] at h2; cases h2)]
      have h3 := kid_gt lt vs pos
      refine ih _ _ (by simp; (first | lia | omega)) fun i j h1 h2 h4 h5 => ?_
      rw [List.length_set] at h2 h5
      rw [nth_set_ne (by (first | lia | omega)), nth_set_ne (by (first | lia | omega))]
      exact hb i j (by (first | lia | omega)) h2 (by (first | lia | omega)) h5
    · rfl
theorem sdE_none (x : α) (s : Nat) : ∀ (pos : Nat) (vs : List α), pos < vs.length → (∀ j, j < vs.length → bad x (nth vs j) = false) → sdE lt bad x s vs pos = (sd lt x s vs pos, none) := by
  intro pos
  induction pos using Nat.strongRecOn with
  | _ pos ih =>
    intro vs hp hb
    rw [sdE, sd]
    split
    · rw [if_neg (by rw [hb _ (by (first | lia | omega))]; decide)]
      split
      · refine ih _ (by (first | lia | omega)) _ (by rw [List.length_set]; (first | lia | omega)) fun j hj => ?_
        rw [List.length_set] at hj
        by_cases e : j = pos
        · rw [e, nth_set_self hp]; exact hb _ (by (first | lia | omega))
        · rw [nth_set_ne (Ne.symm e)]; exact hb j hj
      · rfl
    · rfl
theorem suE_none {vs : List α} {pos : Nat} (hp : pos < vs.length) (hb : ∀ a ∈ vs, ∀ b ∈ vs, bad a b = false) : suE lt bad vs pos = (su lt vs pos, none) := by
  unfold suE su
  rw [downE_none _ vs pos (Nat.le_refl _) fun i j _ hi _ hj => hb _ (nth_mem hi) _ (nth_mem hj)]
  dsimp only
  have hl := down_length lt _ vs pos (Nat.le_refl _)
  have hq := down_pos_lt lt _ vs pos (Nat.le_refl _) hp
  have hpm := down_perm lt (nth vs pos) _ vs pos (Nat.le_refl _) hp
  rw [set_nth] at hpm
  exact sdE_none _ _ _ _ (by rw [List.length_set, hl]; exact hq) fun j hj => hb _ (nth_mem hp) _ (hpm.mem_iff.mp (nth_mem hj))
end

/-! ### where all may be compared -/
variable {P : V → Prop} {lt : V → V → Bool}
noncomputable def noE (a b : V) : Exc := ⟨"TypeError", Str.ofString ""⟩
theorem CmpAt.of {st : Store} {l : Nat} (h : LtAtL st l P lt) : CmpAt st l P lt (fun _ _ => false) noE := fun ws a b ha hb lo => by
  rw [if_neg (by simp)]
  exact ltX_ok (h ws a b ha hb lo)
theorem heappushN {st : Store} {l : Nat} {vs : List V} {x : V} (hl : st[l]? = some (.lst vs)) (hl0 : l ≠ 0) (hn : vs.length < 4000) (hP : ∀ a ∈ vs, P a) (hx : P x) (hlt : LtAtL st l P lt) :
    f_heappush [.obj l, x] st = .ok .none (st.set l (.lst (hpush lt vs x))) := by
  rw [heappushE_spec hl hl0 hn hP hx (CmpAt.of hlt)]
  unfold hpushE
  rw [sdE_none _ _ _ _ (by simp) fun _ _ => rfl]
  rfl
theorem heappopN {st : Store} {l : Nat} {vs : List V} (hl : st[l]? = some (.lst vs)) (hl0 : l ≠ 0) (h0 : 0 < vs.length) (hn : vs.length ≤ 4000) (hP : ∀ a ∈ vs, P a) (hlt : LtAtL st l P lt) :
    f_heappop [.obj l] st = .ok (hpop lt vs).1 (st.set l (.lst (hpop lt vs).2)) := by
  have hPs : ∀ a ∈ (vs.eraseIdx (vs.length - 1)).set 0 (nth vs (vs.length - 1)), P a := all_set (fun a ha => hP a (List.mem_of_mem_eraseIdx ha)) (hP _ (nth_mem (by (first | lia | omega))))
  rw [heappopE_spec hl hl0 h0 hn hPs (CmpAt.of hlt)]
  have e : hpopE lt (fun _ _ => false) vs = ((hpop lt vs).2, none) ∧ (hpop lt vs).1 = nth vs 0 := by
    unfold hpopE hpop
    by_cases h1 : vs.length ≤ 1
    · rw [if_pos h1, if_pos h1]; exact ⟨rfl, rfl⟩
    · rw [if_neg h1, if_neg h1]
      have hlen : (vs.eraseIdx (vs.length - 1)).length = vs.length - 1 := by rw [List.length_eraseIdx]; simp; (first | lia | omega)
      rw [suE_none (by rw [List.length_set]; (first | lia | omega)) fun _ _ _ _ => rfl]
      exact ⟨rfl, rfl⟩
  rw [e.1, e.2]
  rfl
theorem siftupN {st : Store} {l : Nat} {vs : List V} {p : Nat} (hl : st[l]? = some (.lst vs)) (hl0 : l ≠ 0) (hp : p < vs.length) (hn : vs.length ≤ 4000) (hP : ∀ a ∈ vs, P a) (hlt : LtAtL st l P lt) :
    f_siftup [.obj l, .int p] st = .ok .none (st.set l (.lst (su lt vs p))) := by
  rw [siftupE_spec hl hl0 hp hn hP (CmpAt.of hlt), suE_none hp fun _ _ _ _ => rfl]
  rfl
theorem heappushpopN {st : Store} {l : Nat} {vs : List V} {x : V} (hl : st[l]? = some (.lst vs)) (hl0 : l ≠ 0) (hn : vs.length ≤ 4000) (hP : ∀ a ∈ vs, P a) (hx : P x) (hlt : LtAtL st l P lt) :
    f_heappushpop [.obj l, x] st = if 0 < vs.length ∧ lt (nth vs 0) x = true then .ok (nth vs 0) (st.set l (.lst (su lt (vs.set 0 x) 0))) else .ok x st := by
  refine funM_y rfl ?_
  unfold heappushpop_m
  apply y_seq
  walk_at "my"
  refine MY_of ((MW_truL (by exact hl)).mpr ?_)
  by_cases h0 : 0 < vs.length
  · have he : vs.isEmpty = false := by cases vs with | nil => simp at h0 | cons a b => rfl
    rw [he]
    simp only [Bool.not_false, if_true]
    walk_at "my"
    refine y_getN (j := 0) (by exact hl) rfl h0 ?_
    walk_at "my"
    refine MY_lt (CmpAt.of hlt) (by exact (set_id hl).symm) (hP _ (nth_mem h0)) hx (fun _ => ?_) (fun h => nomatch h)
    walk_at "my"
    cases hb : lt (nth vs 0) x with
    | false =>
      walk_at "my"
      rw [if_neg (by simp)]
    | true =>
      walk_at "my"
      apply y_seq
      walk_at "my"
      refine y_getN (j := 0) (by exact hl) rfl h0 ?_
      walk_at "my"
      refine MY_of ((MW_mkT (by simp)).mpr ?_)
      refine MY_of (w_end (MW_unpack2.mpr (MW_consT.mpr ?_)))
      walk_at "mx"
      refine MW_consT.mpr ?_
      walk_at "mx"
      refine (MW_setI (j := 0) (by exact hl) hl0 rfl h0).mpr ?_
      walk_at "mx"
      refine MY_of (w_end (MW_callF' (by exact siftupN (p := 0) (set_get hl) hl0 (by rw [List.length_set]; exact h0) (by rw [List.length_set]; (first | lia | omega)) (all_set hP hx) (hlt.set _)) ?_))
      walk_at "mx"
      rw [if_pos ⟨h0, rfl⟩, List.set_set]
      walk_at "my"
      rfl
  · have he : vs.isEmpty = true := by cases vs with | nil => rfl | cons a b => simp at h0
    rw [he]
    simp only [Bool.not_true, Bool.false_eq_true, if_false]
    walk_at "my"
    rw [if_neg fun h => h0 h.1]
theorem heapifyN {st : Store} {l : Nat} {vs : List V} (hl : st[l]? = some (.lst vs)) (hl0 : l ≠ 0) (hn : vs.length ≤ 4000) (hP : ∀ a ∈ vs, P a) (hlt : LtAtL st l P lt) :
    f_heapify [.obj l] st = .ok .none (st.set l (.lst (hpfy lt (vs.length / 2) vs))) := by
  refine funM_of rfl ?_
  unfold heapify_m
  apply w_seq
  walk_at "mx"
  refine (MW_len (by exact hl)).mpr ?_
  walk_at "mx"
  refine MW_fdiv.mpr ⟨by (first | lia | omega), ?_⟩
  have e : ((vs.length : Nat) : Int) / 2 = ((vs.length / 2 : Nat) : Int) := by (first | lia | omega)
  rw [e]
  walk_at "mx"
  refine (MW_fun_ok (a := V.rng 0 ((vs.length / 2 : Nat) : Int) 1) (σ' := _) rfl).mpr ?_
  walk_at "mx"
  refine (MW_fun_ok (a := V.rng (((vs.length / 2 : Nat) : Int) - 1) (-1) (-1)) (σ' := _) (by rw [revR_eq (by (first | lia | omega))]; rfl)).mpr ?_
  have hlen : rngLen (((vs.length / 2 : Nat) : Int) - 1) (-1) (-1) = vs.length / 2 := by
    have := rngLen_eq (((vs.length / 2 : Nat) : Int) - 1) (-1) (-1)
    rw [rangeSize_down (by (first | lia | omega))] at this
    (first | lia | omega)
  refine MW_for (vs.length / 2) (fun i σ => ∃ ws, σ.lo "x" = some (.obj l) ∧ σ.st = st.set l (.lst ws) ∧ (∀ a ∈ ws, P a) ∧ ws.length = vs.length ∧ hpfy lt (vs.length / 2 - i) ws = hpfy lt (vs.length / 2) vs) ?_ ?_ 4096 0 _ (Nat.zero_le _) (by (first | lia | omega))
    ⟨vs, rfl, (set_id hl).symm, hP, rfl, rfl⟩
  · rintro σ ⟨ws, h1, h2, h3, h4, h5⟩
    refine ⟨?_, rfl, ?_⟩
    · rw [nxt_rng, hlen, if_neg (by (first | lia | omega))]
    · rw [Nat.sub_self] at h5
      rw [h2, ← h5]; rfl
  · rintro i σ hi ⟨ws, h1, h2, h3, h4, h5⟩
    refine ⟨.int (((vs.length / 2 - i - 1 : Nat) : Int)), ?_, ?_⟩
    · rw [nxt_rng, hlen, if_pos hi]
      have : (((vs.length / 2 : Nat) : Int) - 1) + (i : Int) * (-1) = ((vs.length / 2 - i - 1 : Nat) : Int) := by (first | lia | omega)
      rw [this]
    · unfold heapify_l1_t heapify_l1_b
      walk_at "mx"
      have hsu : f_siftup [.obj l, .int ((vs.length / 2 - i - 1 : Nat) : Int)] σ.st = .ok .none ((st.set l (.lst ws)).set l (.lst (su lt ws (vs.length / 2 - i - 1)))) := by
        rw [h2]
        exact siftupN (set_get hl) hl0 (by (first | lia | omega)) (by (first | lia | omega)) h3 (hlt.set _)
      refine MW_callF' (by exact hsu) ?_
      walk_at "mx"
      refine ⟨su lt ws (vs.length / 2 - i - 1), h1, by rw [List.set_set], fun a ha => h3 a ((su_perm lt ws _ (by (first | lia | omega))).mem_iff.mp ha), by rw [su_length]; exact h4, ?_⟩
      rw [← h5]
      have e2 : vs.length / 2 - i = (vs.length / 2 - (i + 1)) + 1 := by (first | lia | omega)
      rw [e2]
      rfl
end

/-! part S6 -/
set_option autoImplicit false
set_option maxRecDepth 100000
set_option linter.unusedVariables false
open PySem PySem.W PyProof.Rows
section
/-! ### the sort of two runs: what stands at the places -/
section
variable {prog : Program} {w : World} {A : Around} {E : Value → Shared → Prop} {s : Shared}
/-- m does Q, and leaves s -/
noncomputable def sC (prog : Program) (w : World) (A : Around) (E : Value → Shared → Prop) (s : Shared) {α : Type} (m : StateT SortSt Sem α) (Q : α → SortSt → Prop) (st : SortSt) : Prop :=
  kasC (model prog w) A E m (fun a st' s' => s' = s ∧ Q a st') st s
variable {α β : Type} {st : SortSt}
theorem sC_mono {m : StateT SortSt Sem α} {Q Q' : α → SortSt → Prop} (h : sC prog w A E s m Q st) (k : ∀ a st', Q a st' → Q' a st') : sC prog w A E s m Q' st :=
  wpAny_mono h (fun _ _ q => ⟨q.1, k _ _ q.2⟩) fun _ _ e => e
theorem sC_pure {a : α} {Q : α → SortSt → Prop} (h : Q a st) : sC prog w A E s (pure a) Q st := kasC_pure ⟨rfl, h⟩
theorem sC_bind {m : StateT SortSt Sem α} {f : α → StateT SortSt Sem β} {Q : β → SortSt → Prop} (h : sC prog w A E s m (fun a st' => sC prog w A E s (f a) Q st') st) : sC prog w A E s (m >>= f) Q st := by
  refine kasC_bind (wpAny_mono h (fun r s' q => ?_) fun _ _ e => e)
  obtain ⟨rfl, q⟩ := q
  exact q
theorem sC_get {Q : SortSt → SortSt → Prop} (h : Q st st) : sC prog w A E s get Q st := kasC_get ⟨rfl, h⟩
theorem sC_modify {f : SortSt → SortSt} {Q : PUnit → SortSt → Prop} (h : Q ⟨⟩ (f st)) : sC prog w A E s (modify f) Q st := kasC_modify ⟨rfl, h⟩
theorem sC_rule {x : String} {f : PUnit → StateT SortSt Sem β} {Q : β → SortSt → Prop} (h : sC prog w A E s (f ⟨⟩) Q st) : sC prog w A E s ((liftM (rule x : Sem PUnit) : StateT SortSt Sem PUnit) >>= f) Q st :=
  kasC_bind (kasC_lift (wpAny_rule h))
theorem sC_for {b : β} {f : Nat → β → StateT SortSt Sem (ForInStep β)} {Q : β → SortSt → Prop} (I : Nat → β → SortSt → Prop) {a c : Nat} (h0 : I a b st)
    (step : ∀ j b st, a ≤ j → j < c → I j b st → sC prog w A E s (f j b) (fun r st' => match r with | .done b' => Q b' st' | .yield b' => I (j + 1) b' st') st)
    (fin : ∀ b st, I (max a c) b st → Q b st) : sC prog w A E s (forIn [a:c] b f) Q st := by
  refine kasC_range ?_
  have go : ∀ (k j : Nat) (b : β) (st : SortSt), a ≤ j → j + k = max a c → I j b st → sC prog w A E s (forIn (List.range' j k) b f) Q st := by
    intro k
    induction k with
    | zero => intro j b st h1 h2 hI; exact kasC_nil ⟨rfl, fin b st (by rw [← h2]; exact hI)⟩
    | succ k ih =>
      intro j b st h1 h2 hI
      rw [List.range'_succ]
      refine kasC_cons (wpAny_mono (step j b st h1 (by (first | lia | omega)) hI) (fun r s' q => ?_) fun _ _ e => e)
      obtain ⟨⟨r, st'⟩, rfl⟩ : ∃ x, r = x := ⟨r, rfl⟩
      obtain ⟨rfl, q⟩ := q
      cases r with
      | done b' => exact ⟨rfl, q⟩
      | yield b' => exact ih (j + 1) b' st' (by (first | lia | omega)) (by (first | lia | omega)) q
  exact go (c - a) a b st (Nat.le_refl _) (by (first | lia | omega)) h0
end

section
variable {prog : Program} {w : World} {A : Around} {E : Value → Shared → Prop} {s : Shared} {κ : SortKind} {it : Array Keyed} {n : Nat} {ask : Nat → Nat → Bool}
noncomputable def AskAt (prog : Program) (w : World) (A : Around) (s : Shared) (κ : SortKind) (it : Array Keyed) (n : Nat) (ask : Nat → Nat → Bool) : Prop := ∀ i j, i < n → j < n → ∀ C : Bool → Shared → Prop, C (ask i j) s → kas_cmp prog w A κ it i j C s
noncomputable def St (κ : SortKind) (it : Array Keyed) (p : Array Nat) (pd : Array (Nat × Nat × Nat)) (g : Nat) : SortSt := SortSt.mk' κ (p.map (kas_item it)) pd g none
theorem sC_lt {i j : Nat} {p : Array Nat} {pd : Array (Nat × Nat × Nat)} {g : Nat} {Q : Option Bool → SortSt → Prop} (H : AskAt prog w A s κ it n ask) (hi : i < n) (hj : j < n) (h : Q (some (ask i j)) (St κ it p pd g)) :
    sC prog w A E s (lt' (kas_item it i) (kas_item it j)) Q (St κ it p pd g) := by
  unfold sC
  rw [lt'_eq]
  refine kasC_bind (kasC_get ?_)
  refine kasC_bind (kasC_lift (wpAny_attempt (wpAny_mono (H i j hi hj (fun c s' => c = ask i j ∧ s' = s) ⟨rfl, rfl⟩) (fun c s' hc => ?_) fun _ _ hF => hF.elim)))
  obtain ⟨rfl, rfl⟩ := hc
  exact kasC_pure ⟨rfl, h⟩
theorem sC_elem {q : Array Nat} {i : Nat} {st : SortSt} {Q : Keyed → SortSt → Prop} (hi : i < q.size) (h : Q (kas_item it (at0 q i)) st) : sC prog w A E s (elem' (q.map (kas_item it)) i) Q st := by
  unfold sC
  rw [elem'_eq]
  have e : (q.map (kas_item it))[i]? = some (kas_item it (at0 q i)) := by
    unfold at0
    simp [Array.getD, hi]
  rw [e]
  exact kasC_pure ⟨rfl, h⟩
noncomputable def gallop' : Bool → Keyed → Array Keyed → Nat → Nat → Nat → StateT SortSt Sem (Option Nat) := sortPriv% PySem.Builtin.gallop
/-- whether the k-th goes ahead of the key -/
noncomputable def byd (ask : Nat → Nat → Bool) (left : Bool) (key : Nat) (q : Array Nat) (base i : Nat) : Bool := if left = true then ask (at0 q (base + i)) key else !ask key (at0 q (base + i))


noncomputable abbrev L3 := Option (Option Nat) × Nat × Nat
theorem bs_loop {γ : Type} {B : Nat → Bool} {m : Nat} {st : SortSt} {f : Nat → Option γ × Nat × Nat → StateT SortSt Sem (ForInStep (Option γ × Nat × Nat))} {Q : Option γ × Nat × Nat → SortSt → Prop} {lo hi : Nat} (mono : ∀ i j, i < j → j < m → B j = true → B i = true)
    (hf1 : ∀ x lo hi, lo ≥ hi → f x (none, lo, hi) = pure (ForInStep.done (none, lo, hi)))
    (hf2 : ∀ x lo hi (Q' : ForInStep (Option γ × Nat × Nat) → SortSt → Prop), lo < hi → hi ≤ m → Q' (.yield (if B (lo + (hi - lo) / 2) = true then (none, lo + (hi - lo) / 2 + 1, hi) else (none, lo, lo + (hi - lo) / 2))) st → sC prog w A E s (f x (none, lo, hi)) Q' st)
    (h1 : lo ≤ hi) (h2 : hi ≤ m) (h3 : ∀ i, i < lo → B i = true) (h4 : ∀ i, hi ≤ i → i < m → B i = false)
    (h : ∀ r, r ≤ m → (∀ i, i < r → B i = true) → (∀ i, r ≤ i → i < m → B i = false) → Q (none, r, r) st) : sC prog w A E s (forIn [:m] (none, lo, hi) f) Q st := by
  refine sC_for (fun j b st' => st' = st ∧ ∃ lo hi, b = (none, lo, hi) ∧ lo ≤ hi ∧ hi ≤ m ∧ hi + j ≤ m + lo ∧ (∀ i, i < lo → B i = true) ∧ ∀ i, hi ≤ i → i < m → B i = false) ⟨rfl, lo, hi, rfl, h1, h2, by (first | lia | omega), h3, h4⟩ ?_ ?_
  · rintro j b st' _ hj ⟨rfl, lo, hi, rfl, a1, a2, a3, a4, a5⟩
    by_cases hl : lo ≥ hi
    · rw [hf1 j lo hi hl]
      cases Nat.le_antisymm a1 hl
      exact sC_pure (h lo a2 a4 a5)
    · have hl := Nat.not_le.mp hl
      refine hf2 j lo hi _ hl a2 ?_
      obtain ⟨mid, hm, m1, m2⟩ : ∃ mid, lo + (hi - lo) / 2 = mid ∧ lo ≤ mid ∧ mid < hi := ⟨_, rfl, by (first | lia | omega), by (first | lia | omega)⟩
      rw [hm]
      cases hb : B mid with
      | true =>
        dsimp only
        rw [if_pos rfl]
        refine ⟨rfl, _, _, rfl, m2, a2, by (first | lia | omega), fun i hi' => ?_, a5⟩
        rcases Nat.lt_succ_iff_lt_or_eq.mp hi' with e | e
        · exact mono i _ e (Nat.lt_of_lt_of_le m2 a2) hb
        · rw [e]; exact hb
      | false =>
        dsimp only
        rw [if_neg (by decide)]
        refine ⟨rfl, _, _, rfl, m1, by (first | lia | omega), by (first | lia | omega), a4, fun i h6 h7 => ?_⟩
        cases hbi : B i with
        | false => rfl
        | true =>
          rcases Nat.eq_or_lt_of_le h6 with e | e
          · rw [← e, hb] at hbi; cases hbi
          · rw [mono _ i e h7 hbi] at hb; cases hb
  · rintro b st' ⟨rfl, lo, hi, rfl, a1, a2, a3, a4, a5⟩
    cases Nat.le_antisymm a1 (by (first | lia | omega))
    exact h lo a2 a4 a5
theorem ex_loop {T : Nat → Bool} {m M : Nat} {st : SortSt} {f : Nat → L3 → StateT SortSt Sem (ForInStep L3)} {Q : L3 → SortSt → Prop} (hM : M ≤ m)
    (hf1 : ∀ x la of, of ≥ M → f x (none, la, of) = pure (ForInStep.done (none, la, of)))
    (hf2 : ∀ x la of (Q' : ForInStep L3 → SortSt → Prop), of < M → 1 ≤ of → Q' (if T of = true then .yield (none, of, 2 * of + 1) else .done (none, la, of)) st → sC prog w A E s (f x (none, la, of)) Q' st)
    (h : ∀ la of, la < of → (la = 0 ∨ (la < M ∧ T la = true)) → (M ≤ of ∨ T of = false) → Q (none, la, of) st) : sC prog w A E s (forIn [:m] (none, 0, 1) f) Q st := by
  refine sC_for (fun j b st' => st' = st ∧ ∃ la of, b = (none, la, of) ∧ la < of ∧ j + 1 ≤ of ∧ (la = 0 ∨ (la < M ∧ T la = true))) ⟨rfl, 0, 1, rfl, by (first | lia | omega), by (first | lia | omega), .inl rfl⟩ ?_ ?_
  · rintro j b st' _ hj ⟨rfl, la, of, rfl, a1, a2, a3⟩
    by_cases hl : of ≥ M
    · rw [hf1 j la of hl]
      exact sC_pure (h la of a1 a3 (.inl hl))
    · refine hf2 j la of _ (by (first | lia | omega)) (by (first | lia | omega)) ?_
      cases hb : T of with
      | true =>
        rw [if_pos rfl]
        exact ⟨rfl, _, _, rfl, by (first | lia | omega), by (first | lia | omega), .inr ⟨by (first | lia | omega), hb⟩⟩
      | false =>
        rw [if_neg (by decide)]
        exact h la of a1 a3 (.inr hb)
  · rintro b st' ⟨rfl, la, of, rfl, a1, a2, a3⟩
    exact h la of a1 a3 (.inl (by (first | lia | omega)))

theorem gallop_ok {left : Bool} {key : Nat} {q p : Array Nat} {base m hint : Nat} {pd : Array (Nat × Nat × Nat)} {g : Nat} {Q : Option Nat → SortSt → Prop} (H : AskAt prog w A s κ it n ask) (hk : key < n) (hq : ∀ i, at0 q i < n) (hb : base + m ≤ q.size) (hh : hint < m)
    (mono : ∀ i j, i < j → j < m → byd ask left key q base j = true → byd ask left key q base i = true)
    (h : ∀ r, r ≤ m → (∀ i, i < r → byd ask left key q base i = true) → (∀ i, r ≤ i → i < m → byd ask left key q base i = false) → Q (some r) (St κ it p pd g)) :
    sC prog w A E s (gallop' left (kas_item it key) (q.map (kas_item it)) base m hint) Q (St κ it p pd g) := by
  have hB : ∀ (i : Nat) (Q' : Option Bool → SortSt → Prop), i < m → Q' (some (byd ask left key q base i)) (St κ it p pd g) → sC prog w A E s (do
      let x ← elem' (q.map (kas_item it)) (base + i)
      if left = true then lt' x (kas_item it key) else do return (← lt' (kas_item it key) x).map (!·)) Q' (St κ it p pd g) := by
    intro i Q' hi hQ
    refine sC_bind (sC_elem (by (first | lia | omega)) ?_)
    unfold byd at hQ
    cases left with
    | true => exact sC_lt H (hq _) hk hQ
    | false => exact sC_bind (sC_lt H hk (hq _) (sC_pure hQ))
  generalize hBd : byd ask left key q base = B at mono h hB
  refine sC_bind ?_
  refine hB hint _ hh ?_
  cases hb0 : B hint with
  | true =>
    refine sC_bind (ex_loop (T := fun o => B (hint + o)) (M := m - hint) (by (first | lia | omega)) (fun x la of h => if_pos h) ?_ ?_)
    · intro x la of Q' h1 h2 hQ
      dsimp only
      rw [if_neg (by (first | lia | omega))]
      refine sC_bind (hB (hint + of) _ (by (first | lia | omega)) ?_)
      cases hT : B (hint + of) with
      | true => rw [hT] at hQ; exact sC_pure hQ
      | false => rw [hT] at hQ; exact sC_pure hQ
    · intro la of h1 h2 h3
      dsimp only
      have c3 : ∀ i, i < hint + la + 1 → B i = true := by
        intro i hi
        have hx : B (hint + la) = true := by
          rcases h2 with rfl | h2
          · exact hb0
          · exact h2.2
        by_cases e : i = hint + la
        · rw [e]; exact hx
        · exact mono i (hint + la) (by (first | lia | omega)) (by (first | lia | omega)) hx
      have c4 : ∀ i, hint + min of (m - hint) ≤ i → i < m → B i = false := by
        intro i h4 h5
        rcases h3 with h3 | h3
        · (first | lia | omega)
        · cases hbi : B i with
          | false => rfl
          | true =>
            by_cases e : i = hint + of
            · rw [e, h3] at hbi; cases hbi
            · rw [mono _ i (by (first | lia | omega)) h5 hbi] at h3; cases h3
      refine sC_bind (bs_loop (B := B) mono (fun x lo hi h => if_pos h) ?_ (n_min_add h1 (n_min_or h2 (by (first | lia | omega)))) (by (first | lia | omega)) c3 c4 ?_)
      · intro x lo hi Q' h1 h2 hQ
        dsimp only
        rw [if_neg (by (first | lia | omega))]
        refine sC_bind (hB _ _ (by (first | lia | omega)) ?_)
        cases hT : B (lo + (hi - lo) / 2) with
        | true => rw [hT] at hQ; exact sC_pure hQ
        | false => rw [hT] at hQ; exact sC_pure hQ
      · intro r h1 h2 h3
        exact sC_pure (h r h1 h2 h3)
  | false =>
    refine sC_bind (ex_loop (T := fun o => !B (hint - o)) (M := hint + 1) (by (first | lia | omega)) (fun x la of h => if_pos h) ?_ ?_)
    · intro x la of Q' h1 h2 hQ
      dsimp only
      rw [if_neg (by (first | lia | omega))]
      refine sC_bind (hB (hint - of) _ (by (first | lia | omega)) ?_)
      cases hT : B (hint - of) with
      | true => rw [hT] at hQ; exact sC_pure hQ
      | false => rw [hT] at hQ; exact sC_pure hQ
    · intro la of h1 h2 h3
      dsimp only
      have c4 : ∀ i, hint - la ≤ i → i < m → B i = false := by
        intro i h4 h5
        have hx : B (hint - la) = false := by
          rcases h2 with rfl | h2
          · exact hb0
          · simpa using h2.2
        cases hbi : B i with
        | false => rfl
        | true =>
          by_cases e : i = hint - la
          · rw [e, hx] at hbi; cases hbi
          · rw [mono _ i (by (first | lia | omega)) h5 hbi] at hx; cases hx
      have c3 : ∀ i, i < hint + 1 - min of (hint + 1) → B i = true := by
        intro i hi
        rcases h3 with h3 | h3
        · exact absurd hi (by rw [Nat.min_eq_right h3, Nat.sub_self]; exact Nat.not_lt_zero _)
        · have hx : B (hint - of) = true := by simpa using h3
          by_cases e : i = hint - of
          · rw [e]; exact hx
          · exact mono i (hint - of) (n_min_lt hi e) (by (first | lia | omega)) hx
      refine sC_bind (bs_loop (B := B) mono (fun x lo hi h => if_pos h) ?_ (n_min_sub h1 (n_min_or h2 (Nat.succ_pos _)) rfl) (by (first | lia | omega)) c3 c4 ?_)
      · intro x lo hi Q' h1 h2 hQ
        dsimp only
        rw [if_neg (by (first | lia | omega))]
        refine sC_bind (hB _ _ (by (first | lia | omega)) ?_)
        cases hT : B (lo + (hi - lo) / 2) with
        | true => rw [hT] at hQ; exact sC_pure hQ
        | false => rw [hT] at hQ; exact sC_pure hQ
      · intro r h1 h2 h3
        exact sC_pure (h r h1 h2 h3)
end
end

/-! part S7 -/
set_option autoImplicit false
set_option maxRecDepth 100000
set_option linter.unusedVariables false
open PySem PySem.W PyProof.Rows
section
/-! ### two sorted rows become one -/
section
variable {n : Nat} {ask : Nat → Nat → Bool} {a b : Array Nat}
noncomputable def LeA (ask : Nat → Nat → Bool) (x y : Nat) : Prop := ask y x = false
noncomputable def SrtA (ask : Nat → Nat → Bool) (a : Array Nat) : Prop := ∀ i j, i < j → j < a.size → ask (at0 a j) (at0 a i) = false
structure Mg (ask : Nat → Nat → Bool) (a b : Array Nat) (o : List Nat) (ia ib : Nat) : Prop where
  perm : o.Perm (a.toList.take ia ++ b.toList.take ib)
  srt : o.Pairwise (LeA ask)
  ba : ∀ x ∈ o, ∀ i, ia ≤ i → i < a.size → ask (at0 a i) x = false
  bb : ∀ x ∈ o, ∀ i, ib ≤ i → i < b.size → ask (at0 b i) x = false
  la : ia ≤ a.size
  lb : ib ≤ b.size
/-- what a merge gives -/
noncomputable def MgEnd (ask : Nat → Nat → Bool) (a b : Array Nat) (o : List Nat) : Prop := o.Perm (a.toList ++ b.toList) ∧ o.Pairwise (LeA ask)
theorem at_list {a : Array Nat} {i : Nat} (h : i < a.size) : a.toList[i]? = some (at0 a i) := by
  unfold at0
  simp [Array.getD, h]
theorem take_succ' {a : Array Nat} {i : Nat} (h : i < a.size) : a.toList.take (i + 1) = a.toList.take i ++ [at0 a i] := by
  rw [List.take_add_one, at_list h]; rfl
theorem drop_cons' {a : Array Nat} {i : Nat} (h : i < a.size) : a.toList.drop i = at0 a i :: a.toList.drop (i + 1) := by
  have h' : i < a.toList.length := h
  rw [List.drop_eq_getElem_cons h']
  congr 1
  have := at_list h
  rw [List.getElem?_eq_getElem h'] at this
  exact Option.some.inj this
theorem Mg.stepB (A : Ask n ask) (ha : ∀ i, at0 a i < n) (hb : ∀ i, at0 b i < n) (Sa : SrtA ask a) (Sb : SrtA ask b) {o : List Nat} {ia ib : Nat} (h : Mg ask a b o ia ib) (hi : ib < b.size) (hj : ia < a.size) (hlt : ask (at0 b ib) (at0 a ia) = true) :
    Mg ask a b (o ++ [at0 b ib]) ia (ib + 1) where
  perm := by
    rw [take_succ' hi, ← List.append_assoc]
    exact h.perm.append_right _
  srt := by
    rw [List.pairwise_append]
    exact ⟨h.srt, by simp, fun x hx y hy => by rw [List.mem_singleton.mp hy]; exact h.bb x hx ib (Nat.le_refl _) hi⟩
  ba := fun x hx i h1 h2 => by
    rcases List.mem_append.mp hx with hx | hx
    · exact h.ba x hx i h1 h2
    · rw [List.mem_singleton.mp hx]
      have h3 := A.asymm _ _ (hb _) (ha _) hlt
      by_cases e : i = ia
      · rw [e]; exact h3
      · exact A.trans _ _ _ (hb _) (ha _) (ha _) h3 (Sa ia i (by (first | lia | omega)) h2)
  bb := fun x hx i h1 h2 => by
    rcases List.mem_append.mp hx with hx | hx
    · exact h.bb x hx i (by (first | lia | omega)) h2
    · rw [List.mem_singleton.mp hx]; exact Sb ib i (by (first | lia | omega)) h2
  la := h.la
  lb := by (first | lia | omega)
theorem Mg.stepA (A : Ask n ask) (ha : ∀ i, at0 a i < n) (hb : ∀ i, at0 b i < n) (Sa : SrtA ask a) (Sb : SrtA ask b) {o : List Nat} {ia ib : Nat} (h : Mg ask a b o ia ib) (hi : ib < b.size) (hj : ia < a.size) (hge : ask (at0 b ib) (at0 a ia) = false) :
    Mg ask a b (o ++ [at0 a ia]) (ia + 1) ib where
  perm := by
    rw [take_succ' hj]
    have : (a.toList.take ia ++ [at0 a ia] ++ b.toList.take ib).Perm (a.toList.take ia ++ b.toList.take ib ++ [at0 a ia]) := by
      rw [List.append_assoc, List.append_assoc]
      exact List.Perm.append_left _ List.perm_append_comm
    exact (h.perm.append_right _).trans this.symm
  srt := by
    rw [List.pairwise_append]
    exact ⟨h.srt, by simp, fun x hx y hy => by rw [List.mem_singleton.mp hy]; exact h.ba x hx ia (Nat.le_refl _) hj⟩
  ba := fun x hx i h1 h2 => by
    rcases List.mem_append.mp hx with hx | hx
    · exact h.ba x hx i (by (first | lia | omega)) h2
    · rw [List.mem_singleton.mp hx]; exact Sa ia i (by (first | lia | omega)) h2
  bb := fun x hx i h1 h2 => by
    rcases List.mem_append.mp hx with hx | hx
    · exact h.bb x hx i h1 h2
    · rw [List.mem_singleton.mp hx]
      by_cases e : i = ib
      · rw [e]; exact hge
      · exact A.trans _ _ _ (ha _) (hb _) (hb _) hge (Sb ib i (by (first | lia | omega)) h2)
  la := by (first | lia | omega)
  lb := h.lb
theorem seg_succ {a : Array Nat} {i k : Nat} (h : i < a.size) : (a.toList.drop i).take (k + 1) = at0 a i :: (a.toList.drop (i + 1)).take k := by
  rw [drop_cons' h, List.take_succ_cons]
theorem Mg.stepAs (A : Ask n ask) (ha : ∀ i, at0 a i < n) (hb : ∀ i, at0 b i < n) (Sa : SrtA ask a) (Sb : SrtA ask b) : ∀ (k : Nat) {o : List Nat} {ia ib : Nat}, Mg ask a b o ia ib → ib < b.size → ia + k ≤ a.size → (∀ i, i < k → ask (at0 b ib) (at0 a (ia + i)) = false) →
    Mg ask a b (o ++ (a.toList.drop ia).take k) (ia + k) ib
  | 0, o, ia, ib, h, _, _, _ => by simpa using h
  | k + 1, o, ia, ib, h, hi, hk, hge => by
    have h1 := h.stepA A ha hb Sa Sb hi (by (first | lia | omega)) (hge 0 (by (first | lia | omega)))
    have h2 := Mg.stepAs A ha hb Sa Sb k h1 hi (by (first | lia | omega)) fun i hi' => by have := hge (i + 1) (by (first | lia | omega)); rwa [show ia + 1 + i = ia + (i + 1) by (first | lia | omega)]
    rw [seg_succ (by (first | lia | omega))]
    rw [List.append_assoc, show ia + 1 + k = ia + (k + 1) by (first | lia | omega)] at h2
    exact h2
theorem Mg.stepBs (A : Ask n ask) (ha : ∀ i, at0 a i < n) (hb : ∀ i, at0 b i < n) (Sa : SrtA ask a) (Sb : SrtA ask b) : ∀ (k : Nat) {o : List Nat} {ia ib : Nat}, Mg ask a b o ia ib → ia < a.size → ib + k ≤ b.size → (∀ i, i < k → ask (at0 b (ib + i)) (at0 a ia) = true) →
    Mg ask a b (o ++ (b.toList.drop ib).take k) ia (ib + k)
  | 0, o, ia, ib, h, _, _, _ => by simpa using h
  | k + 1, o, ia, ib, h, hi, hk, hge => by
    have h1 := h.stepB A ha hb Sa Sb (by (first | lia | omega)) hi (hge 0 (by (first | lia | omega)))
    have h2 := Mg.stepBs A ha hb Sa Sb k h1 hi (by (first | lia | omega)) fun i hi' => by have := hge (i + 1) (by (first | lia | omega)); rwa [show ib + 1 + i = ib + (i + 1) by (first | lia | omega)]
    rw [seg_succ (by (first | lia | omega))]
    rw [List.append_assoc, show ib + 1 + k = ib + (k + 1) by (first | lia | omega)] at h2
    exact h2
theorem mem_drop_at {a : Array Nat} {i x : Nat} (h : x ∈ a.toList.drop i) : ∃ j, i ≤ j ∧ j < a.size ∧ x = at0 a j := by
  obtain ⟨k, hk, rfl⟩ := List.mem_iff_getElem.mp h
  rw [List.length_drop] at hk
  have hk' : i + k < a.size := by have : a.toList.length = a.size := rfl; (first | lia | omega)
  refine ⟨i + k, by (first | lia | omega), hk', ?_⟩
  rw [List.getElem_drop]
  have := at_list hk'
  rw [List.getElem?_eq_getElem (by show i + k < a.size; exact hk')] at this
  exact Option.some.inj this
theorem srt_drop {a : Array Nat} (Sa : SrtA ask a) (i : Nat) : (a.toList.drop i).Pairwise (LeA ask) := by
  rw [List.pairwise_iff_getElem]
  intro x y hx hy hxy
  rw [List.length_drop] at hx hy
  have l : a.toList.length = a.size := rfl
  rw [List.getElem_drop, List.getElem_drop]
  have e1 := at_list (a := a) (i := i + x) (by (first | lia | omega))
  have e2 := at_list (a := a) (i := i + y) (by (first | lia | omega))
  rw [List.getElem?_eq_getElem (by (first | lia | omega))] at e1 e2
  rw [Option.some.inj e1, Option.some.inj e2]
  exact Sa _ _ (by (first | lia | omega)) (by (first | lia | omega))
theorem Mg.doneB (Sa : SrtA ask a) {o : List Nat} {ia : Nat} (h : Mg ask a b o ia b.size) : MgEnd ask a b (o ++ a.toList.drop ia) := by
  refine ⟨?_, ?_⟩
  · have p := h.perm.append_right (a.toList.drop ia)
    rw [show b.toList.take b.size = b.toList from List.take_of_length_le (by simp)] at p
    refine p.trans ?_
    have : (a.toList.take ia ++ b.toList ++ a.toList.drop ia).Perm (a.toList.take ia ++ a.toList.drop ia ++ b.toList) := by
      rw [List.append_assoc, List.append_assoc]
      exact List.Perm.append_left _ List.perm_append_comm
    rwa [List.take_append_drop] at this
  · rw [List.pairwise_append]
    refine ⟨h.srt, srt_drop Sa ia, fun x hx y hy => ?_⟩
    obtain ⟨j, h1, h2, rfl⟩ := mem_drop_at hy
    exact h.ba x hx j h1 h2
theorem Mg.lastA (A : Ask n ask) (ha : ∀ i, at0 a i < n) (hb : ∀ i, at0 b i < n) (Sa : SrtA ask a) (Sb : SrtA ask b) (hL : ∀ i, i < b.size → ask (at0 b i) (at0 a (a.size - 1)) = true) {o : List Nat} {ia ib : Nat} (h : Mg ask a b o ia ib) (e : ia + 1 = a.size) :
    MgEnd ask a b (o ++ b.toList.drop ib ++ a.toList.drop ia) := by
  refine ⟨?_, ?_⟩
  · have p := h.perm.append_right (b.toList.drop ib ++ a.toList.drop ia)
    rw [← List.append_assoc] at p
    refine p.trans ?_
    have : (a.toList.take ia ++ b.toList.take ib ++ (b.toList.drop ib ++ a.toList.drop ia)).Perm (a.toList.take ia ++ a.toList.drop ia ++ (b.toList.take ib ++ b.toList.drop ib)) := by
      rw [List.append_assoc, List.append_assoc]
      refine List.Perm.append_left _ ?_
      rw [← List.append_assoc]
      exact List.perm_append_comm
    rwa [List.take_append_drop, List.take_append_drop] at this
  · rw [List.pairwise_append, List.pairwise_append]
    have el : ia = a.size - 1 := by (first | lia | omega)
    refine ⟨⟨h.srt, srt_drop Sb ib, fun x hx y hy => ?_⟩, srt_drop Sa ia, fun x hx y hy => ?_⟩
    · obtain ⟨j, h1, h2, rfl⟩ := mem_drop_at hy
      exact h.bb x hx j h1 h2
    · obtain ⟨j, h1, h2, rfl⟩ := mem_drop_at hy
      have ej : j = a.size - 1 := by (first | lia | omega)
      rcases List.mem_append.mp hx with hx | hx
      · exact h.ba x hx j h1 h2
      · obtain ⟨j', h3, h4, rfl⟩ := mem_drop_at hx
        rw [ej]
        exact A.asymm _ _ (hb _) (ha _) (hL j' h4)
end
end

/-! part S8 -/
set_option autoImplicit false
set_option maxRecDepth 100000
set_option linter.unusedVariables false
open PySem PySem.W PyProof.Rows
section
section
variable {prog : Program} {w : World} {A : Around} {E : Value → Shared → Prop} {s : Shared} {κ : SortKind} {it : Array Keyed} {n : Nat} {ask : Nat → Nat → Bool}
noncomputable def mergeLo' : Array Keyed → Array Keyed → StateT SortSt Sem (Array Keyed) := sortPriv% PySem.Builtin.mergeLo
theorem sC_ite {α : Type} {c : Prop} [Decidable c] {x y : StateT SortSt Sem α} {Q : α → SortSt → Prop} {st : SortSt} (h1 : c → sC prog w A E s x Q st) (h2 : ¬ c → sC prog w A E s y Q st) : sC prog w A E s (if c then x else y) Q st := by
  split
  · exact h1 ‹_›
  · exact h2 ‹_›
theorem sC_iteJ {α : Type} {c : Prop} {_ : Decidable c} {J : Unit → Nat → StateT SortSt Sem α} {x y : Nat} {Q : α → SortSt → Prop} {st : SortSt} (h : ∀ m, sC prog w A E s (J () m) Q st) : sC prog w A E s (if c then J () x else J () y) Q st := by
  split
  · exact h x
  · exact h y
theorem sC_iteK {α β γ : Type} {c : Prop} {_ : Decidable c} {J : Unit → β → γ → StateT SortSt Sem α} {x : StateT SortSt Sem α} {b : β} {d : γ} {Q : α → SortSt → Prop} {st : SortSt} (P : β → γ → Prop) (hJ : ∀ b d, P b d → sC prog w A E s (J () b d) Q st)
    (h1 : c → (∀ b d, P b d → sC prog w A E s (J () b d) Q st) → sC prog w A E s x Q st) (h2 : ¬ c → P b d) : sC prog w A E s (if c then x else J () b d) Q st := by
  split
  · exact h1 ‹_› hJ
  · exact hJ _ _ (h2 ‹_›)
noncomputable def Out (it : Array Keyed) (o : List Nat) : Array Keyed := (o.map (kas_item it)).toArray
theorem out_push {o : List Nat} {x : Nat} : (Out it o).push (kas_item it x) = Out it (o ++ [x]) := by unfold Out; simp
theorem out_seg {o : List Nat} {a : Array Nat} {i j : Nat} : Out it o ++ (a.map (kas_item it)).extract i j = Out it (o ++ (a.toList.drop i).take (j - i)) := by
  unfold Out
  apply Array.ext'
  simp [List.extract_eq_take_drop, List.map_take, List.map_drop]
theorem out_seg' {o : List Nat} {a : Array Nat} {i r : Nat} : Out it o ++ (a.map (kas_item it)).extract i (i + r) = Out it (o ++ (a.toList.drop i).take r) := by
  rw [out_seg, Nat.add_sub_cancel_left]
theorem out_end {o : List Nat} {a : Array Nat} {i : Nat} : Out it o ++ (a.map (kas_item it)).extract i (a.map (kas_item it)).size = Out it (o ++ a.toList.drop i) := by
  rw [out_seg]
  congr 2
  refine List.take_of_length_le ?_
  simp
/-- what a merge is asked for -/
noncomputable def Good2 (κ : SortKind) (it : Array Keyed) (p : Array Nat) (pd : Array (Nat × Nat × Nat)) (ask : Nat → Nat → Bool) (a b : Array Nat) (Q : Array Keyed → SortSt → Prop) : Prop := ∀ o g, MgEnd ask a b o → Q (Out it o) (St κ it p pd g)


theorem mono_r {a : Array Nat} {key base m : Nat} (O : Ask n ask) (ha : ∀ i, at0 a i < n) (hk : key < n) (Sa : SrtA ask a) (hm : base + m ≤ a.size) : ∀ i j, i < j → j < m → byd ask false key a base j = true → byd ask false key a base i = true := by
  intro i j h1 h2 h3
  unfold byd at h3 ⊢
  simp only [Bool.false_eq_true, if_false, Bool.not_eq_true'] at h3 ⊢
  exact O.trans _ _ _ (ha _) (ha _) hk (Sa _ _ (by (first | lia | omega)) (by (first | lia | omega))) h3
theorem mono_l {a : Array Nat} {key base m : Nat} (O : Ask n ask) (ha : ∀ i, at0 a i < n) (hk : key < n) (Sa : SrtA ask a) (hm : base + m ≤ a.size) : ∀ i j, i < j → j < m → byd ask true key a base j = true → byd ask true key a base i = true := by
  intro i j h1 h2 h3
  unfold byd at h3 ⊢
  simp only [if_true] at h3 ⊢
  exact O.le_lt (ha _) (ha _) hk (Sa _ _ (by (first | lia | omega)) (by (first | lia | omega))) h3
theorem byd_r {a : Array Nat} {key base i : Nat} {v : Bool} (h : byd ask false key a base i = v) : ask key (at0 a (base + i)) = !v := by
  unfold byd at h
  simp only [Bool.false_eq_true, if_false] at h
  rw [← h]; simp
theorem byd_l {a : Array Nat} {key base i : Nat} {v : Bool} (h : byd ask true key a base i = v) : ask (at0 a (base + i)) key = v := by
  unfold byd at h
  simpa using h
theorem ne_of_beq {x y : Nat} (h : ¬ (x == y) = true) : x ≠ y := fun e => h (by rw [e]; exact beq_self_eq_true _)

/-- how far a merge has come -/
noncomputable def LoS (κ : SortKind) (it : Array Keyed) (p : Array Nat) (pd : Array (Nat × Nat × Nat)) (ask : Nat → Nat → Bool) (a b : Array Nat) (T : Nat) (X : Array Keyed) (ia ib : Nat) (st : SortSt) : Prop :=
  ∃ o g', X = Out it o ∧ st = St κ it p pd g' ∧ Mg ask a b o ia ib ∧ ia + 1 < a.size ∧ ib < b.size ∧ T ≤ ia + ib
theorem LoS.mk {a b p : Array Nat} {pd : Array (Nat × Nat × Nat)} {T : Nat} {X : Array Keyed} {ia ib g' : Nat} {o : List Nat} (h1 : X = Out it o) (h2 : Mg ask a b o ia ib) (h3 : ia + 1 < a.size) (h4 : ib < b.size) (h5 : T ≤ ia + ib) :
    LoS κ it p pd ask a b T X ia ib (St κ it p pd g') := ⟨o, g', h1, rfl, h2, h3, h4, h5⟩
/-- the result is there, or it goes on -/
noncomputable def Onw {γ : Type} (Q : Array Keyed → SortSt → Prop) (P : γ → SortSt → Prop) (x : Option (Array Keyed) × γ) (st : SortSt) : Prop := (∃ R, x.1 = some R ∧ Q R st) ∨ (x.1 = none ∧ P x.2 st)
theorem Onw.done {γ : Type} {Q : Array Keyed → SortSt → Prop} {P : γ → SortSt → Prop} {R : Array Keyed} {y : γ} {st : SortSt} (h : Q R st) : Onw Q P (some R, y) st := .inl ⟨R, rfl, h⟩
theorem Onw.on {γ : Type} {Q : Array Keyed → SortSt → Prop} {P : γ → SortSt → Prop} {y : γ} {st : SortSt} (h : P y st) : Onw Q P (none, y) st := .inr ⟨rfl, h⟩
section
variable {a b p : Array Nat} {pd : Array (Nat × Nat × Nat)} {Q : Array Keyed → SortSt → Prop} {α : Type} {Q2 : α → SortSt → Prop}
/-- a loop of a merge, and what comes behind it; y is what else the loop carries -/
theorem bindLo {γ : Type} {c T ia₀ ib₀ : Nat} {X₀ : Array Keyed} {y₀ : γ} {st₀ : SortSt} {f : Nat → Option (Array Keyed) × Array Keyed × Nat × Nat × γ → StateT SortSt Sem (ForInStep (Option (Array Keyed) × Array Keyed × Nat × Nat × γ))}
    {K : Option (Array Keyed) × Array Keyed × Nat × Nat × γ → StateT SortSt Sem α} (T' : Nat) (h0 : LoS κ it p pd ask a b T X₀ ia₀ ib₀ st₀) (big : a.size + b.size ≤ c)
    (step : ∀ j o ia ib y g', Mg ask a b o ia ib → ia + 1 < a.size → ib < b.size → T + j ≤ ia + ib → sC prog w A E s (f j (none, Out it o, ia, ib, y)) (fun r st' => match r with
      | .done x => Onw Q (fun x st => LoS κ it p pd ask a b T' x.1 x.2.1 x.2.2.1 st) x st'
      | .yield x => x.1 = none ∧ LoS κ it p pd ask a b (T + (j + 1)) x.2.1 x.2.2.1 x.2.2.2.1 st') (St κ it p pd g'))
    (k1 : ∀ R y st, Q R st → sC prog w A E s (K (some R, y)) Q2 st) (k2 : ∀ o ia ib y g', Mg ask a b o ia ib → ia + 1 < a.size → ib < b.size → T' ≤ ia + ib → sC prog w A E s (K (none, Out it o, ia, ib, y)) Q2 (St κ it p pd g')) :
    sC prog w A E s (forIn [:c] (none, X₀, ia₀, ib₀, y₀) f >>= K) Q2 st₀ := by
  refine sC_bind (sC_mono (Q := Onw Q fun x st => LoS κ it p pd ask a b T' x.1 x.2.1 x.2.2.1 st)
    (sC_for (fun j x st => x.1 = none ∧ LoS κ it p pd ask a b (T + j) x.2.1 x.2.2.1 x.2.2.2.1 st) ⟨rfl, h0⟩ ?_ ?_) ?_)
  · rintro j ⟨_, _, ia, ib, y⟩ _ _ hj ⟨rfl, o, g', rfl, rfl, M, hia, hib, hp⟩
    exact sC_mono (step j o ia ib y g' M hia hib hp) fun r st' h => by cases r <;> exact h
  · rintro ⟨_, _, ia, ib, y⟩ _ ⟨_, o, g', _, _, M, hia, hib, hp⟩
    dsimp only at hia hib hp
    (first | lia | omega)
  · rintro ⟨_, _, ia, ib, y⟩ st (⟨R, rfl, hR⟩ | ⟨rfl, o, g', rfl, rfl, M, hia, hib, hp⟩)
    · exact k1 R _ st hR
    · exact k2 o ia ib y g' M hia hib hp
end
theorem mergeLo_ok {a b p : Array Nat} {pd : Array (Nat × Nat × Nat)} {g : Nat} {Q : Array Keyed → SortSt → Prop} (H : AskAt prog w A s κ it n ask) (O : Ask n ask) (ha : ∀ i, at0 a i < n) (hb : ∀ i, at0 b i < n) (Sa : SrtA ask a) (Sb : SrtA ask b)
    (h1 : 0 < a.size) (h2 : 0 < b.size) (hF : ask (at0 b 0) (at0 a 0) = true) (hL : ∀ i, i < b.size → ask (at0 b i) (at0 a (a.size - 1)) = true) (hQ : Good2 κ it p pd ask a b Q) :
    sC prog w A E s (mergeLo' (a.map (kas_item it)) (b.map (kas_item it))) Q (St κ it p pd g) := by
  have sa : (a.map (kas_item it)).size = a.size := by simp
  have sb : (b.map (kas_item it)).size = b.size := by simp
  have M0 : Mg ask a b [] 0 0 := ⟨by simp, by simp, by simp, by simp, by (first | lia | omega), by (first | lia | omega)⟩
  have M1 : Mg ask a b [at0 b 0] 0 1 := M0.stepB O ha hb Sa Sb h2 h1 hF
  have e0 : (#[kas_item it (at0 b 0)] : Array Keyed) = Out it [at0 b 0] := rfl
  have finB : ∀ (o : List Nat) (ia ib g' : Nat) (x : Array Keyed), x = Out it o → Mg ask a b o ia ib → ib = b.size → Q (x ++ (a.map (kas_item it)).extract ia (a.map (kas_item it)).size ++ (b.map (kas_item it)).extract ib (b.map (kas_item it)).size) (St κ it p pd g') := by
    intro o ia ib g' x hx M e
    subst e
    rw [hx, out_end, out_end]
    refine hQ _ _ ?_
    rw [show b.toList.drop b.size = [] from List.drop_of_length_le (by simp), List.append_nil]
    exact M.doneB Sa
  have finA : ∀ (o : List Nat) (ia ib g' : Nat) (x : Array Keyed), x = Out it o → Mg ask a b o ia ib → ia + 1 = a.size → Q (x ++ (b.map (kas_item it)).extract ib (b.map (kas_item it)).size ++ (a.map (kas_item it)).extract ia (a.map (kas_item it)).size) (St κ it p pd g') := by
    intro o ia ib g' x hx M e
    rw [hx, out_end, out_end]
    exact hQ _ _ (M.lastA O ha hb Sa Sb hL e)
  refine sC_rule ?_
  refine sC_bind (sC_elem h2 ?_)
  refine sC_ite (fun hc => sC_pure (finB _ 0 1 g _ e0 M1 (by rw [sb] at hc; exact eq_of_beq hc))) (fun hc => ?_)
  have hb1 : 1 < b.size := by rw [sb] at hc; have := ne_of_beq hc; (first | lia | omega)
  refine sC_ite (fun hc => sC_pure (finA _ 0 1 g _ e0 M1 (by rw [sa] at hc; exact eq_of_beq hc))) (fun hc => ?_)
  have ha1 : 1 < a.size := by rw [sa] at hc; have := ne_of_beq hc; (first | lia | omega)
  refine sC_bind (sC_get ?_)
  refine bindLo (T := 1) (T' := a.size + b.size) (Q := Q) (LoS.mk e0 M1 ha1 hb1 (Nat.le_refl _)) (by rw [sa, sb]; exact Nat.le_refl _) ?_ (fun R y st hR => sC_pure hR) ?_
  · intro j o ia ib mg g' M hia hib hp
    refine bindLo (T := j + 1) (T' := j + 2) (Q := Q) (LoS.mk (ia := ia) (ib := ib) rfl M hia hib (by (first | lia | omega))) (by rw [sa, sb]; exact Nat.le_refl _) ?_ (fun R y st hR => sC_pure (Onw.done hR)) ?_
    · intro j' o ia ib y g' M hia hib hp
      extract_lets
      refine sC_bind (sC_elem hib ?_)
      refine sC_bind (sC_elem (Nat.lt_of_succ_lt hia) ?_)
      refine sC_bind (sC_lt H (hb _) (ha _) ?_)
      refine sC_ite (fun hw => ?_) (fun hw => ?_)
      · have M' := M.stepB O ha hb Sa Sb hib (Nat.lt_of_succ_lt hia) hw
        refine sC_bind (sC_elem hib ?_)
        refine sC_ite (fun hc => sC_pure (Onw.done (finB _ ia (ib + 1) g' _ out_push M' (by rw [sb] at hc; exact eq_of_beq hc)))) (fun hc => ?_)
        have hib' : ib + 1 < b.size := by have q : ¬ (ib + 1 == (b.map (kas_item it)).size) = true := hc; rw [sb] at q; have := ne_of_beq q; (first | lia | omega)
        refine sC_ite (fun hg => sC_pure (Onw.on (LoS.mk (ia := ia) (ib := ib + 1) out_push M' hia hib' (by (first | lia | omega))))) (fun hg => sC_pure ⟨rfl, LoS.mk (ia := ia) (ib := ib + 1) out_push M' hia hib' (by (first | lia | omega))⟩)
      · have M' := M.stepA O ha hb Sa Sb hib (Nat.lt_of_succ_lt hia) (by simpa using hw)
        refine sC_bind (sC_elem (Nat.lt_of_succ_lt hia) ?_)
        refine sC_ite (fun hc => sC_pure (Onw.done (finA _ (ia + 1) ib g' _ out_push M' (by rw [sa] at hc; exact eq_of_beq hc)))) (fun hc => ?_)
        have hia' : ia + 1 + 1 < a.size := by have q : ¬ (ia + 1 + 1 == (a.map (kas_item it)).size) = true := hc; rw [sa] at q; have := ne_of_beq q; (first | lia | omega)
        refine sC_ite (fun hg => sC_pure (Onw.on (LoS.mk (ia := ia + 1) (ib := ib) out_push M' hia' hib (by (first | lia | omega))))) (fun hg => sC_pure ⟨rfl, LoS.mk (ia := ia + 1) (ib := ib) out_push M' hia' hib (by (first | lia | omega))⟩)
    · -- by leaps
      intro o ia ib y g' M hia hib hp
      refine sC_rule ?_
      refine bindLo (T := j + 2) (T' := j + 2) (Q := Q) (LoS.mk rfl M hia hib hp) (by rw [sa, sb]; exact Nat.le_refl _) ?_ (fun R y st hR => sC_pure (Onw.done hR)) ?_
      · intro j' o ia ib y g' M hia hib hp
        extract_lets _ _ _ _ _ _ _ _ _ _ _ _ jp _
        refine sC_iteJ (J := jp) fun mg' => ?_
        refine sC_bind (sC_modify ?_)
        refine sC_bind (sC_elem hib ?_)
        refine sC_bind (gallop_ok (left := false) (p := p) (pd := pd) (base := ia) (hint := 0) (m := (a.map (kas_item it)).size - ia) H (hb ib) ha (by rw [sa]; (first | lia | omega)) (by rw [sa]; (first | lia | omega)) (mono_r O ha (hb ib) Sa (by rw [sa]; (first | lia | omega))) ?_)
        intro r hr hT hN
        rw [sa] at hr hN
        have hr' : ia + r + 1 ≤ a.size := by
          by_cases e : ia + r + 1 ≤ a.size
          · exact e
          · have q1 := byd_r (hT (a.size - 1 - ia) (by (first | lia | omega)))
            rw [show ia + (a.size - 1 - ia) = a.size - 1 by (first | lia | omega), hL ib hib] at q1
            cases q1
        have hge : ∀ i, i < r → ask (at0 b ib) (at0 a (ia + i)) = false := fun i hi => byd_r (hT i hi)
        have hlt : ask (at0 b ib) (at0 a (ia + r)) = true := byd_r (hN r (Nat.le_refl _) (by (first | lia | omega)))
        dsimp (config := { zeta := false }) only
        extract_lets _ jp2 _ _
        refine sC_iteK (J := jp2) (fun o' i' => ∃ o, o' = Out it o ∧ Mg ask a b o i' ib ∧ ask (at0 b ib) (at0 a i') = true ∧ i' + 1 < a.size ∧ ia ≤ i') ?_ (fun hk F => ?_) (fun hk => ?_)
        · rintro _ i2 ⟨o2, rfl, M2, hlt2, hi2, hle⟩
          have MB := M2.stepB O ha hb Sa Sb hib (Nat.lt_of_succ_lt hi2) hlt2
          refine sC_bind (sC_elem hib ?_)
          refine sC_ite (fun hc => sC_pure (Onw.done (finB _ i2 (ib + 1) _ _ out_push MB (by have q : (ib + 1 == (b.map (kas_item it)).size) = true := hc; rw [sb] at q; exact eq_of_beq q)))) (fun hc => ?_)
          have hib' : ib + 1 < b.size := by have q : ¬ (ib + 1 == (b.map (kas_item it)).size) = true := hc; rw [sb] at q; have := ne_of_beq q; (first | lia | omega)
          refine sC_bind (sC_elem (i := i2) (Nat.lt_of_succ_lt hi2) ?_)
          refine sC_bind (gallop_ok (left := true) (p := p) (pd := pd) (key := at0 a i2) (q := b) (base := ib + 1) (hint := 0) (m := (b.map (kas_item it)).size - (ib + 1)) H (ha _) hb (by rw [sb]; (first | lia | omega)) (by rw [sb]; (first | lia | omega)) (mono_l O hb (ha _) Sb (by rw [sb]; (first | lia | omega))) ?_)
          intro r2 hr2 hT2 hN2
          rw [sb] at hr2 hN2
          dsimp (config := { zeta := false }) only
          extract_lets _ _ jp3 _ _
          refine sC_iteK (J := jp3) (fun o' b' => ∃ o, o' = Out it o ∧ Mg ask a b o i2 b' ∧ b' < b.size ∧ ask (at0 b b') (at0 a i2) = false ∧ ib + 1 ≤ b') ?_ (fun hk2 F => ?_) (fun hk2 => ?_)
          · rintro _ b2 ⟨o3, rfl, M3, hb2, hge3, hle3⟩
            have MD := M3.stepA O ha hb Sa Sb hb2 (Nat.lt_of_succ_lt hi2) hge3
            refine sC_bind (sC_elem (i := i2) (Nat.lt_of_succ_lt hi2) ?_)
            refine sC_ite (fun hc => sC_pure (Onw.done (finA _ (i2 + 1) b2 _ _ out_push MD (by have q : (i2 + 1 + 1 == (a.map (kas_item it)).size) = true := hc; rw [sa] at q; exact eq_of_beq q)))) (fun hc => ?_)
            have hia2 : i2 + 1 + 1 < a.size := by have q : ¬ (i2 + 1 + 1 == (a.map (kas_item it)).size) = true := hc; rw [sa] at q; have := ne_of_beq q; (first | lia | omega)
            refine sC_ite (fun _ => sC_pure (Onw.on (LoS.mk (ia := i2 + 1) (ib := b2) out_push MD hia2 hb2 (by (first | lia | omega))))) (fun _ => sC_pure ⟨rfl, LoS.mk (ia := i2 + 1) (ib := b2) out_push MD hia2 hb2 (by (first | lia | omega))⟩)
          · have MC := MB.stepBs O ha hb Sa Sb r2 (Nat.lt_of_succ_lt hi2) (by (first | lia | omega)) (fun i hi => byd_l (hT2 i hi))
            have eo : Out it (o2 ++ [at0 b ib]) ++ (b.map (kas_item it)).extract (ib + 1) (ib + 1 + r2) = Out it (o2 ++ [at0 b ib] ++ (b.toList.drop (ib + 1)).take r2) := out_seg'
            rw [← out_push] at eo
            refine sC_ite (fun hc => sC_pure (Onw.done (finB _ i2 (ib + 1 + r2) _ _ eo MC (by have q : (ib + 1 + r2 == (b.map (kas_item it)).size) = true := hc; rw [sb] at q; exact eq_of_beq q)))) (fun hc => ?_)
            have hib2 : ib + 1 + r2 < b.size := by have q : ¬ (ib + 1 + r2 == (b.map (kas_item it)).size) = true := hc; rw [sb] at q; exact Nat.lt_of_le_of_ne (Nat.add_comm (ib + 1) r2 ▸ Nat.add_le_of_le_sub (Nat.le_of_lt hib') hr2) (ne_of_beq q)
            exact F _ _ ⟨_, eo, MC, hib2, byd_l (hN2 r2 (Nat.le_refl _) (by (first | lia | omega))), Nat.le_add_right _ _⟩
          · have hr20 : r2 = 0 := by (first | lia | omega)
            subst hr20
            exact ⟨_, out_push, MB, hib', byd_l (hN2 0 (Nat.le_refl _) (by (first | lia | omega))), Nat.le_refl _⟩
        · have MA := M.stepAs O ha hb Sa Sb r hib (by (first | lia | omega)) hge
          refine sC_ite (fun hc => sC_pure (Onw.done (finA _ (ia + r) ib _ _ out_seg' MA (by have q : (ia + r + 1 == (a.map (kas_item it)).size) = true := hc; rw [sa] at q; exact eq_of_beq q)))) (fun hc => ?_)
          have hia' : ia + r + 1 < a.size := by have q : ¬ (ia + r + 1 == (a.map (kas_item it)).size) = true := hc; rw [sa] at q; have := ne_of_beq q; (first | lia | omega)
          refine sC_ite (fun hc => ?_) (fun _ => ?_)
          · exfalso
            have q : (ia + r == (a.map (kas_item it)).size) = true := hc
            rw [sa] at q
            have := eq_of_beq q
            (first | lia | omega)
          exact F _ _ ⟨_, out_seg', MA, hlt, hia', Nat.le_add_right _ _⟩
        · have hr0 : r = 0 := by (first | lia | omega)
          subst hr0
          exact ⟨o, rfl, M, hlt, hia, Nat.le_refl _⟩
      · intro o ia ib y g' M hia hib hp
        refine sC_bind (sC_modify ?_)
        exact sC_pure ⟨rfl, LoS.mk (ia := ia) (ib := ib) rfl M hia hib (by (first | lia | omega))⟩
  · intro o ia ib y g' M hia hib hp
    (first | lia | omega)
end
end

/-! part S9 -/
set_option autoImplicit false
set_option maxRecDepth 100000
set_option linter.unusedVariables false
open PySem PySem.W PyProof.Rows
section
/-! ### two sorted rows become one, from the end -/
section
variable {n : Nat} {ask : Nat → Nat → Bool} {a b : Array Nat}
structure Mh (ask : Nat → Nat → Bool) (a b : Array Nat) (o : List Nat) (na nb : Nat) : Prop where
  perm : o.Perm (a.toList.drop na ++ b.toList.drop nb)
  srt : o.Pairwise (LeA ask)
  ba : ∀ x ∈ o, ∀ i, i < na → ask x (at0 a i) = false
  bb : ∀ x ∈ o, ∀ i, i < nb → ask x (at0 b i) = false
  la : na ≤ a.size
  lb : nb ≤ b.size
theorem Mh.stepA (A : Ask n ask) (ha : ∀ i, at0 a i < n) (hb : ∀ i, at0 b i < n) (Sa : SrtA ask a) (Sb : SrtA ask b) {o : List Nat} {na nb : Nat} (h : Mh ask a b o (na + 1) (nb + 1)) (hlt : ask (at0 b nb) (at0 a na) = true) :
    Mh ask a b (at0 a na :: o) na (nb + 1) where
  perm := by
    rw [drop_cons' (by have := h.la; (first | lia | omega)), List.cons_append]
    exact h.perm.cons _
  srt := List.pairwise_cons.mpr ⟨fun x hx => h.ba x hx na (by (first | lia | omega)), h.srt⟩
  ba := fun x hx i hi => by
    rcases List.mem_cons.mp hx with rfl | hx
    · exact Sa i na hi (by have := h.la; (first | lia | omega))
    · exact h.ba x hx i (by (first | lia | omega))
  bb := fun x hx i hi => by
    rcases List.mem_cons.mp hx with rfl | hx
    · have h3 := A.asymm _ _ (hb _) (ha _) hlt
      by_cases e : i = nb
      · rw [e]; exact h3
      · exact A.trans _ _ _ (hb _) (hb _) (ha _) (Sb i nb (by (first | lia | omega)) (by have := h.lb; (first | lia | omega))) h3
    · exact h.bb x hx i hi
  la := by have := h.la; (first | lia | omega)
  lb := h.lb
theorem Mh.stepB (A : Ask n ask) (ha : ∀ i, at0 a i < n) (hb : ∀ i, at0 b i < n) (Sa : SrtA ask a) (Sb : SrtA ask b) {o : List Nat} {na nb : Nat} (h : Mh ask a b o (na + 1) (nb + 1)) (hge : ask (at0 b nb) (at0 a na) = false) :
    Mh ask a b (at0 b nb :: o) (na + 1) nb where
  perm := by
    rw [drop_cons' (a := b) (by have := h.lb; (first | lia | omega))]
    exact (h.perm.cons _).trans List.perm_middle.symm
  srt := List.pairwise_cons.mpr ⟨fun x hx => h.bb x hx nb (by (first | lia | omega)), h.srt⟩
  ba := fun x hx i hi => by
    rcases List.mem_cons.mp hx with rfl | hx
    · by_cases e : i = na
      · rw [e]; exact hge
      · exact A.trans _ _ _ (ha _) (ha _) (hb _) (Sa i na (by (first | lia | omega)) (by have := h.la; (first | lia | omega))) hge
    · exact h.ba x hx i hi
  bb := fun x hx i hi => by
    rcases List.mem_cons.mp hx with rfl | hx
    · exact Sb i nb hi (by have := h.lb; (first | lia | omega))
    · exact h.bb x hx i (by (first | lia | omega))
  la := h.la
  lb := by have := h.lb; (first | lia | omega)
theorem seg_snoc {a : Array Nat} {i k : Nat} (h : i + k < a.size) : (a.toList.drop i).take (k + 1) = (a.toList.drop i).take k ++ [at0 a (i + k)] := by
  rw [List.take_add_one, List.getElem?_drop, at_list h]; rfl
theorem Mh.stepAs (A : Ask n ask) (ha : ∀ i, at0 a i < n) (hb : ∀ i, at0 b i < n) (Sa : SrtA ask a) (Sb : SrtA ask b) {nb : Nat} : ∀ (k : Nat) {o : List Nat} {x : Nat}, Mh ask a b o (x + k) (nb + 1) → (∀ i, x ≤ i → i < x + k → ask (at0 b nb) (at0 a i) = true) →
    Mh ask a b ((a.toList.drop x).take k ++ o) x (nb + 1)
  | 0, o, x, h, _ => by simpa using h
  | k + 1, o, x, h, hge => by
    have h1 := Mh.stepA (na := x + k) A ha hb Sa Sb h (hge (x + k) (by (first | lia | omega)) (by (first | lia | omega)))
    have h2 := Mh.stepAs A ha hb Sa Sb k h1 fun i h1 h2 => hge i h1 (by (first | lia | omega))
    rw [seg_snoc (by have := h.la; (first | lia | omega)), List.append_assoc]
    exact h2
theorem Mh.stepBs (A : Ask n ask) (ha : ∀ i, at0 a i < n) (hb : ∀ i, at0 b i < n) (Sa : SrtA ask a) (Sb : SrtA ask b) {na : Nat} : ∀ (k : Nat) {o : List Nat} {x : Nat}, Mh ask a b o (na + 1) (x + k) → (∀ i, x ≤ i → i < x + k → ask (at0 b i) (at0 a na) = false) →
    Mh ask a b ((b.toList.drop x).take k ++ o) (na + 1) x
  | 0, o, x, h, _ => by simpa using h
  | k + 1, o, x, h, hge => by
    have h1 := Mh.stepB (nb := x + k) A ha hb Sa Sb h (hge (x + k) (by (first | lia | omega)) (by (first | lia | omega)))
    have h2 := Mh.stepBs A ha hb Sa Sb k h1 fun i h1 h2 => hge i h1 (by (first | lia | omega))
    rw [seg_snoc (by have := h.lb; (first | lia | omega)), List.append_assoc]
    exact h2
theorem mem_take_at {a : Array Nat} {i x : Nat} (h : x ∈ a.toList.take i) : ∃ j, j < i ∧ j < a.size ∧ x = at0 a j := by
  obtain ⟨k, hk, rfl⟩ := List.mem_iff_getElem.mp h
  rw [List.length_take] at hk
  have l : a.toList.length = a.size := rfl
  refine ⟨k, by (first | lia | omega), by (first | lia | omega), ?_⟩
  rw [List.getElem_take]
  have := at_list (a := a) (i := k) (by (first | lia | omega))
  rw [List.getElem?_eq_getElem (by (first | lia | omega))] at this
  exact Option.some.inj this
theorem srt_take {a : Array Nat} (Sa : SrtA ask a) (i : Nat) : (a.toList.take i).Pairwise (LeA ask) := by
  have := srt_drop Sa 0
  rw [List.drop_zero] at this
  exact this.sublist (List.take_sublist _ _)
theorem Mh.done0 (Sb : SrtA ask b) {o : List Nat} {nb : Nat} (h : Mh ask a b o 0 nb) : MgEnd ask a b (b.toList.take nb ++ o) := by
  refine ⟨?_, ?_⟩
  · have p := h.perm
    rw [List.drop_zero] at p
    refine (List.Perm.append_left _ p).trans ?_
    have : (b.toList.take nb ++ (a.toList ++ b.toList.drop nb)).Perm (a.toList ++ (b.toList.take nb ++ b.toList.drop nb)) := by
      rw [← List.append_assoc, ← List.append_assoc]
      exact List.Perm.append_right _ List.perm_append_comm
    rwa [List.take_append_drop] at this
  · rw [List.pairwise_append]
    refine ⟨srt_take Sb nb, h.srt, fun x hx y hy => ?_⟩
    obtain ⟨j, h1, h2, rfl⟩ := mem_take_at hx
    exact h.bb y hy j h1
theorem Mh.firstB (A : Ask n ask) (ha : ∀ i, at0 a i < n) (hb : ∀ i, at0 b i < n) (Sa : SrtA ask a) (hF : ∀ i, i < a.size → ask (at0 b 0) (at0 a i) = true) {o : List Nat} {na : Nat} (h : Mh ask a b o na 1) : MgEnd ask a b (b.toList.take 1 ++ a.toList.take na ++ o) := by
  refine ⟨?_, ?_⟩
  · refine (List.Perm.append_left _ h.perm).trans ?_
    have : (b.toList.take 1 ++ a.toList.take na ++ (a.toList.drop na ++ b.toList.drop 1)).Perm (a.toList.take na ++ a.toList.drop na ++ (b.toList.take 1 ++ b.toList.drop 1)) := by
      rw [List.append_assoc, ← List.append_assoc (a.toList.take na)]
      rw [← List.append_assoc, ← List.append_assoc (a.toList.take na ++ a.toList.drop na)]
      exact List.Perm.append_right _ List.perm_append_comm
    rwa [List.take_append_drop, List.take_append_drop] at this
  · rw [List.pairwise_append, List.pairwise_append]
    refine ⟨⟨?_, srt_take Sa na, fun x hx y hy => ?_⟩, h.srt, fun x hx y hy => ?_⟩
    · cases hbl : b.toList with
      | nil => simp
      | cons c r => simp
    · obtain ⟨j, h1, h2, rfl⟩ := mem_take_at hx
      obtain ⟨i, h3, h4, rfl⟩ := mem_take_at hy
      have : j = 0 := by (first | lia | omega)
      subst this
      exact A.asymm _ _ (hb _) (ha _) (hF i h4)
    · rcases List.mem_append.mp hx with hx | hx
      · obtain ⟨j, h1, h2, rfl⟩ := mem_take_at hx
        exact h.bb y hy j h1
      · obtain ⟨j, h1, h2, rfl⟩ := mem_take_at hx
        exact h.ba y hy j h1
end
end

/-! part S10 -/
set_option autoImplicit false
set_option maxRecDepth 100000
set_option linter.unusedVariables false
open PySem PySem.W PyProof.Rows
section
section
variable {prog : Program} {w : World} {A : Around} {E : Value → Shared → Prop} {s : Shared} {κ : SortKind} {it : Array Keyed} {n : Nat} {ask : Nat → Nat → Bool}
noncomputable def mergeHi' : Array Keyed → Array Keyed → StateT SortSt Sem (Array Keyed) := sortPriv% PySem.Builtin.mergeHi
theorem outr_push {o : List Nat} {x : Nat} : (Out it o.reverse).push (kas_item it x) = Out it (x :: o).reverse := by rw [out_push, List.reverse_cons]
theorem outr_seg {o : List Nat} {a : Array Nat} {i j k : Nat} (e : j = i + k) : Out it o.reverse ++ ((a.map (kas_item it)).extract i j).reverse = Out it ((a.toList.drop i).take k ++ o).reverse := by
  subst e
  unfold Out
  apply Array.ext'
  simp [List.extract_eq_take_drop, List.map_take, List.map_drop]
theorem outr_end0 {o : List Nat} {a b : Array Nat} {k : Nat} : (a.map (kas_item it)).extract 0 0 ++ (b.map (kas_item it)).extract 0 k ++ (Out it o.reverse).reverse = Out it (b.toList.take k ++ o) := by
  unfold Out
  apply Array.ext'
  simp [List.extract_eq_take_drop, List.map_take]
theorem outr_endB {o : List Nat} {a b : Array Nat} {k : Nat} : (b.map (kas_item it)).extract 0 1 ++ (a.map (kas_item it)).extract 0 k ++ (Out it o.reverse).reverse = Out it (b.toList.take 1 ++ a.toList.take k ++ o) := by
  unfold Out
  apply Array.ext'
  simp [List.extract_eq_take_drop, List.map_take]

noncomputable def HiS (κ : SortKind) (it : Array Keyed) (p : Array Nat) (pd : Array (Nat × Nat × Nat)) (ask : Nat → Nat → Bool) (a b : Array Nat) (T : Nat) (X : Array Keyed) (na nb : Nat) (st : SortSt) : Prop :=
  ∃ o m d g', X = Out it o.reverse ∧ na = m + 1 ∧ nb = d + 2 ∧ st = St κ it p pd g' ∧ Mh ask a b o (m + 1) (d + 2) ∧ T + m + d + 4 ≤ a.size + b.size
theorem HiS.mk {a b p : Array Nat} {pd : Array (Nat × Nat × Nat)} {T : Nat} {X : Array Keyed} {na nb m d g' : Nat} {o : List Nat} (h1 : X = Out it o.reverse) (ha : na = m + 1) (hb : nb = d + 2) (h2 : Mh ask a b o (m + 1) (d + 2)) (h5 : T + m + d + 4 ≤ a.size + b.size) :
    HiS κ it p pd ask a b T X na nb (St κ it p pd g') := ⟨o, m, d, g', h1, ha, hb, rfl, h2, h5⟩
section
variable {a b p : Array Nat} {pd : Array (Nat × Nat × Nat)} {Q : Array Keyed → SortSt → Prop} {α : Type} {Q2 : α → SortSt → Prop}
theorem bindHi {γ : Type} {c T na₀ nb₀ : Nat} {X₀ : Array Keyed} {y₀ : γ} {st₀ : SortSt} {f : Nat → Option (Array Keyed) × Nat × Nat × Array Keyed × γ → StateT SortSt Sem (ForInStep (Option (Array Keyed) × Nat × Nat × Array Keyed × γ))}
    {K : Option (Array Keyed) × Nat × Nat × Array Keyed × γ → StateT SortSt Sem α} (T' : Nat) (h0 : HiS κ it p pd ask a b T X₀ na₀ nb₀ st₀) (big : a.size + b.size ≤ c)
    (step : ∀ j o m d y g', Mh ask a b o (m + 1) (d + 2) → T + j + m + d + 4 ≤ a.size + b.size → sC prog w A E s (f j (none, m + 1, d + 2, Out it o.reverse, y)) (fun r st' => match r with
      | .done x => Onw Q (fun x st => HiS κ it p pd ask a b T' x.2.2.1 x.1 x.2.1 st) x st'
      | .yield x => x.1 = none ∧ HiS κ it p pd ask a b (T + (j + 1)) x.2.2.2.1 x.2.1 x.2.2.1 st') (St κ it p pd g'))
    (k1 : ∀ R y st, Q R st → sC prog w A E s (K (some R, y)) Q2 st) (k2 : ∀ o m d y g', Mh ask a b o (m + 1) (d + 2) → T' + m + d + 4 ≤ a.size + b.size → sC prog w A E s (K (none, m + 1, d + 2, Out it o.reverse, y)) Q2 (St κ it p pd g')) :
    sC prog w A E s (forIn [:c] (none, na₀, nb₀, X₀, y₀) f >>= K) Q2 st₀ := by
  refine sC_bind (sC_mono (Q := Onw Q fun x st => HiS κ it p pd ask a b T' x.2.2.1 x.1 x.2.1 st)
    (sC_for (fun j x st => x.1 = none ∧ HiS κ it p pd ask a b (T + j) x.2.2.2.1 x.2.1 x.2.2.1 st) ⟨rfl, h0⟩ ?_ ?_) ?_)
  · rintro j ⟨_, _, _, _, y⟩ _ _ hj ⟨rfl, o, m, d, g', rfl, rfl, rfl, rfl, M, hp⟩
    exact sC_mono (step j o m d y g' M hp) fun r st' h => by cases r <;> exact h
  · rintro ⟨_, _, _, _, y⟩ _ ⟨_, o, m, d, g', _, _, _, _, M, hp⟩
    (first | lia | omega)
  · rintro ⟨_, _, _, _, y⟩ st (⟨R, rfl, hR⟩ | ⟨rfl, o, m, d, g', rfl, rfl, rfl, rfl, M, hp⟩)
    · exact k1 R _ st hR
    · exact k2 o m d y g' M hp
end
theorem mergeHi_ok {a b p : Array Nat} {pd : Array (Nat × Nat × Nat)} {g : Nat} {Q : Array Keyed → SortSt → Prop} (H : AskAt prog w A s κ it n ask) (O : Ask n ask) (ha : ∀ i, at0 a i < n) (hb : ∀ i, at0 b i < n) (Sa : SrtA ask a) (Sb : SrtA ask b)
    (h1 : 0 < a.size) (h2 : 0 < b.size) (hF : ∀ i, i < a.size → ask (at0 b 0) (at0 a i) = true) (hL : ask (at0 b (b.size - 1)) (at0 a (a.size - 1)) = true) (hQ : Good2 κ it p pd ask a b Q) :
    sC prog w A E s (mergeHi' (a.map (kas_item it)) (b.map (kas_item it))) Q (St κ it p pd g) := by
  have sa : (a.map (kas_item it)).size = a.size := by simp
  have sb : (b.map (kas_item it)).size = b.size := by simp
  have M0 : Mh ask a b [] (a.size - 1 + 1) (b.size - 1 + 1) := ⟨by simp [show a.size - 1 + 1 = a.size by (first | lia | omega), show b.size - 1 + 1 = b.size by (first | lia | omega)], by simp, by simp, by simp, by (first | lia | omega), by (first | lia | omega)⟩
  have M1 : Mh ask a b [at0 a (a.size - 1)] (a.size - 1) b.size := by have := M0.stepA O ha hb Sa Sb hL; rwa [show b.size - 1 + 1 = b.size by (first | lia | omega)] at this
  have e0 : (#[kas_item it (at0 a ((a.map (kas_item it)).size - 1))] : Array Keyed) = Out it [at0 a (a.size - 1)].reverse := by rw [sa]; rfl
  have fin0 : ∀ (o : List Nat) (na nb g' : Nat) (x : Array Keyed), x = Out it o.reverse → Mh ask a b o na nb → na = 0 → Q ((a.map (kas_item it)).extract 0 na ++ (b.map (kas_item it)).extract 0 nb ++ x.reverse) (St κ it p pd g') := by
    intro o na nb g' x hx M e
    subst e
    rw [hx, outr_end0]
    exact hQ _ _ (M.done0 Sb)
  have finB : ∀ (o : List Nat) (na nb g' : Nat) (x : Array Keyed), x = Out it o.reverse → Mh ask a b o na nb → nb = 1 → Q ((b.map (kas_item it)).extract 0 nb ++ (a.map (kas_item it)).extract 0 na ++ x.reverse) (St κ it p pd g') := by
    intro o na nb g' x hx M e
    subst e
    rw [hx, outr_endB]
    exact hQ _ _ (M.firstB O ha hb Sa hF)
  refine sC_rule ?_
  refine sC_bind (sC_elem (q := a) (i := (a.map (kas_item it)).size - 1) (by rw [sa]; (first | lia | omega)) ?_)
  refine sC_ite (fun hc => sC_pure (fin0 _ _ _ g _ e0 (by rw [sa, sb]; exact M1) (eq_of_beq hc))) (fun hc => ?_)
  have ha1 : 1 ≤ a.size - 1 := by have q : ¬ ((a.map (kas_item it)).size - 1 == 0) = true := hc; rw [sa] at q; have := ne_of_beq q; (first | lia | omega)
  refine sC_ite (fun hc => sC_pure (finB _ _ _ g _ e0 (by rw [sa, sb]; exact M1) (eq_of_beq hc))) (fun hc => ?_)
  have hb1 : 2 ≤ b.size := by have q : ¬ ((b.map (kas_item it)).size == 1) = true := hc; rw [sb] at q; have := ne_of_beq q; (first | lia | omega)
  refine sC_bind (sC_get ?_)
  have ea : a.size - 1 = (a.size - 2) + 1 := by (first | lia | omega)
  have eb : b.size = (b.size - 2) + 2 := by (first | lia | omega)
  have M1' : Mh ask a b [at0 a (a.size - 1)] ((a.size - 2) + 1) ((b.size - 2) + 2) := by rw [← ea, ← eb]; exact M1
  refine bindHi (T := 0) (T' := a.size + b.size) (Q := Q) (HiS.mk e0 (by rw [sa]; exact ea) (by rw [sb]; exact eb) M1' (by (first | lia | omega))) (by rw [sa, sb]; exact Nat.le_refl _) ?_ (fun R y st hR => sC_pure hR) ?_
  · intro j o na nb mg g' M hp
    refine bindHi (T := j) (T' := j + 1) (Q := Q) (HiS.mk rfl rfl rfl M (by (first | lia | omega))) (by rw [sa, sb]; exact Nat.le_refl _) ?_ (fun R y st hR => sC_pure (Onw.done hR)) ?_
    · intro j' o na nb y g' M hp
      have hla := M.la
      have hlb := M.lb
      extract_lets
      refine sC_bind (sC_elem (i := nb + 1) (by (first | lia | omega)) ?_)
      refine sC_bind (sC_elem (i := na) (by (first | lia | omega)) ?_)
      refine sC_bind (sC_lt H (hb _) (ha _) ?_)
      refine sC_ite (fun hw => ?_) (fun hw => ?_)
      · have M' := M.stepA O ha hb Sa Sb hw
        refine sC_bind (sC_elem (i := na) (by (first | lia | omega)) ?_)
        refine sC_ite (fun hc => sC_pure (Onw.done (fin0 _ na (nb + 2) g' _ outr_push M' (eq_of_beq hc)))) (fun hc => ?_)
        have hna : na ≠ 0 := by have q : ¬ (na == 0) = true := hc; exact ne_of_beq q
        have em : na = (na - 1) + 1 := by (first | lia | omega)
        have M'' : Mh ask a b (at0 a na :: o) ((na - 1) + 1) (nb + 2) := em ▸ M'
        refine sC_ite (fun hg => sC_pure (Onw.on (HiS.mk outr_push em rfl M'' (by (first | lia | omega))))) (fun hg => sC_pure ⟨rfl, HiS.mk outr_push em rfl M'' (by (first | lia | omega))⟩)
      · have M' := M.stepB O ha hb Sa Sb (by simpa using hw)
        refine sC_bind (sC_elem (i := nb + 1) (by (first | lia | omega)) ?_)
        refine sC_ite (fun hc => sC_pure (Onw.done (finB _ (na + 1) (nb + 1) g' _ outr_push M' (eq_of_beq hc)))) (fun hc => ?_)
        have hnb : nb + 1 ≠ 1 := by have q : ¬ (nb + 1 == 1) = true := hc; exact ne_of_beq q
        have em : nb + 1 = (nb - 1) + 2 := by (first | lia | omega)
        have M'' : Mh ask a b (at0 b (nb + 1) :: o) (na + 1) ((nb - 1) + 2) := em ▸ M'
        refine sC_ite (fun hg => sC_pure (Onw.on (HiS.mk outr_push rfl em M'' (by (first | lia | omega))))) (fun hg => sC_pure ⟨rfl, HiS.mk outr_push rfl em M'' (by (first | lia | omega))⟩)
    · -- by leaps
      intro o na nb y g' M hp
      refine sC_rule ?_
      refine bindHi (T := j + 1) (T' := j + 1) (Q := Q) (HiS.mk rfl rfl rfl M hp) (by rw [sa, sb]; exact Nat.le_refl _) ?_ (fun R y st hR => sC_pure (Onw.done hR)) ?_
      · intro j' o na nb y g' M hp
        have hla := M.la
        have hlb := M.lb
        extract_lets _ _ _ _ _ _ _ _ _ _ _ _ jp _
        refine sC_iteJ (J := jp) fun mg' => ?_
        refine sC_bind (sC_modify ?_)
        refine sC_bind (sC_elem (i := nb + 1) (by (first | lia | omega)) ?_)
        refine sC_bind (gallop_ok (left := false) (p := p) (pd := pd) (key := at0 b (nb + 1)) (q := a) (base := 0) (hint := na) (m := na + 1) H (hb _) ha (by (first | lia | omega)) (by (first | lia | omega)) (mono_r O ha (hb _) Sa (by (first | lia | omega))) ?_)
        intro r hr hT hN
        have hge : ∀ i, r ≤ i → i < r + (na + 1 - r) → ask (at0 b (nb + 1)) (at0 a i) = true := fun i h1 h2 => by have := byd_r (hN i h1 (by (first | lia | omega))); rwa [Nat.zero_add] at this
        have MA : Mh ask a b ((a.toList.drop r).take (na + 1 - r) ++ o) r (nb + 1 + 1) := Mh.stepAs (nb := nb + 1) O ha hb Sa Sb (na + 1 - r) (x := r) (o := o) (by rw [show r + (na + 1 - r) = na + 1 by (first | lia | omega)]; exact M) hge
        have hlt : ∀ m, r = m + 1 → ask (at0 b (nb + 1)) (at0 a m) = false := fun m hm => by have := byd_r (hT m (by (first | lia | omega))); rwa [Nat.zero_add] at this
        dsimp (config := { zeta := false }) only
        extract_lets _ _ jp2 _ _
        refine sC_iteK (J := jp2) (fun a' o' => ∃ o m, o' = Out it o.reverse ∧ a' = m + 1 ∧ Mh ask a b o (m + 1) (nb + 1 + 1) ∧ ask (at0 b (nb + 1)) (at0 a m) = false ∧ m ≤ na) ?_ (fun hk F => ?_) (fun hk => ?_)
        · rintro _ _ ⟨o2, m, rfl, rfl, M2, hge2, hm⟩
          have hma : m < a.size := by (first | lia | omega)
          have MB := M2.stepB O ha hb Sa Sb hge2
          refine sC_bind (sC_elem (i := nb + 1) (by (first | lia | omega)) ?_)
          refine sC_ite (fun hc => sC_pure (Onw.done (finB _ (m + 1) (nb + 1) _ _ outr_push MB (eq_of_beq hc)))) (fun hc => ?_)
          have hnb : nb + 1 ≠ 1 := by have q : ¬ (nb + 1 == 1) = true := hc; exact ne_of_beq q
          refine sC_bind (sC_elem (i := m) hma ?_)
          refine sC_bind (gallop_ok (left := true) (p := p) (pd := pd) (key := at0 a m) (q := b) (base := 0) (hint := nb) (m := nb + 1) H (ha _) hb (by (first | lia | omega)) (by (first | lia | omega)) (mono_l O hb (ha _) Sb (by (first | lia | omega))) ?_)
          intro r2 hr2 hT2 hN2
          have hge3 : ∀ i, r2 ≤ i → i < r2 + (nb + 1 - r2) → ask (at0 b i) (at0 a m) = false := fun i h1 h2 => by have := byd_l (hN2 i h1 (by (first | lia | omega))); rwa [Nat.zero_add] at this
          have hr20 : r2 ≠ 0 := fun e => by have := hge3 0 (by rw [e]; exact Nat.le_refl 0) (by rw [e, Nat.sub_zero, Nat.zero_add]; exact Nat.succ_pos _); rw [hF m hma] at this; cases this
          obtain ⟨r2, rfl⟩ : ∃ m, r2 = m + 1 := ⟨r2 - 1, by (first | lia | omega)⟩
          have hlt2 : ask (at0 b r2) (at0 a m) = true := by have := byd_l (hT2 r2 (by (first | lia | omega))); rwa [Nat.zero_add] at this
          have MC := Mh.stepBs O ha hb Sa Sb (nb + 1 - (r2 + 1)) (x := r2 + 1) (by rw [show r2 + 1 + (nb + 1 - (r2 + 1)) = nb + 1 by (first | lia | omega)]; exact MB) hge3
          dsimp (config := { zeta := false }) only
          extract_lets _ _ _ jp3 _ _
          refine sC_iteK (J := jp3) (fun b' o' => ∃ o d, o' = Out it o.reverse ∧ b' = d + 2 ∧ Mh ask a b o (m + 1) (d + 1 + 1) ∧ ask (at0 b (d + 1)) (at0 a m) = true ∧ d + 1 ≤ nb) ?_ (fun hk2 F => ?_) (fun hk2 => ?_)
          · rintro _ _ ⟨o3, d, rfl, rfl, M3, hlt3, hd⟩
            have MD := M3.stepA O ha hb Sa Sb hlt3
            refine sC_bind (sC_elem (i := m) hma ?_)
            refine sC_ite (fun hc => sC_pure (Onw.done (fin0 _ m (d + 2) _ _ outr_push MD (eq_of_beq hc)))) (fun hc => ?_)
            have hr1 : m ≠ 0 := by have q : ¬ (m == 0) = true := hc; exact ne_of_beq q
            have em : m = (m - 1) + 1 := by (first | lia | omega)
            have MD' : Mh ask a b (at0 a m :: o3) ((m - 1) + 1) (d + 2) := em ▸ MD
            refine sC_ite (fun _ => sC_pure (Onw.on (HiS.mk outr_push em rfl MD' (by (first | lia | omega))))) (fun _ => sC_pure ⟨rfl, HiS.mk outr_push em rfl MD' (by (first | lia | omega))⟩)
          · have hk2 : nb + 1 - (r2 + 1) > 0 := hk2
            have eo : Out it (at0 b (nb + 1) :: o2).reverse ++ ((b.map (kas_item it)).extract (r2 + 1) (nb + 1)).reverse = _ := outr_seg (k := nb + 1 - (r2 + 1)) (by (first | lia | omega))
            rw [← outr_push] at eo
            refine sC_ite (fun hc => sC_pure (Onw.done (finB _ (m + 1) (r2 + 1) _ _ eo MC (eq_of_beq hc)))) (fun hc => ?_)
            have hr21 : r2 + 1 ≠ 1 := by have q : ¬ (r2 + 1 == 1) = true := hc; exact ne_of_beq q
            refine sC_ite (fun hc => ?_) (fun _ => ?_)
            · exfalso
              have q : (r2 + 1 == 0) = true := hc
              have := eq_of_beq q
              (first | lia | omega)
            obtain ⟨d, rfl⟩ : ∃ x, r2 = x + 1 := ⟨r2 - 1, by (first | lia | omega)⟩
            exact F _ _ ⟨_, d, eo, rfl, MC, hlt2, by (first | lia | omega)⟩
          · have hk2 : ¬ nb + 1 - (r2 + 1) > 0 := hk2
            have hr2e : r2 = nb := by (first | lia | omega)
            subst hr2e
            obtain ⟨d, rfl⟩ : ∃ x, r2 = x + 1 := ⟨r2 - 1, by (first | lia | omega)⟩
            exact ⟨_, d, outr_push, rfl, MB, hlt2, Nat.le_refl _⟩
        · have hk : na + 1 - r > 0 := hk
          have eo : Out it o.reverse ++ ((a.map (kas_item it)).extract r (na + 1)).reverse = _ := outr_seg (k := na + 1 - r) (by (first | lia | omega))
          refine sC_ite (fun hc => sC_pure (Onw.done (fin0 _ r (nb + 2) _ _ eo MA (eq_of_beq hc)))) (fun hc => ?_)
          have hr0 : r ≠ 0 := by have q : ¬ (r == 0) = true := hc; exact ne_of_beq q
          obtain ⟨m, rfl⟩ : ∃ x, r = x + 1 := ⟨r - 1, by (first | lia | omega)⟩
          exact F _ _ ⟨_, m, eo, rfl, MA, hlt m rfl, by (first | lia | omega)⟩
        · have hk : ¬ na + 1 - r > 0 := hk
          have hre : r = na + 1 := by (first | lia | omega)
          subst hre
          exact ⟨o, na, rfl, rfl, M, hlt na rfl, Nat.le_refl _⟩
      · intro o na nb y g' M hp
        refine sC_bind (sC_modify ?_)
        exact sC_pure ⟨rfl, HiS.mk rfl rfl rfl M (by (first | lia | omega))⟩
  · intro o na nb y g' M hp
    (first | lia | omega)
end
end

/-! part S11 -/
set_option autoImplicit false
set_option maxRecDepth 100000
set_option linter.unusedVariables false
open PySem PySem.W PyProof.Rows
section
/-! ### a run in the midst of the row -/
section
variable {n : Nat} {ask : Nat → Nat → Bool}
structure Seg (p₀ p : Array Nat) (lo hi : Nat) : Prop where
  perm : p.Perm p₀
  out : ∀ k, k < lo ∨ hi ≤ k → at0 p k = at0 p₀ k
theorem Seg.refl (p : Array Nat) (lo hi : Nat) : Seg p p lo hi := ⟨Array.Perm.refl _, fun _ _ => rfl⟩
theorem Seg.size {p₀ p : Array Nat} {lo hi : Nat} (h : Seg p₀ p lo hi) : p.size = p₀.size := h.perm.size_eq
theorem Seg.rev {p₀ p : Array Nat} {lo hi i j : Nat} (h : Seg p₀ p lo hi) (hi1 : lo ≤ i) (hj : j ≤ hi) (hz : hi ≤ p₀.size) : Seg p₀ (kas_rev p i j) lo hi :=
  ⟨(rev_perm ..).trans h.perm, fun k hk => by rw [at_rev (by rw [h.size]; (first | lia | omega)), if_neg (by (first | lia | omega))]; exact h.out k hk⟩
theorem Seg.trans {p₀ p q : Array Nat} {lo hi : Nat} (h : Seg p₀ p lo hi) (h' : Seg p q lo hi) : Seg p₀ q lo hi := ⟨h'.perm.trans h.perm, fun k hk => (h'.out k hk).trans (h.out k hk)⟩
noncomputable def SrtS (ask : Nat → Nat → Bool) (p : Array Nat) (lo m : Nat) : Prop := ∀ i j, lo ≤ i → i < j → j < lo + m → ask (at0 p j) (at0 p i) = false
noncomputable def DscS (ask : Nat → Nat → Bool) (p : Array Nat) (lo m : Nat) : Prop := ∀ i j, lo ≤ i → i < j → j < lo + m → ask (at0 p i) (at0 p j) = false
theorem SrtS.snoc (A : Ask n ask) {p : Array Nat} {lo m : Nat} (hp : Small n p) (hm : 1 ≤ m) (h : SrtS ask p lo m) (hx : ask (at0 p (lo + m)) (at0 p (lo + m - 1)) = false) : SrtS ask p lo (m + 1) := by
  intro i j h1 h2 h3
  by_cases e : j < lo + m
  · exact h i j h1 h2 e
  · have : j = lo + m := by (first | lia | omega)
    subst this
    by_cases e2 : i = lo + m - 1
    · rw [e2]; exact hx
    · exact A.trans _ _ _ (hp _) (hp _) (hp _) (h i (lo + m - 1) h1 (by (first | lia | omega)) (by (first | lia | omega))) hx
theorem DscS.snoc (A : Ask n ask) {p : Array Nat} {lo m : Nat} (hp : Small n p) (hm : 1 ≤ m) (h : DscS ask p lo m) (hx : ask (at0 p (lo + m - 1)) (at0 p (lo + m)) = false) : DscS ask p lo (m + 1) := by
  intro i j h1 h2 h3
  by_cases e : j < lo + m
  · exact h i j h1 h2 e
  · have : j = lo + m := by (first | lia | omega)
    subst this
    by_cases e2 : i = lo + m - 1
    · rw [e2]; exact hx
    · exact A.trans _ _ _ (hp _) (hp _) (hp _) hx (h i (lo + m - 1) h1 (by (first | lia | omega)) (by (first | lia | omega)))
theorem DscS.turn {p : Array Nat} {lo m : Nat} (h : DscS ask p lo m) (hz : lo + m ≤ p.size) : SrtS ask (kas_rev p lo (lo + m)) lo m := by
  intro i j h1 h2 h3
  rw [at_rev hz, at_rev hz, if_pos ⟨Nat.le_trans h1 (Nat.le_of_lt h2), h3⟩, if_pos ⟨h1, Nat.lt_trans h2 h3⟩]
  exact h _ _ (by (first | lia | omega)) (n_flip h2 h3) (n_back h1 (Nat.lt_trans h2 h3))
/-- the way down: like ones stand behind -/
structure DnS (ask : Nat → Nat → Bool) (p : Array Nat) (lo m q : Nat) : Prop where
  dsc : DscS ask p lo m
  tail : ∀ i j, lo + m - (q + 1) ≤ i → i < j → j < lo + m → ask (at0 p j) (at0 p i) = false
  le : q + 1 ≤ m
theorem DnS.turn {p : Array Nat} {lo m q : Nat} (h : DnS ask p lo m q) (hz : lo + m ≤ p.size) : DscS ask (kas_rev p (lo + m - (q + 1)) (lo + m)) lo m := by
  have hq := h.le
  intro i j h1 h2 h3
  rw [at_rev hz, at_rev hz]
  by_cases e : lo + m - (q + 1) ≤ i
  · rw [if_pos ⟨e, Nat.lt_trans h2 h3⟩, if_pos ⟨Nat.le_trans e (Nat.le_of_lt h2), h3⟩]
    exact h.tail _ _ (by (first | lia | omega)) (n_flip h2 h3) (n_back e (Nat.lt_trans h2 h3))
  · rw [if_neg (by (first | lia | omega))]
    split
    · exact h.dsc _ _ h1 (by (first | lia | omega)) (by (first | lia | omega))
    · exact h.dsc _ _ h1 h2 h3
theorem DnS.flat {p : Array Nat} {lo m : Nat} (h : DscS ask p lo m) (hm : 1 ≤ m) : DnS ask p lo m 0 := ⟨h, fun i j h1 h2 h3 => by (first | lia | omega), hm⟩
theorem DnS.like (A : Ask n ask) {p : Array Nat} {lo m q : Nat} (hp : Small n p) (h : DnS ask p lo m q) (h1 : ask (at0 p (lo + m)) (at0 p (lo + m - 1)) = false) (h2 : ask (at0 p (lo + m - 1)) (at0 p (lo + m)) = false) : DnS ask p lo (m + 1) (q + 1) := by
  have hq := h.le
  refine ⟨h.dsc.snoc A hp (by (first | lia | omega)) h2, fun i j h3 h4 h5 => ?_, by (first | lia | omega)⟩
  by_cases e : j < lo + m
  · exact h.tail i j (by (first | lia | omega)) h4 e
  · have : j = lo + m := by (first | lia | omega)
    subst this
    by_cases e2 : i = lo + m - 1
    · rw [e2]; exact h1
    · exact A.trans _ _ _ (hp _) (hp _) (hp _) (h.tail i (lo + m - 1) (by (first | lia | omega)) (by (first | lia | omega)) (by (first | lia | omega))) h1
end

section
variable {prog : Program} {w : World} {A : Around} {E : Value → Shared → Prop} {s : Shared} {κ : SortKind} {it : Array Keyed} {n : Nat} {ask : Nat → Nat → Bool} {pd : Array (Nat × Nat × Nat)} {g : Nat}
theorem sC_ltAt {i j : Nat} {p : Array Nat} {Q : Option Bool → SortSt → Prop} (H : AskAt prog w A s κ it n ask) (hp : Small n p) (hi : i < p.size) (hj : j < p.size) (h : Q (some (ask (at0 p i) (at0 p j))) (St κ it p pd g)) :
    sC prog w A E s (ltAt' i j) Q (St κ it p pd g) := by
  rw [ltAt'_eq]
  exact sC_bind (sC_get (sC_bind (sC_elem hi (sC_bind (sC_elem hj (sC_lt H (hp _) (hp _) h))))))
theorem sC_rev {i j : Nat} {p : Array Nat} {Q : Unit → SortSt → Prop} (h : Q () (St κ it (kas_rev p i j) pd g)) : sC prog w A E s (reverseSlice' i j) Q (St κ it p pd g) := by
  rw [reverseSlice'_eq]
  refine sC_modify ?_
  have e : setArr (St κ it p pd g) (mirror (arrOf (St κ it p pd g)) i j ((j - i) / 2)) = St κ it (kas_rev p i j) pd g := by
    show SortSt.mk' κ (mirror (p.map (kas_item it)) i j ((j - i) / 2)) pd g none = SortSt.mk' κ ((mirror p i j ((j - i) / 2)).map (kas_item it)) pd g none
    have e1 : mirror (p.map (kas_item it)) i j ((j - i) / 2) = (mirror p i j ((j - i) / 2)).map (kas_item it) := kas_swaps_map (kas_item it) (fun k => i + k) (fun k => j - 1 - k) _ p
    rw [e1]
  rw [e]; exact h
theorem sC_move {k l : Nat} {p : Array Nat} {Q : Unit → SortSt → Prop} (h : Q () (St κ it (bubble p k (k - l)) pd g)) : sC prog w A E s (moveDown' k l) Q (St κ it p pd g) := by
  rw [moveDown'_eq]
  refine sC_modify ?_
  have e : setArr (St κ it p pd g) (bubble (arrOf (St κ it p pd g)) k (k - l)) = St κ it (bubble p k (k - l)) pd g := by
    show SortSt.mk' κ (bubble (p.map (kas_item it)) k (k - l)) pd g none = SortSt.mk' κ ((bubble p k (k - l)).map (kas_item it)) pd g none
    have e1 : bubble (p.map (kas_item it)) k (k - l) = (bubble p k (k - l)).map (kas_item it) := kas_swaps_map (kas_item it) (fun i => k - i) (fun i => k - i - 1) _ p
    rw [e1]
  rw [e]; exact h

noncomputable abbrev L2 := Option (Option Nat) × Nat
theorem asc_loop {a nrem lo : Nat} {p : Array Nat} {f : Nat → L2 → StateT SortSt Sem (ForInStep L2)} {Q : L2 → SortSt → Prop} (O : Ask n ask) (hp : Small n p) (h1 : 1 ≤ a) (ha : a ≤ nrem) (hs : SrtS ask p lo a)
    (hf : ∀ x m (Q' : ForInStep L2 → SortSt → Prop), 1 ≤ m → m < nrem → Q' (if ask (at0 p (lo + m)) (at0 p (lo + m - 1)) = true then .done (none, m) else .yield (none, m + 1)) (St κ it p pd g) → sC prog w A E s (f x (none, m)) Q' (St κ it p pd g))
    (h : ∀ m, a ≤ m → m ≤ nrem → SrtS ask p lo m → (m < nrem → ask (at0 p (lo + m)) (at0 p (lo + m - 1)) = true) → Q (none, m) (St κ it p pd g)) : sC prog w A E s (forIn [a:nrem] (none, a) f) Q (St κ it p pd g) := by
  refine sC_for (fun j b st => b = (none, j) ∧ st = St κ it p pd g ∧ SrtS ask p lo j) ⟨rfl, rfl, hs⟩ ?_ ?_
  · rintro j b st h2 h3 ⟨rfl, rfl, hS⟩
    refine hf j j _ (by (first | lia | omega)) h3 ?_
    cases hc : ask (at0 p (lo + j)) (at0 p (lo + j - 1)) with
    | true => rw [if_pos rfl]; exact h j h2 (by (first | lia | omega)) hS fun _ => hc
    | false => rw [if_neg (by decide)]; exact ⟨rfl, rfl, hS.snoc O hp (by (first | lia | omega)) hc⟩
  · rintro b st ⟨rfl, rfl, hS⟩
    rw [show max a nrem = nrem by (first | lia | omega)] at hS ⊢
    exact h nrem ha (Nat.le_refl _) hS fun h => absurd h (Nat.lt_irrefl _)

theorem desc_loop {a nrem lo : Nat} {p₀ p : Array Nat} {f : Nat → L3 → StateT SortSt Sem (ForInStep L3)} {Q : L3 → SortSt → Prop} (O : Ask n ask) (hp₀ : Small n p₀) (hz : lo + nrem ≤ p₀.size) (hS : Seg p₀ p lo (lo + nrem)) (h1 : 1 ≤ a) (ha : a ≤ nrem) (hs : DscS ask p lo a)
    (hf : ∀ x m q (p' : Array Nat) (Q' : ForInStep L3 → SortSt → Prop), 1 ≤ m → m < nrem → p'.size = p₀.size → Small n p' →
      (ask (at0 p' (lo + m)) (at0 p' (lo + m - 1)) = true → Q' (.yield (none, m + 1, 0)) (St κ it (if q > 0 then kas_rev p' (lo + m - (q + 1)) (lo + m) else p') pd g)) →
      (ask (at0 p' (lo + m)) (at0 p' (lo + m - 1)) = false → Q' (if ask (at0 p' (lo + m - 1)) (at0 p' (lo + m)) = true then .done (none, m, q) else .yield (none, m + 1, q + 1)) (St κ it p' pd g)) →
      sC prog w A E s (f x (none, m, q)) Q' (St κ it p' pd g))
    (h : ∀ m q p', a ≤ m → m ≤ nrem → Seg p₀ p' lo (lo + nrem) → DnS ask p' lo m q → Q (none, m, q) (St κ it p' pd g)) : sC prog w A E s (forIn [a:nrem] (none, a, 0) f) Q (St κ it p pd g) := by
  refine sC_for (fun j b st => ∃ q p', b = (none, j, q) ∧ st = St κ it p' pd g ∧ Seg p₀ p' lo (lo + nrem) ∧ DnS ask p' lo j q) ⟨0, p, rfl, rfl, hS, DnS.flat hs h1⟩ ?_ ?_
  · rintro j b st h2 h3 ⟨q, p', rfl, rfl, hG, hD⟩
    have hp' : Small n p' := hp₀.perm hG.perm
    refine hf j j q p' _ (by (first | lia | omega)) h3 hG.size hp' (fun hc => ?_) fun hc => ?_
    · refine ⟨0, _, rfl, rfl, ?_, DnS.flat ?_ (by (first | lia | omega))⟩
      · split
        · exact hG.rev (by have := hD.le; (first | lia | omega)) (by (first | lia | omega)) hz
        · exact hG
      · have hD' : DscS ask (if q > 0 then kas_rev p' (lo + j - (q + 1)) (lo + j) else p') lo j := by
          split
          · exact hD.turn (by rw [hG.size]; (first | lia | omega))
          · exact hD.dsc
        have hp2 : Small n (if q > 0 then kas_rev p' (lo + j - (q + 1)) (lo + j) else p') := by
          split
          · exact hp'.perm (rev_perm ..)
          · exact hp'
        refine hD'.snoc O hp2 (by (first | lia | omega)) ?_
        have := hD.le
        split
        · rw [at_rev (by rw [hG.size]; (first | lia | omega)), at_rev (by rw [hG.size]; (first | lia | omega)), if_pos ⟨by (first | lia | omega), by (first | lia | omega)⟩, if_neg (by (first | lia | omega)), n_pred (a := lo + j - (q + 1)) (n := lo + j) (by (first | lia | omega))]
          by_cases e : lo + j - (q + 1) = lo + j - 1
          · rw [e]; exact O.asymm _ _ (hp' _) (hp' _) hc
          · exact O.trans _ _ _ (hp' _) (hp' _) (hp' _) (O.asymm _ _ (hp' _) (hp' _) hc) (hD.dsc _ _ (by (first | lia | omega)) (n_less (Nat.succ_le_succ (Nat.zero_le q)) e) (by (first | lia | omega)))
        · exact O.asymm _ _ (hp' _) (hp' _) hc
    · cases hd : ask (at0 p' (lo + j - 1)) (at0 p' (lo + j)) with
      | true => rw [if_pos rfl]; exact h j q p' h2 (by (first | lia | omega)) hG hD
      | false => rw [if_neg (by decide)]; exact ⟨q + 1, p', rfl, rfl, hG, hD.like O hp' hc hd⟩
  · rintro b st ⟨q, p', rfl, rfl, hG, hD⟩
    rw [show max a nrem = nrem by (first | lia | omega)] at hD ⊢
    exact h nrem q p' ha (Nat.le_refl _) hG hD

theorem countRun_ok {lo nrem : Nat} {p₀ : Array Nat} {Q : Option Nat → SortSt → Prop} (H : AskAt prog w A s κ it n ask) (O : Ask n ask) (hp₀ : Small n p₀) (hz : lo + nrem ≤ p₀.size) (h1 : 1 ≤ nrem)
    (h : ∀ m p, 1 ≤ m → m ≤ nrem → Seg p₀ p lo (lo + nrem) → SrtS ask p lo m → Q (some m) (St κ it p pd g)) : sC prog w A E s (countRun' lo nrem) Q (St κ it p₀ pd g) := by
  have tail : ∀ (m : Nat) (p' : Array Nat), 1 ≤ m → m ≤ nrem → Seg p₀ p' lo (lo + nrem) → DscS ask p' lo m → ∀ (f : Nat → L2 → StateT SortSt Sem (ForInStep L2)) (K : L2 → StateT SortSt Sem (Option Nat)),
      (∀ (p : Array Nat) x m (Q' : ForInStep L2 → SortSt → Prop), p.size = p₀.size → Small n p → 1 ≤ m → m < nrem → Q' (if ask (at0 p (lo + m)) (at0 p (lo + m - 1)) = true then .done (none, m) else .yield (none, m + 1)) (St κ it p pd g) → sC prog w A E s (f x (none, m)) Q' (St κ it p pd g)) →
      (∀ m' p, 1 ≤ m' → m' ≤ nrem → Seg p₀ p lo (lo + nrem) → SrtS ask p lo m' → sC prog w A E s (K (none, m')) Q (St κ it p pd g)) →
      sC prog w A E s (forIn [m:nrem] (none, m) f >>= K) Q (St κ it (kas_rev p' lo (lo + m)) pd g) := by
    intro m p' hm1 hm2 hG hD f K hf hK
    have hG2 : Seg p₀ (kas_rev p' lo (lo + m)) lo (lo + nrem) := hG.rev (Nat.le_refl _) (by (first | lia | omega)) hz
    have hp2 := hp₀.perm hG2.perm
    refine sC_bind (asc_loop (ask := ask) (n := n) O hp2 hm1 hm2 (hD.turn (by rw [hG.size]; (first | lia | omega))) (fun x m Q' a1 a2 a3 => hf _ x m Q' hG2.size hp2 a1 a2 a3) fun m' a1 a2 a3 _ => ?_)
    exact hK m' _ (by (first | lia | omega)) a2 hG2 a3
  refine sC_bind (asc_loop (ask := ask) (n := n) (lo := lo) O hp₀ (Nat.le_refl _) h1 (fun i j a1 a2 a3 => by (first | lia | omega)) ?_ ?_)
  · intro x m Q' a1 a2 hQ
    refine sC_bind (sC_ltAt H hp₀ (by dsimp only; (first | lia | omega)) (by dsimp only; (first | lia | omega)) ?_)
    cases hc : ask (at0 p₀ (lo + m)) (at0 p₀ (lo + m - 1)) with
    | true => rw [hc] at hQ; exact sC_pure hQ
    | false => rw [hc] at hQ; exact sC_pure hQ
  intro m a1 a2 a3 a4
  have desc : ∀ (p : Array Nat), Seg p₀ p lo (lo + nrem) → m + 1 ≤ nrem → DscS ask p lo (m + 1) → ∀ (f : Nat → L3 → StateT SortSt Sem (ForInStep L3)) (K : L3 → StateT SortSt Sem (Option Nat)),
      (∀ x m q (p' : Array Nat) (Q' : ForInStep L3 → SortSt → Prop), 1 ≤ m → m < nrem → p'.size = p₀.size → Small n p' →
        (ask (at0 p' (lo + m)) (at0 p' (lo + m - 1)) = true → Q' (.yield (none, m + 1, 0)) (St κ it (if q > 0 then kas_rev p' (lo + m - (q + 1)) (lo + m) else p') pd g)) →
        (ask (at0 p' (lo + m)) (at0 p' (lo + m - 1)) = false → Q' (if ask (at0 p' (lo + m - 1)) (at0 p' (lo + m)) = true then .done (none, m, q) else .yield (none, m + 1, q + 1)) (St κ it p' pd g)) →
        sC prog w A E s (f x (none, m, q)) Q' (St κ it p' pd g)) →
      (∀ m' q p', m + 1 ≤ m' → m' ≤ nrem → Seg p₀ p' lo (lo + nrem) → DscS ask (if q > 0 then kas_rev p' (lo + m' - (q + 1)) (lo + m') else p') lo m' → Seg p₀ (if q > 0 then kas_rev p' (lo + m' - (q + 1)) (lo + m') else p') lo (lo + nrem) → sC prog w A E s (K (none, m', q)) Q (St κ it p' pd g)) →
      sC prog w A E s (forIn [m + 1:nrem] (none, m + 1, 0) f >>= K) Q (St κ it p pd g) := by
    intro p hG hm hD f K hf hK
    refine sC_bind (desc_loop (ask := ask) (n := n) O hp₀ hz hG (by (first | lia | omega)) hm hD hf fun m' q p' b1 b2 b3 b4 => hK m' q p' b1 b2 b3 ?_ ?_)
    · split
      · exact b4.turn (by rw [b3.size]; (first | lia | omega))
      · exact b4.dsc
    · have := b4.le
      split
      · exact b3.rev (by (first | lia | omega)) (by (first | lia | omega)) hz
      · exact b3
  refine sC_ite (fun hc => ?_) (fun hc => ?_)
  · exact sC_pure (h m p₀ a1 a2 (Seg.refl ..) a3)
  have hm : m < nrem := by have := ne_of_beq hc; dsimp only at this; (first | lia | omega)
  have hx := a4 hm
  refine sC_ite (fun hc1 => ?b1) (fun hc1 => ?b2)
  case' b1 =>
    have hc1 : m > 1 := hc1
    refine sC_bind (sC_ltAt (i := lo) (j := lo + m - 1) H hp₀ (by (first | lia | omega)) (by (first | lia | omega)) ?_)
    refine sC_ite (fun hr => sC_pure (h m p₀ a1 a2 (Seg.refl ..) a3)) (fun hr => ?_)
    have hr' : ask (at0 p₀ lo) (at0 p₀ (lo + m - 1)) = false := by simpa using hr
    refine sC_bind (sC_rev (i := lo) (j := lo + m) ?_)
    have hG : Seg p₀ (kas_rev p₀ lo (lo + m)) lo (lo + nrem) := (Seg.refl ..).rev (Nat.le_refl _) (by (first | lia | omega)) hz
    have all : ∀ i j, lo ≤ i → i < lo + m → lo ≤ j → j < lo + m → ask (at0 p₀ i) (at0 p₀ j) = false := by
      intro i j b1 b2 b3 b4
      have c1 : ask (at0 p₀ lo) (at0 p₀ j) = false := by
        by_cases e : j = lo + m - 1
        · rw [e]; exact hr'
        · exact O.trans _ _ _ (hp₀ _) (hp₀ _) (hp₀ _) (a3 j (lo + m - 1) b3 (by (first | lia | omega)) (by (first | lia | omega))) hr'
      by_cases e : i = lo
      · rw [e]; exact c1
      · exact O.trans _ _ _ (hp₀ _) (hp₀ _) (hp₀ _) c1 (a3 lo i (Nat.le_refl _) (by (first | lia | omega)) (by (first | lia | omega)))
    have hD : DscS ask (kas_rev p₀ lo (lo + m)) lo (m + 1) := by
      refine DscS.snoc O (hp₀.perm (rev_perm ..)) a1 (fun i j b1 b2 b3 => ?_) ?_
      · rw [at_rev (by (first | lia | omega)), at_rev (by (first | lia | omega)), if_pos ⟨b1, by (first | lia | omega)⟩, if_pos ⟨by (first | lia | omega), b3⟩]
        exact all _ _ (by (first | lia | omega)) (by (first | lia | omega)) (by (first | lia | omega)) (by (first | lia | omega))
      · rw [at_rev (by (first | lia | omega)), at_rev (by (first | lia | omega)), if_pos ⟨by (first | lia | omega), by (first | lia | omega)⟩, if_neg (by (first | lia | omega))]
        exact O.trans _ _ _ (hp₀ _) (hp₀ _) (hp₀ _) (O.asymm _ _ (hp₀ _) (hp₀ _) hx) (all _ _ (by (first | lia | omega)) (by (first | lia | omega)) (by (first | lia | omega)) (by (first | lia | omega)))
    clear hr hr' all
    generalize kas_rev p₀ lo (lo + m) = p at hG hD ⊢
  case' b2 =>
    have hc1 : ¬ m > 1 := hc1
    have hm1 : m = 1 := by (first | lia | omega)
    obtain ⟨p, hpp⟩ : ∃ p, p = p₀ := ⟨_, rfl⟩
    have hG : Seg p₀ p lo (lo + nrem) := by rw [hpp]; exact Seg.refl ..
    have hD : DscS ask p lo (m + 1) := by rw [hpp]; exact DscS.snoc O hp₀ a1 (fun i j b1 b2 b3 => by (first | lia | omega)) (O.asymm _ _ (hp₀ _) (hp₀ _) hx)
    rw [← hpp]
  all_goals
    refine sC_rule ?_
    refine desc p hG (by (first | lia | omega)) hD _ _ ?_ ?_
    · intro x m q p' Q' b1 b2 b3 b4 q1 q2
      refine sC_bind (sC_ltAt (i := lo + m) (j := lo + m - 1) H b4 (by (first | lia | omega)) (by (first | lia | omega)) ?_)
      refine sC_ite (fun hc => ?_) (fun hc => ?_)
      · have q1 := q1 hc
        refine sC_ite (fun hq => ?_) (fun hq => ?_)
        · have hq : q > 0 := hq
          rw [if_pos hq] at q1
          exact sC_bind (sC_rev (i := lo + m - (q + 1)) (j := lo + m) (sC_pure q1))
        · have hq : ¬ q > 0 := hq
          rw [if_neg hq] at q1
          exact sC_pure q1
      · have q2 := q2 (by simpa using hc)
        refine sC_bind (sC_ltAt (i := lo + m - 1) (j := lo + m) H b4 (by (first | lia | omega)) (by (first | lia | omega)) ?_)
        refine sC_ite (fun hc => ?_) (fun hc => ?_)
        · rw [if_pos hc] at q2; exact sC_pure q2
        · rw [if_neg hc] at q2; exact sC_pure q2
    · intro m' q p' b1 b2 b3 b4 b5
      refine sC_ite (fun hq => ?_) (fun hq => ?_)
      · have hq : q > 0 := hq
        rw [if_pos hq] at b4 b5
        refine sC_bind (sC_rev (i := lo + m' - (q + 1)) (j := lo + m') ?_)
        refine sC_bind (sC_rev (i := lo) (j := lo + m') ?_)
        refine tail m' _ (by (first | lia | omega)) b2 b5 b4 _ _ ?_ (fun m2 p2 d1 d2 d3 d4 => sC_pure (h m2 p2 d1 d2 d3 d4))
        intro p x m Q' c1 c2 c3 c4 hQ
        refine sC_bind (sC_ltAt (i := lo + m) (j := lo + m - 1) H c2 (by (first | lia | omega)) (by (first | lia | omega)) ?_)
        refine sC_ite (fun hc => ?_) (fun hc => ?_)
        · rw [if_pos hc] at hQ; exact sC_pure hQ
        · rw [if_neg hc] at hQ; exact sC_pure hQ
      · have hq : ¬ q > 0 := hq
        rw [if_neg hq] at b4 b5
        refine sC_bind (sC_rev (i := lo) (j := lo + m') ?_)
        refine tail m' _ (by (first | lia | omega)) b2 b5 b4 _ _ ?_ (fun m2 p2 d1 d2 d3 d4 => sC_pure (h m2 p2 d1 d2 d3 d4))
        intro p x m Q' c1 c2 c3 c4 hQ
        refine sC_bind (sC_ltAt (i := lo + m) (j := lo + m - 1) H c2 (by (first | lia | omega)) (by (first | lia | omega)) ?_)
        refine sC_ite (fun hc => ?_) (fun hc => ?_)
        · rw [if_pos hc] at hQ; exact sC_pure hQ
        · rw [if_neg hc] at hQ; exact sC_pure hQ
end
end

/-! part S12 -/
set_option autoImplicit false
set_option maxRecDepth 100000
set_option linter.unusedVariables false
open PySem PySem.W PyProof.Rows
section
section
variable {prog : Program} {w : World} {A : Around} {E : Value → Shared → Prop} {s : Shared} {κ : SortKind} {it : Array Keyed} {n : Nat} {ask : Nat → Nat → Bool} {pd : Array (Nat × Nat × Nat)} {g : Nat}
theorem at_bubD {p : Array Nat} {src dst : Nat} (hs : src < p.size) (hd : dst ≤ src) (k : Nat) : at0 (bubble p src (src - dst)) k = if k = dst then at0 p src else if dst < k ∧ k ≤ src then at0 p (k - 1) else at0 p k := by
  rw [at_bub hs (by (first | lia | omega)), show src - (src - dst) = dst by (first | lia | omega)]
/-- the one at s laid at d: what is before s stands in order still -/
theorem ins_srt {p : Array Nat} {lo s d : Nat} (O : Ask n ask) (hp : Small n p) (hd0 : lo ≤ d) (hd : d ≤ s) (hs : s < p.size) (hS : ∀ i j, lo ≤ i → i < j → j < s → ask (at0 p j) (at0 p i) = false)
    (a2 : ∀ i, lo ≤ i → i < d → ask (at0 p s) (at0 p i) = false) (a3 : ∀ i, d ≤ i → i < s → ask (at0 p s) (at0 p i) = true) (i j : Nat) (hi : lo ≤ i) (hij : i < j) (hj : j < s + 1) :
    ask (at0 (bubble p s (s - d)) j) (at0 (bubble p s (s - d)) i) = false := by
  rw [at_bubD hs hd, at_bubD hs hd]
  by_cases e1 : i = d
  · rw [if_pos e1, if_neg (by (first | lia | omega)), if_pos ⟨by (first | lia | omega), by (first | lia | omega)⟩]
    exact O.asymm _ _ (hp _) (hp _) (a3 (j - 1) (by (first | lia | omega)) (by (first | lia | omega)))
  · rw [if_neg e1]
    by_cases e2 : j = d
    · rw [if_pos e2, if_neg (by (first | lia | omega))]
      exact a2 i hi (by (first | lia | omega))
    · rw [if_neg e2]
      by_cases e3 : d < i
      · rw [if_pos (c := d < i ∧ i ≤ s) ⟨e3, by (first | lia | omega)⟩, if_pos ⟨by (first | lia | omega), by (first | lia | omega)⟩]
        exact hS _ _ (by (first | lia | omega)) (by (first | lia | omega)) (by (first | lia | omega))
      · rw [if_neg (c := d < i ∧ i ≤ s) (fun h => e3 h.1)]
        by_cases e4 : d < j
        · rw [if_pos ⟨e4, by (first | lia | omega)⟩]
          exact hS _ _ hi (by (first | lia | omega)) (by (first | lia | omega))
        · rw [if_neg (fun h => e4 h.1)]
          exact hS _ _ hi hij (by (first | lia | omega))
theorem bin_for {lo m ok : Nat} {p₀ p : Array Nat} {γ : Type} {f : Nat → Option γ × Unit → StateT SortSt Sem (ForInStep (Option γ × Unit))} {Q : Option γ × Unit → SortSt → Prop} (hok : max ok 1 ≤ m) (hG : Seg p₀ p lo (lo + m)) (hS : SrtS ask p lo (max ok 1))
    (hf : ∀ k p (Q' : ForInStep (Option γ × Unit) → SortSt → Prop), k < m → Seg p₀ p lo (lo + m) → SrtS ask p lo k → (∀ p', Seg p₀ p' lo (lo + m) → SrtS ask p' lo (k + 1) → Q' (.yield (none, ())) (St κ it p' pd g)) → sC prog w A E s (f k (none, ())) Q' (St κ it p pd g))
    (h : ∀ p, Seg p₀ p lo (lo + m) → SrtS ask p lo m → Q (none, ()) (St κ it p pd g)) : sC prog w A E s (forIn [max ok 1:m] (none, ()) f) Q (St κ it p pd g) := by
  refine sC_for (fun k b st => b = (none, ()) ∧ ∃ p, st = St κ it p pd g ∧ Seg p₀ p lo (lo + m) ∧ SrtS ask p lo k) ⟨rfl, p, rfl, hG, hS⟩ ?_ ?_
  · rintro k b st hk1 hk2 ⟨rfl, p, rfl, hG, hS⟩
    exact hf k p _ hk2 hG hS fun p' g' s' => ⟨rfl, p', rfl, g', s'⟩
  · rintro b st ⟨rfl, p, rfl, hG, hS⟩
    rw [Nat.max_eq_right hok] at hS
    exact h p hG hS
theorem binarySort_ok {lo m ok : Nat} {p₀ p : Array Nat} {Q : Bool → SortSt → Prop} (H : AskAt prog w A s κ it n ask) (O : Ask n ask) (hp₀ : Small n p₀) (hz : lo + m ≤ p₀.size) (h1 : 1 ≤ ok) (hok : ok ≤ m) (hG : Seg p₀ p lo (lo + m)) (hs : SrtS ask p lo ok)
    (h : ∀ p, Seg p₀ p lo (lo + m) → SrtS ask p lo m → Q true (St κ it p pd g)) : sC prog w A E s (binarySort' lo m ok) Q (St κ it p pd g) := by
  have e1 : max ok 1 = ok := Nat.max_eq_left h1
  refine sC_bind (bin_for (by rw [e1]; exact hok) hG (by rw [e1]; exact hs) ?_ fun p g' s' => sC_pure (h p g' s'))
  intro k p Q' hk hG hS hQ
  have hp : Small n p := hp₀.perm hG.perm
  have hks : lo + k < p.size := by rw [hG.size]; (first | lia | omega)
  refine sC_bind (bs_loop (B := fun i => !ask (at0 p (lo + k)) (at0 p (lo + i))) (m := k) (fun i j hij hj h => ?_) (fun x lo hi h => if_pos h) ?_ (Nat.zero_le k) (Nat.le_refl k) (fun i h => absurd h (Nat.not_lt_zero i)) (fun i h h' => absurd h' (Nat.not_lt.mpr h)) ?_)
  · have h' : ask (at0 p (lo + k)) (at0 p (lo + j)) = false := by simpa using h
    have := O.trans _ _ _ (hp _) (hp _) (hp _) (hS (lo + i) (lo + j) (by (first | lia | omega)) (by (first | lia | omega)) (by (first | lia | omega))) h'
    simpa using this
  · intro x l r Q' a1 a2 hQ
    dsimp only
    rw [if_neg (Nat.not_le.mpr a1)]
    have e : (l + r) / 2 = l + (r - l) / 2 := by (first | lia | omega)
    rw [← e] at hQ
    have hm : (l + r) / 2 < k := by (first | lia | omega)
    refine sC_bind (sC_ltAt (i := lo + k) (j := lo + (l + r) / 2) H hp hks (by (first | lia | omega)) ?_)
    cases hT : ask (at0 p (lo + k)) (at0 p (lo + (l + r) / 2)) with
    | true => rw [hT] at hQ; exact sC_pure hQ
    | false => rw [hT] at hQ; exact sC_pure hQ
  · intro l hl a2 a3
    have d := Nat.add_le_add_left hl lo
    refine sC_bind (sC_move (k := lo + k) (l := lo + l) (sC_pure (hQ _ ⟨(bubble_perm ..).trans hG.perm, fun i hi => ?_⟩ ?_)))
    · rw [at_bubD hks d, if_neg (by (first | lia | omega)), if_neg (by (first | lia | omega))]
      exact hG.out i hi
    · refine ins_srt (s := lo + k) (d := lo + l) O hp (Nat.le_add_right lo l) d hks hS (fun i h1 h2 => ?_) fun i h1 h2 => ?_
      · have := a2 (i - lo) (by (first | lia | omega))
        rw [Nat.add_sub_cancel' h1] at this
        simpa using this
      · have := a3 (i - lo) (by (first | lia | omega)) (by (first | lia | omega))
        rw [Nat.add_sub_cancel' (by (first | lia | omega))] at this
        simpa using this

/-! a row laid over another -/
noncomputable def layA {α : Type} (p : Array α) (lo : Nat) (o : List α) : Array α := o.zipIdx.foldl (fun a x => a.setIfInBounds (lo + x.2) x.1) p
theorem layA_get {α : Type} (lo : Nat) : ∀ (o : List α) (k : Nat) (p : Array α), lo + k + o.length ≤ p.size → ∀ i, ((o.zipIdx k).foldl (fun a x => a.setIfInBounds (lo + x.2) x.1) p)[i]? = if lo + k ≤ i ∧ i < lo + k + o.length then o[i - (lo + k)]? else p[i]?
  | [], k, p, _, i => by
    rw [if_neg (by simp)]; rfl
  | x :: o, k, p, hz, i => by
    rw [List.zipIdx_cons, List.foldl_cons, layA_get lo o (k + 1) _ (by rw [Array.size_setIfInBounds]; simp only [List.length_cons] at hz; (first | lia | omega))]
    simp only [List.length_cons] at hz ⊢
    by_cases h1 : i = lo + k
    · subst h1
      rw [if_neg (by (first | lia | omega)), if_pos ⟨by (first | lia | omega), by (first | lia | omega)⟩, Array.getElem?_setIfInBounds_self_of_lt (by (first | lia | omega))]
      simp
    · rw [Array.getElem?_setIfInBounds_ne (by (first | lia | omega))]
      by_cases h2 : lo + k ≤ i ∧ i < lo + k + (o.length + 1)
      · rw [if_pos h2, if_pos ⟨by (first | lia | omega), by (first | lia | omega)⟩, show i - (lo + k) = (i - (lo + (k + 1))) + 1 by (first | lia | omega)]
        simp
      · rw [if_neg h2, if_neg (by (first | lia | omega))]
theorem layA_map {α β : Type} (f : α → β) (lo : Nat) : ∀ (o : List (α × Nat)) (p : Array α), ((o.map fun x => (f x.1, x.2)).foldl (fun a x => a.setIfInBounds (lo + x.2) x.1) (p.map f)) = (o.foldl (fun a x => a.setIfInBounds (lo + x.2) x.1) p).map f
  | [], _ => rfl
  | x :: o, p => by
    rw [List.map_cons, List.foldl_cons, List.foldl_cons, ← layA_map f lo o]
    congr 1
    exact (Array.map_setIfInBounds ..).symm
theorem at_layA {p : Array Nat} {lo : Nat} {o : List Nat} (hz : lo + o.length ≤ p.size) (i : Nat) : at0 (layA p lo o) i = if lo ≤ i ∧ i < lo + o.length then (o[i - lo]?).getD 0 else at0 p i := by
  rw [at0_eq]
  unfold layA
  rw [layA_get lo o 0 p (by (first | lia | omega))]
  simp only [Nat.add_zero]
  split
  · rfl
  · rw [at0_eq]
theorem layA_list {p : Array Nat} {lo : Nat} {o : List Nat} (hz : lo + o.length ≤ p.size) : (layA p lo o).toList = p.toList.take lo ++ o ++ p.toList.drop (lo + o.length) := by
  apply List.ext_getElem?
  intro i
  have e := layA_get lo o 0 p (by (first | lia | omega)) i
  simp only [Nat.add_zero] at e
  have e2 : (layA p lo o).toList[i]? = (layA p lo o)[i]? := by simp
  rw [e2]
  unfold layA
  rw [e]
  have hl : p.toList.length = p.size := rfl
  have e3 : p[i]? = p.toList[i]? := by simp
  rw [e3]
  by_cases h1 : i < lo
  · rw [if_neg (by (first | lia | omega)), List.append_assoc, List.getElem?_append_left (by rw [List.length_take]; (first | lia | omega)), List.getElem?_take_of_lt h1]
  · by_cases h2 : i < lo + o.length
    · rw [if_pos ⟨by (first | lia | omega), h2⟩, List.getElem?_append_left (by rw [List.length_append, List.length_take]; (first | lia | omega)), List.getElem?_append_right (by rw [List.length_take]; (first | lia | omega)), List.length_take]
      congr 1
      exact n_sub_len (Nat.le_trans (Nat.le_add_right ..) hz)
    · rw [if_neg (by (first | lia | omega)), List.getElem?_append_right (by rw [List.length_append, List.length_take]; (first | lia | omega)), List.length_append, List.length_take, List.getElem?_drop]
      congr 1
      exact n_drop (Nat.le_trans (Nat.le_add_right ..) hz) h2
end
end

/-! part S13 -/
set_option autoImplicit false
set_option maxRecDepth 100000
set_option linter.unusedVariables false
open PySem PySem.W PyProof.Rows
section
section
variable {prog : Program} {w : World} {A : Around} {E : Value → Shared → Prop} {s : Shared} {κ : SortKind} {it : Array Keyed} {n : Nat} {ask : Nat → Nat → Bool} {pd : Array (Nat × Nat × Nat)} {g : Nat}
theorem sC_set {st st' st'' : SortSt} {Q : PUnit → SortSt → Prop} (e : st' = st'') (h : Q ⟨⟩ st'') : sC prog w A E s (set st') Q st := by
  unfold sC kasC
  subst e
  rw [StateT.run_set]; exact wpAny_pure ⟨rfl, h⟩
theorem sC_modify' {f : SortSt → SortSt} {st st'' : SortSt} {Q : PUnit → SortSt → Prop} (e : f st = st'') (h : Q ⟨⟩ st'') : sC prog w A E s (modify f) Q st := by
  subst e; exact sC_modify h
theorem mono_rS {a : Array Nat} {key base m : Nat} (O : Ask n ask) (ha : ∀ i, at0 a i < n) (hk : key < n) (Sa : SrtS ask a base m) : ∀ i j, i < j → j < m → byd ask false key a base j = true → byd ask false key a base i = true := by
  intro i j h1 h2 h3
  unfold byd at h3 ⊢
  simp only [Bool.false_eq_true, if_false, Bool.not_eq_true'] at h3 ⊢
  exact O.trans _ _ _ (ha _) (ha _) hk (Sa _ _ (by (first | lia | omega)) (by (first | lia | omega)) (by (first | lia | omega))) h3
theorem mono_lS {a : Array Nat} {key base m : Nat} (O : Ask n ask) (ha : ∀ i, at0 a i < n) (hk : key < n) (Sa : SrtS ask a base m) : ∀ i j, i < j → j < m → byd ask true key a base j = true → byd ask true key a base i = true := by
  intro i j h1 h2 h3
  unfold byd at h3 ⊢
  simp only [if_true] at h3 ⊢
  exact O.le_lt (ha _) (ha _) hk (Sa _ _ (by (first | lia | omega)) (by (first | lia | omega)) (by (first | lia | omega))) h3
theorem at_ext {p : Array Nat} {i j k : Nat} (hj : j ≤ p.size) (hk : i + k < j) : at0 (p.extract i j) k = at0 p (i + k) := by
  rw [at0_eq, at0_eq, Array.getElem?_extract_of_lt (by (first | lia | omega)), Array.getElem?_eq_getElem (by (first | lia | omega))]
theorem ext_size {p : Array Nat} {i j : Nat} (hj : j ≤ p.size) : (p.extract i j).size = j - i := by
  rw [Array.size_extract]; (first | lia | omega)
theorem ext_small {p : Array Nat} {i j : Nat} (hp : Small n p) : Small n (p.extract i j) := by
  intro k
  by_cases h : k < (p.extract i j).size
  · rw [Array.size_extract] at h
    rw [at0_eq, Array.getElem?_extract_of_lt (by (first | lia | omega))]
    have := hp (i + k)
    rw [at0_eq, Array.getElem?_eq_getElem (by (first | lia | omega))] at this
    exact this
  · rw [at0_eq, Array.getElem?_eq_none (by (first | lia | omega))]
    have := hp p.size
    rw [at0_eq, Array.getElem?_eq_none (Nat.le_refl _)] at this
    exact this
theorem ext_map {p : Array Nat} {i j : Nat} : (p.map (kas_item it)).extract i j = (p.extract i j).map (kas_item it) := by
  apply Array.ext'
  simp
theorem ext_list {p : Array Nat} {i j : Nat} : (p.extract i j).toList = (p.toList.drop i).take (j - i) := by
  simp [List.extract_eq_take_drop]

/-- the two runs, what stands ahead and behind left as it is -/
theorem join_ok {p p₀ : Array Nat} {na nb k r : Nat} {o : List Nat} (O : Ask n ask) (hp : Small n p) (hP : p.Perm p₀) (hn : na + nb = p.size) (h1 : SrtS ask p 0 na) (h2 : SrtS ask p na nb) (hk : k < na) (hr : 0 < r) (hr2 : r ≤ nb)
    (hA : ∀ i, i < k → ask (at0 p na) (at0 p i) = false) (hB : ∀ i, r ≤ i → i < nb → ask (at0 p (na + i)) (at0 p (na - 1)) = false) (M : MgEnd ask (p.extract k na) (p.extract na (na + r)) o) :
    (layA p k o).Perm p₀ ∧ SrtS ask (layA p k o) 0 (na + nb) := by
  have hl : k + o.length = na + r := by
    have := M.1.length_eq
    have l1 : (p.extract k na).toList.length = na - k := ext_size (p := p) (i := k) (j := na) (by (first | lia | omega))
    have l2 : (p.extract na (na + r)).toList.length = na + r - na := ext_size (p := p) (i := na) (j := na + r) (by (first | lia | omega))
    rw [List.length_append, l1, l2] at this
    (first | lia | omega)
  have hmem : ∀ x ∈ o, (∃ i, k ≤ i ∧ i < na ∧ x = at0 p i) ∨ ∃ i, i < r ∧ x = at0 p (na + i) := by
    intro x hx
    have := M.1.mem_iff.mp hx
    rcases List.mem_append.mp this with h | h
    · obtain ⟨i, hi, e⟩ := mem_take_at (a := p.extract k na) (i := na - k) (by rw [List.take_of_length_le (by rw [Array.length_toList, ext_size (by (first | lia | omega))]; exact Nat.le_refl _)]; exact h)
      exact .inl ⟨k + i, by (first | lia | omega), by (first | lia | omega), by rw [e.2, at_ext (by (first | lia | omega)) (by (first | lia | omega))]⟩
    · obtain ⟨i, hi, e⟩ := mem_take_at (a := p.extract na (na + r)) (i := r) (by rw [List.take_of_length_le (by rw [Array.length_toList, ext_size (by (first | lia | omega))]; (first | lia | omega))]; exact h)
      exact .inr ⟨i, hi, by rw [e.2, at_ext (by (first | lia | omega)) (by (first | lia | omega))]⟩
  refine ⟨?_, ?_⟩
  · refine Array.Perm.trans ?_ hP
    rw [Array.perm_iff_toList_perm, layA_list (by (first | lia | omega))]
    have e1 := M.1
    rw [ext_list, ext_list, show na + r - na = r by (first | lia | omega)] at e1
    have e2 : p.toList = p.toList.take k ++ ((p.toList.drop k).take (na - k) ++ (p.toList.drop na).take r) ++ p.toList.drop (k + o.length) := by
      have c1 : (p.toList.drop k).take (na - k) ++ (p.toList.drop na).take r = (p.toList.drop k).take (na - k + r) := by
        rw [List.take_add, List.drop_drop, show k + (na - k) = na by (first | lia | omega)]
      have hl2 : o.length = na - k + r := by (first | lia | omega)
      rw [c1, hl2, ← List.drop_drop, List.append_assoc, List.take_append_drop, List.take_append_drop]
    conv => rhs; rw [e2]
    exact (List.Perm.append_left _ e1).append_right _
  · intro i j _ hij hj
    rw [at_layA (by (first | lia | omega)), at_layA (by (first | lia | omega))]
    have get : ∀ i, k ≤ i → i < k + o.length → (o[i - k]?).getD 0 ∈ o ∧ o[i - k]? = some ((o[i - k]?).getD 0) := by
      intro i c1 c2
      have : i - k < o.length := by (first | lia | omega)
      rw [List.getElem?_eq_getElem this]
      exact ⟨List.getElem_mem this, rfl⟩
    have hBle : ∀ i, r ≤ i → i < nb → ∀ x ∈ o, ask (at0 p (na + i)) x = false := by
      intro i c1 c2 x hx
      rcases hmem x hx with ⟨j, d1, d2, rfl⟩ | ⟨j, d1, rfl⟩
      · by_cases e : j = na - 1
        · rw [e]; exact hB i c1 c2
        · exact O.trans _ _ _ (hp _) (hp _) (hp _) (h1 j (na - 1) (by (first | lia | omega)) (by (first | lia | omega)) (by (first | lia | omega))) (hB i c1 c2)
      · exact h2 _ _ (by (first | lia | omega)) (by (first | lia | omega)) (by (first | lia | omega))
    by_cases c1 : k ≤ i
    · by_cases c2 : i < k + o.length
      · rw [if_pos (⟨c1, c2⟩ : k ≤ i ∧ i < k + o.length)]
        obtain ⟨g1, g2⟩ := get i c1 c2
        by_cases c3 : j < k + o.length
        · rw [if_pos (⟨by (first | lia | omega), c3⟩ : k ≤ j ∧ j < k + o.length)]
          obtain ⟨g3, g4⟩ := get j (by (first | lia | omega)) c3
          have := List.pairwise_iff_getElem.mp M.2 (i - k) (j - k) (by (first | lia | omega)) (by (first | lia | omega)) (by (first | lia | omega))
          rw [List.getElem?_eq_getElem (by (first | lia | omega)), List.getElem?_eq_getElem (by (first | lia | omega))]
          exact this
        · rw [if_neg (by (first | lia | omega))]
          have := hBle (j - na) (by (first | lia | omega)) (by (first | lia | omega)) _ g1
          rwa [show na + (j - na) = j by (first | lia | omega)] at this
      · rw [if_neg (by (first | lia | omega)), if_neg (by (first | lia | omega))]
        exact h2 _ _ (by (first | lia | omega)) (by (first | lia | omega)) (by (first | lia | omega))
    · rw [if_neg (by (first | lia | omega) : ¬ (k ≤ i ∧ i < k + o.length))]
      have hAle : ∀ x ∈ o, ask x (at0 p i) = false := by
        intro x hx
        rcases hmem x hx with ⟨j, d1, d2, rfl⟩ | ⟨j, d1, rfl⟩
        · exact h1 _ _ (by (first | lia | omega)) (by (first | lia | omega)) (by (first | lia | omega))
        · by_cases e : j = 0
          · rw [e]; exact hA i (by (first | lia | omega))
          · exact O.trans _ _ _ (hp _) (hp _) (hp _) (hA i (by (first | lia | omega))) (h2 na (na + j) (by (first | lia | omega)) (by (first | lia | omega)) (by (first | lia | omega)))
      by_cases c2 : j < k
      · rw [if_neg (by (first | lia | omega))]; exact h1 _ _ (by (first | lia | omega)) hij (by (first | lia | omega))
      · by_cases c3 : j < k + o.length
        · rw [if_pos ⟨by (first | lia | omega), c3⟩]
          exact hAle _ (get j (by (first | lia | omega)) c3).1
        · rw [if_neg (by (first | lia | omega))]
          by_cases e : j = na
          · (first | lia | omega)
          · exact O.trans _ _ _ (hp _) (hp _) (hp _) (hA i (by (first | lia | omega))) (h2 na j (by (first | lia | omega)) (by (first | lia | omega)) (by (first | lia | omega)))

theorem out_layA {p : Array Nat} {o : List Nat} {k : Nat} : (Out it o).toList.zipIdx.foldl (fun (a : Array Keyed) x => a.setIfInBounds (k + x.2) x.1) (p.map (kas_item it)) = (layA p k o).map (kas_item it) := by
  unfold Out layA
  rw [← layA_map (kas_item it) k o.zipIdx p]
  congr 1
  simp only [List.zipIdx_map]
  rfl

theorem mergeAt_ok {na nb pw : Nat} {p₀ p : Array Nat} {Q : Bool → SortSt → Prop} (H : AskAt prog w A s κ it n ask) (O : Ask n ask) (hp₀ : Small n p₀) (hP : p.Perm p₀) (hn : na + nb = p.size) (ha : 1 ≤ na) (hb : 1 ≤ nb) (h1 : SrtS ask p 0 na) (h2 : SrtS ask p na nb)
    (h : ∀ p' g', p'.Perm p₀ → SrtS ask p' 0 (na + nb) → Q true (St κ it p' #[(0, na + nb, pw)] g')) : sC prog w A E s (mergeAt' 0) Q (St κ it p #[(0, na, pw), (na, nb, 0)] g) := by
  have hp : Small n p := hp₀.perm hP
  refine sC_bind (sC_get ?_)
  have ee : ((#[(0, na, pw), (na, nb, 0)] : Array (Nat × Nat × Nat)).setIfInBounds 0 (0, na + nb, pw)).eraseIdxIfInBounds (0 + 1) = #[(0, na + nb, pw)] := by
    apply Array.ext'
    simp [Array.eraseIdxIfInBounds]
  refine sC_bind (sC_set (st'' := St κ it p #[(0, na + nb, pw)] g) (congrArg (fun x => St κ it p x g) ee) ?_)
  refine sC_bind (sC_elem (q := p) (i := na) (by (first | lia | omega)) ?_)
  refine sC_bind (gallop_ok (left := false) (p := p) (pd := #[(0, na + nb, pw)]) (key := at0 p na) (q := p) (base := 0) (m := na) (hint := 0) H (hp _) hp (by (first | lia | omega)) (by (first | lia | omega)) (mono_rS O hp (hp _) h1) ?_)
  intro k hk hT hN
  have hA : ∀ i, i < k → ask (at0 p na) (at0 p i) = false := fun i hi => by have := byd_r (hT i hi); rwa [Nat.zero_add] at this
  have hA2 : ∀ i, k ≤ i → i < na → ask (at0 p na) (at0 p i) = true := fun i hi hi2 => by have := byd_r (hN i hi hi2); rwa [Nat.zero_add] at this
  refine sC_ite (fun hc => ?_) (fun hc => ?_)
  · have hc : (na - k == 0) = true := hc
    have hk0 : na - k = 0 := eq_of_beq hc
    refine sC_pure (h p g hP fun i j _ hij hj => ?_)
    by_cases c1 : j < na
    · exact h1 i j (by (first | lia | omega)) hij (by (first | lia | omega))
    · by_cases c2 : na ≤ i
      · exact h2 i j c2 hij (by (first | lia | omega))
      · by_cases e : j = na
        · rw [e]; exact hA i (by (first | lia | omega))
        · exact O.trans _ _ _ (hp _) (hp _) (hp _) (hA i (by (first | lia | omega))) (h2 na j (by (first | lia | omega)) (by (first | lia | omega)) (by (first | lia | omega)))
  have hc : ¬ (na - k == 0) = true := hc
  have hk0 : k < na := by have := ne_of_beq hc; (first | lia | omega)
  have ei : 0 + k + (na - k) - 1 = na - 1 := by (first | lia | omega)
  refine sC_bind (sC_elem (q := p) (i := 0 + k + (na - k) - 1) (by (first | lia | omega)) ?_)
  rw [ei]
  clear ei
  refine sC_bind (gallop_ok (left := true) (p := p) (pd := #[(0, na + nb, pw)]) (key := at0 p (na - 1)) (q := p) (base := na) (m := nb) (hint := nb - 1) H (hp _) hp (by (first | lia | omega)) (by (first | lia | omega)) (mono_lS O hp (hp _) h2) ?_)
  intro r hr hT2 hN2
  have hB : ∀ i, i < r → ask (at0 p (na + i)) (at0 p (na - 1)) = true := fun i hi => byd_l (hT2 i hi)
  have hB2 : ∀ i, r ≤ i → i < nb → ask (at0 p (na + i)) (at0 p (na - 1)) = false := fun i hi hi2 => byd_l (hN2 i hi hi2)
  have hr0 : r ≠ 0 := fun e => by have := hB2 0 (by (first | lia | omega)) (by (first | lia | omega)); rw [Nat.add_zero, hA2 (na - 1) (by (first | lia | omega)) (by (first | lia | omega))] at this; cases this
  refine sC_ite (fun hc => ?_) (fun _ => ?_)
  · have hc : (r == 0) = true := hc
    exact absurd (eq_of_beq hc) hr0
  have hr0 : 0 < r := Nat.pos_of_ne_zero hr0
  have G : Good2 κ it p #[(0, na + nb, pw)] ask (p.extract k na) (p.extract na (na + r)) (fun m st => ∃ o g', m = Out it o ∧ st = St κ it p #[(0, na + nb, pw)] g' ∧ MgEnd ask (p.extract k na) (p.extract na (na + r)) o) := fun o g' M => ⟨o, g', rfl, rfl, M⟩
  have sx : (p.extract k na).size = na - k := ext_size (by (first | lia | omega))
  have sy : (p.extract na (na + r)).size = r := by rw [ext_size (by (first | lia | omega))]; (first | lia | omega)
  have Sx : SrtA ask (p.extract k na) := fun i j hij hj => by
    rw [sx] at hj
    rw [at_ext (by (first | lia | omega)) (by (first | lia | omega)), at_ext (by (first | lia | omega)) (by (first | lia | omega))]
    exact h1 _ _ (by (first | lia | omega)) (by (first | lia | omega)) (by (first | lia | omega))
  have Sy : SrtA ask (p.extract na (na + r)) := fun i j hij hj => by
    rw [sy] at hj
    rw [at_ext (by (first | lia | omega)) (by (first | lia | omega)), at_ext (by (first | lia | omega)) (by (first | lia | omega))]
    exact h2 _ _ (by (first | lia | omega)) (by (first | lia | omega)) (by (first | lia | omega))
  have fin : ∀ (m : Array Keyed) (st : SortSt), (∃ o g', m = Out it o ∧ st = St κ it p #[(0, na + nb, pw)] g' ∧ MgEnd ask (p.extract k na) (p.extract na (na + r)) o) →
      ∃ st'', setArr st (m.toList.zipIdx.foldl (fun (a : Array Keyed) x => a.setIfInBounds (0 + k + x.2) x.1) (arrOf st)) = st'' ∧ ∃ g' p', st'' = St κ it p' #[(0, na + nb, pw)] g' ∧ p'.Perm p₀ ∧ SrtS ask p' 0 (na + nb) := by
    rintro m st ⟨o, g', rfl, rfl, M⟩
    obtain ⟨j1, j2⟩ := join_ok O hp hP hn h1 h2 hk0 hr0 hr hA hB2 M
    refine ⟨_, ?_, g', _, rfl, j1, j2⟩
    show setArr (St κ it p #[(0, na + nb, pw)] g') ((Out it o).toList.zipIdx.foldl (fun (a : Array Keyed) x => a.setIfInBounds (0 + k + x.2) x.1) (p.map (kas_item it))) = St κ it (layA p k o) #[(0, na + nb, pw)] g'
    rw [Nat.zero_add, out_layA]; rfl
  have e1 : ((p.map (kas_item it)).extract (0 + k) na) = (p.extract k na).map (kas_item it) := by rw [Nat.zero_add, ext_map]
  have e2 : ((p.map (kas_item it)).extract na (na + r)) = (p.extract na (na + r)).map (kas_item it) := ext_map
  have lo_ok : sC prog w A E s (mergeLo' ((p.map (kas_item it)).extract (0 + k) na) ((p.map (kas_item it)).extract na (na + r))) (fun m st => ∃ o g', m = Out it o ∧ st = St κ it p #[(0, na + nb, pw)] g' ∧ MgEnd ask (p.extract k na) (p.extract na (na + r)) o) (St κ it p #[(0, na + nb, pw)] g) := by
    rw [e1, e2]
    refine mergeLo_ok H O (ext_small hp) (ext_small hp) Sx Sy (by rw [sx]; (first | lia | omega)) (by rw [sy]; exact hr0) ?_ ?_ G
    · rw [at_ext (by (first | lia | omega)) (by (first | lia | omega)), at_ext (by (first | lia | omega)) (by (first | lia | omega))]
      exact hA2 _ (by (first | lia | omega)) (by (first | lia | omega))
    · intro i hi
      rw [sx, at_ext (by (first | lia | omega)) (by (first | lia | omega)), at_ext (by (first | lia | omega)) (by (first | lia | omega)), show k + (na - k - 1) = na - 1 by (first | lia | omega)]
      exact hB i (by (first | lia | omega))
  have hi_ok : sC prog w A E s (mergeHi' ((p.map (kas_item it)).extract (0 + k) na) ((p.map (kas_item it)).extract na (na + r))) (fun m st => ∃ o g', m = Out it o ∧ st = St κ it p #[(0, na + nb, pw)] g' ∧ MgEnd ask (p.extract k na) (p.extract na (na + r)) o) (St κ it p #[(0, na + nb, pw)] g) := by
    rw [e1, e2]
    refine mergeHi_ok H O (ext_small hp) (ext_small hp) Sx Sy (by rw [sx]; (first | lia | omega)) (by rw [sy]; exact hr0) ?_ ?_ G
    · intro i hi
      rw [at_ext (by (first | lia | omega)) (by (first | lia | omega)), at_ext (by (first | lia | omega)) (by (first | lia | omega))]
      exact hA2 _ (by (first | lia | omega)) (by (first | lia | omega))
    · rw [sx, sy, at_ext (by (first | lia | omega)) (by (first | lia | omega)), at_ext (by (first | lia | omega)) (by (first | lia | omega)), show k + (na - k - 1) = na - 1 by (first | lia | omega)]
      exact hB _ (by (first | lia | omega))
  refine sC_ite (fun _ => ?_) (fun _ => ?_)
  · refine sC_bind (sC_mono lo_ok fun m st hm => ?_)
    obtain ⟨st'', e, g', p', rfl, q1, q2⟩ := fin m st hm
    exact sC_bind (sC_modify' e (sC_bind (sC_get (sC_pure (h p' g' q1 q2)))))
  · refine sC_bind (sC_mono hi_ok fun m st hm => ?_)
    obtain ⟨st'', e, g', p', rfl, q1, q2⟩ := fin m st hm
    exact sC_bind (sC_modify' e (sC_bind (sC_get (sC_pure (h p' g' q1 q2)))))
end
end

/-! part S14 -/
set_option autoImplicit false
set_option maxRecDepth 100000
set_option linter.unusedVariables false
open PySem PySem.W PyProof.Rows
section
section
variable {prog : Program} {w : World} {A : Around} {E : Value → Shared → Prop} {s : Shared} {κ : SortKind} {it : Array Keyed} {n : Nat} {ask : Nat → Nat → Bool} {g : Nat}
theorem minRun_small {N : Nat} (h0 : 1 ≤ N) (h1 : N < 64) : minRun' N N 0 = N := by
  obtain ⟨f, rfl⟩ : ∃ f, N = f + 1 := ⟨N - 1, by (first | lia | omega)⟩
  rw [minRun'_succ, if_pos h1]
theorem minRun_eq {N : Nat} (h1 : 64 ≤ N) (h2 : N < 128) : minRun' N N 0 = N / 2 + N % 2 := by
  obtain ⟨f, rfl⟩ : ∃ f, N = f + 1 + 1 := ⟨N - 2, by (first | lia | omega)⟩
  have e1 : minRun' (f + 1 + 1) (f + 1 + 1) 0 = minRun' (f + 1) ((f + 1 + 1) / 2) (max 0 ((f + 1 + 1) % 2)) := by
    rw [minRun'_succ, if_neg (by (first | lia | omega))]
  rw [e1, minRun'_succ, if_pos (by (first | lia | omega))]
  (first | lia | omega)
/-- one run is there; two runs are there; all is one run -/
noncomputable def R1 (κ : SortKind) (it : Array Keyed) (ask : Nat → Nat → Bool) (p₀ : Array Nat) (g n1 : Nat) (st : SortSt) : Prop := ∃ p, st = St κ it p #[(0, n1, 0)] g ∧ p.Perm p₀ ∧ SrtS ask p 0 n1
noncomputable def R2 (κ : SortKind) (it : Array Keyed) (ask : Nat → Nat → Bool) (p₀ : Array Nat) (g N : Nat) (st : SortSt) : Prop := ∃ p n1 n2 pw, st = St κ it p #[(0, n1, pw), (n1, n2, 0)] g ∧ p.Perm p₀ ∧ SrtS ask p 0 n1 ∧ SrtS ask p n1 n2 ∧ n1 + n2 = N ∧ 1 ≤ n1 ∧ 1 ≤ n2
noncomputable def R3 (κ : SortKind) (it : Array Keyed) (ask : Nat → Nat → Bool) (p₀ : Array Nat) (N : Nat) (st : SortSt) : Prop := ∃ p m g, st = St κ it p #[m] g ∧ p.Perm p₀ ∧ SrtS ask p 0 N
theorem runs_for {N M : Nat} {p₀ : Array Nat} {f : Nat → Option Unit × Nat → StateT SortSt Sem (ForInStep (Option Unit × Nat))} {Q : Option Unit × Nat → SortSt → Prop} (h2 : 2 ≤ N)
    (s0 : sC prog w A E s (f 0 (none, 0)) (fun r st => ∃ n1, r = .yield (none, n1) ∧ M ≤ n1 ∧ n1 ≤ N ∧ R1 κ it ask p₀ g n1 st) (St κ it p₀ #[] g))
    (s1 : ∀ n1 p, M ≤ n1 → n1 ≤ N → p.Perm p₀ → SrtS ask p 0 n1 → sC prog w A E s (f 1 (none, n1)) (fun r st => (r = .done (none, N) ∧ R1 κ it ask p₀ g N st) ∨ (r = .yield (none, N) ∧ R2 κ it ask p₀ g N st)) (St κ it p #[(0, n1, 0)] g))
    (s2 : ∀ st, sC prog w A E s (f 2 (none, N)) (fun r st' => r = .done (none, N) ∧ st' = st) st) (h : ∀ st, R1 κ it ask p₀ g N st ∨ R2 κ it ask p₀ g N st → Q (none, N) st) : sC prog w A E s (forIn [:N] (none, 0) f) Q (St κ it p₀ #[] g) := by
  refine sC_for (fun j b st => (j = 0 ∧ b = (none, 0) ∧ st = St κ it p₀ #[] g) ∨ (j = 1 ∧ ∃ n1, b = (none, n1) ∧ M ≤ n1 ∧ n1 ≤ N ∧ R1 κ it ask p₀ g n1 st) ∨ (j = 2 ∧ b = (none, N) ∧ R2 κ it ask p₀ g N st)) (.inl ⟨rfl, rfl, rfl⟩) ?_ ?_
  · rintro j b st _ hj (⟨rfl, rfl, rfl⟩ | ⟨rfl, n1, rfl, a1, a2, p, rfl, hP, hS⟩ | ⟨rfl, rfl, hr⟩)
    · refine sC_mono s0 ?_
      rintro r st ⟨n1, rfl, a1, a2, a3⟩
      exact .inr (.inl ⟨rfl, n1, rfl, a1, a2, a3⟩)
    · refine sC_mono (s1 n1 p a1 a2 hP hS) ?_
      rintro r st (⟨rfl, hr⟩ | ⟨rfl, hr⟩)
      · exact h st (.inl hr)
      · exact .inr (.inr ⟨rfl, rfl, hr⟩)
    · refine sC_mono (s2 st) ?_
      rintro r st' ⟨rfl, rfl⟩
      exact h _ (.inr hr)
  · rintro b st (⟨hj, _⟩ | ⟨hj, _⟩ | ⟨hj, rfl, hr⟩)
    · (first | lia | omega)
    · (first | lia | omega)
    · exact h st (.inr hr)
theorem merge_for {N : Nat} {p₀ : Array Nat} {f : Nat → Option Unit × Unit → StateT SortSt Sem (ForInStep (Option Unit × Unit))} {Q : Option Unit × Unit → SortSt → Prop} {st₀ : SortSt} (h2 : 2 ≤ N) (h0 : R1 κ it ask p₀ g N st₀ ∨ R2 κ it ask p₀ g N st₀)
    (s1 : ∀ j p m g, sC prog w A E s (f j (none, ())) (fun r st => r = .done (none, ()) ∧ st = St κ it p #[m] g) (St κ it p #[m] g))
    (s0 : ∀ p n1 n2 pw, p.Perm p₀ → SrtS ask p 0 n1 → SrtS ask p n1 n2 → n1 + n2 = N → 1 ≤ n1 → 1 ≤ n2 → sC prog w A E s (f 0 (none, ())) (fun r st => r = .yield (none, ()) ∧ R3 κ it ask p₀ N st) (St κ it p #[(0, n1, pw), (n1, n2, 0)] g))
    (h : ∀ st, R3 κ it ask p₀ N st → Q (none, ()) st) : sC prog w A E s (forIn [:N] (none, ()) f) Q st₀ := by
  refine sC_for (fun j b st => b = (none, ()) ∧ (R3 κ it ask p₀ N st ∨ (j = 0 ∧ R2 κ it ask p₀ g N st))) ⟨rfl, ?_⟩ ?_ ?_
  · rcases h0 with ⟨p, e, q1, q2⟩ | hb
    · exact .inl ⟨p, _, g, e, q1, q2⟩
    · exact .inr ⟨rfl, hb⟩
  · rintro j b st _ hj ⟨rfl, ⟨p, m, g, rfl, hP, hS⟩ | ⟨rfl, p, n1, n2, pw, rfl, hP, hS1, hS2, e, c1, c2⟩⟩
    · refine sC_mono (s1 j p m g) ?_
      rintro r st ⟨rfl, rfl⟩
      exact h _ ⟨p, m, g, rfl, hP, hS⟩
    · refine sC_mono (s0 p n1 n2 pw hP hS1 hS2 e c1 c2) ?_
      rintro r st ⟨rfl, h3⟩
      exact ⟨rfl, .inl h3⟩
  · rintro b st ⟨rfl, h3 | ⟨hj, _⟩⟩
    · exact h st h3
    · (first | lia | omega)
theorem R2.of {N n1 : Nat} {p₀ p q : Array Nat} {pw : Nat} (hP : p.Perm p₀) (hS : SrtS ask p 0 n1) (hG : Seg p q n1 (n1 + (N - n1))) (hS2 : SrtS ask q n1 (N - n1)) (h1 : 1 ≤ n1) (h2 : n1 < N) : R2 κ it ask p₀ g N (St κ it q #[(0, n1, pw), (n1, N - n1, 0)] g) :=
  ⟨q, n1, N - n1, pw, rfl, hG.perm.trans hP, fun i j c1 c2 c3 => by rw [hG.out i (by (first | lia | omega)), hG.out j (by (first | lia | omega))]; exact hS i j c1 c2 c3, hS2, by (first | lia | omega), h1, by (first | lia | omega)⟩

theorem sortRuns_ok {N : Nat} {p₀ : Array Nat} {Q : Unit → SortSt → Prop} (H : AskAt prog w A s κ it n ask) (O : Ask n ask) (hp₀ : Small n p₀) (hN : p₀.size = N) (h2 : 2 ≤ N) (h128 : N < 128)
    (h : ∀ p' pd g, p'.Perm p₀ → SrtS ask p' 0 N → Q () (St κ it p' pd g)) : sC prog w A E s sortRuns' Q (St κ it p₀ #[] g) := by
  have hsz : (arrOf (St κ it p₀ #[] g)).size = N := by show (p₀.map (kas_item it)).size = N; rw [Array.size_map, hN]
  have hM : N ≤ 2 * minRun' N N 0 ∧ minRun' N N 0 ≤ N := by
    by_cases h64 : N < 64
    · rw [minRun_small (by (first | lia | omega)) h64]; (first | lia | omega)
    · rw [minRun_eq (by (first | lia | omega)) h128]; (first | lia | omega)
  have hM1 := hM.1
  have hM2 := hM.2
  refine sC_bind (sC_get ?_)
  rw [hsz]
  refine sC_bind (runs_for (M := minRun' N N 0) (ask := ask) h2 ?_ ?_ ?_ ?_)
  · refine sC_ite (fun hc => ?_) (fun _ => ?_)
    · have hc : (0 : Nat) ≥ N := hc
      (first | lia | omega)
    refine sC_bind (countRun_ok (p₀ := p₀) (lo := 0) (nrem := N - 0) H O hp₀ (by (first | lia | omega)) (by (first | lia | omega)) ?_)
    intro m p b1 b2 hG hS
    refine sC_ite (fun hc => ?_) (fun hc => ?_)
    · have hc : m < (minRun' N N 0) := hc
      refine sC_rule ?_
      refine sC_bind (binarySort_ok (p₀ := p) (lo := 0) (m := min (N - 0) (minRun' N N 0)) H O (hp₀.perm hG.perm) (by rw [hG.size]; (first | lia | omega)) b1 (by (first | lia | omega)) (Seg.refl ..) hS ?_)
      intro p' hG' hS'
      refine sC_ite (fun hc => by cases hc) (fun _ => ?_)
      refine sC_bind (sC_get ?_)
      refine sC_bind (sC_modify' (st'' := St κ it p' #[(0, min (N - 0) (minRun' N N 0), 0)] g) rfl ?_)
      exact sC_pure ⟨min (N - 0) (minRun' N N 0), congrArg (fun x => ForInStep.yield (none, x)) (Nat.zero_add _), by (first | lia | omega), by (first | lia | omega), p', rfl, hG'.perm.trans hG.perm, hS'⟩
    · have hc : ¬ m < (minRun' N N 0) := hc
      refine sC_bind (sC_get ?_)
      refine sC_bind (sC_modify' (st'' := St κ it p #[(0, m, 0)] g) rfl ?_)
      exact sC_pure ⟨m, congrArg (fun x => ForInStep.yield (none, x)) (Nat.zero_add _), by (first | lia | omega), by (first | lia | omega), p, rfl, hG.perm, hS⟩
  · intro n1 p a1 a2 hP hS
    refine sC_ite (fun hc => ?_) (fun hc => ?_)
    · have hc : n1 ≥ N := hc
      have e : n1 = N := by (first | lia | omega)
      exact sC_pure (.inl ⟨congrArg (fun x => ForInStep.done (none, x)) e, p, by rw [e], hP, e ▸ hS⟩)
    have hc : ¬ n1 ≥ N := hc
    have hp : Small n p := hp₀.perm hP
    have hz := hP.size_eq
    have hN1 : n1 + (N - n1) = N := by (first | lia | omega)
    refine sC_bind (countRun_ok (p₀ := p) (lo := n1) (nrem := N - n1) H O hp (by (first | lia | omega)) (by (first | lia | omega)) ?_)
    intro m p1 b1 b2 hG hS1
    have fin : ∀ (q : Array Nat) (f : Nat → Option Unit × Unit → StateT SortSt Sem (ForInStep (Option Unit × Unit))) (α : Type) (K : Option Unit × Unit → StateT SortSt Sem α) (Q2 : α → SortSt → Prop),
        (∀ j Q', Q' (.done (none, ())) (St κ it q #[(0, n1, 0)] g) → sC prog w A E s (f j (none, ())) Q' (St κ it q #[(0, n1, 0)] g)) → sC prog w A E s (K (none, ())) Q2 (St κ it q #[(0, n1, 0)] g) →
        sC prog w A E s (forIn [:N] (none, ()) f >>= K) Q2 (St κ it q #[(0, n1, 0)] g) := by
      intro q f α K Q2 hf hK
      refine sC_bind (sC_for (fun _ b st => b = (none, ()) ∧ st = St κ it q #[(0, n1, 0)] g) ⟨rfl, rfl⟩ ?_ ?_)
      · rintro j b st _ _ ⟨rfl, rfl⟩
        exact hf j _ hK
      · rintro b st ⟨rfl, rfl⟩
        exact hK
    refine sC_ite (fun hc => ?_) (fun hc => ?_)
    · have hc : m < (minRun' N N 0) := hc
      refine sC_rule ?_
      have ef : min (N - n1) (minRun' N N 0) = N - n1 := by (first | lia | omega)
      refine sC_bind (binarySort_ok (p₀ := p1) (lo := n1) (m := min (N - n1) (minRun' N N 0)) H O (hp.perm hG.perm) (by rw [hG.size]; (first | lia | omega)) b1 (by (first | lia | omega)) (Seg.refl ..) hS1 ?_)
      intro p' hG' hS'
      rw [ef] at hG' hS'
      refine sC_ite (fun hc => by cases hc) (fun _ => ?_)
      refine sC_bind (sC_get ?_)
      refine fin p' _ _ _ _ (fun _ _ q => sC_bind (sC_get (sC_pure q))) ?_
      refine sC_bind (sC_modify' (st'' := St κ it p' #[(0, n1, _)] g) rfl ?_)
      refine sC_bind (sC_modify' (st'' := St κ it p' #[(0, n1, _), (n1, min (N - n1) (minRun' N N 0), 0)] g) rfl ?_)
      refine sC_pure (.inr ⟨congrArg (fun x => ForInStep.yield (none, x)) (show n1 + min (N - n1) (minRun' N N 0) = N by rw [ef, hN1]), ?_⟩)
      rw [ef]
      exact R2.of hP hS (hG.trans hG') hS' (by (first | lia | omega)) (by (first | lia | omega))
    · have hc : ¬ m < (minRun' N N 0) := hc
      have em : m = N - n1 := by (first | lia | omega)
      refine sC_bind (sC_get ?_)
      refine fin p1 _ _ _ _ (fun _ _ q => sC_bind (sC_get (sC_pure q))) ?_
      refine sC_bind (sC_modify' (st'' := St κ it p1 #[(0, n1, _)] g) rfl ?_)
      refine sC_bind (sC_modify' (st'' := St κ it p1 #[(0, n1, _), (n1, m, 0)] g) rfl ?_)
      refine sC_pure (.inr ⟨congrArg (fun x => ForInStep.yield (none, x)) (show n1 + m = N by (first | lia | omega)), ?_⟩)
      rw [em] at hS1 ⊢
      exact R2.of hP hS hG hS1 (by (first | lia | omega)) (by (first | lia | omega))
  · intro st
    refine sC_ite (fun hc => sC_pure ⟨rfl, rfl⟩) (fun hc => ?_)
    have hc : ¬ N ≥ N := hc
    (first | lia | omega)
  · intro st hst
    refine sC_bind (merge_for (ask := ask) h2 hst ?_ ?_ ?_)
    · intro j p m g
      refine sC_bind (sC_get ?_)
      refine sC_ite (fun _ => sC_pure ⟨rfl, rfl⟩) (fun hc => ?_)
      exact absurd (Nat.le_refl 1) hc
    · intro p n1 n2 pw hP hS1 hS2 e c1 c2
      refine sC_bind (sC_get ?_)
      refine sC_ite (fun hc => ?_) (fun _ => ?_)
      · have hc : (2 : Nat) ≤ 1 := hc
        (first | lia | omega)
      refine sC_bind (mergeAt_ok (p₀ := p₀) H O hp₀ hP (by rw [hP.size_eq]; (first | lia | omega)) c1 c2 hS1 hS2 ?_)
      intro p' g' q1 q2
      refine sC_ite (fun hc => by cases hc) (fun _ => ?_)
      exact sC_pure ⟨rfl, p', _, g', rfl, q1, e ▸ q2⟩
    · rintro st ⟨p, m, g, rfl, hP, hS⟩
      exact sC_pure (h p _ g hP hS)
end
end

/-! part S15 -/
set_option autoImplicit false
set_option maxRecDepth 100000
set_option linter.unusedVariables false
open PySem PySem.W PyProof.Rows
section
section
variable {prog : Program} {w : World} {A : Around} {E : Value → Shared → Prop} {s : Shared}
noncomputable def outP (vs : List Value) (p : List Nat) : List Value := p.map fun i => vs.getD i Value.none
theorem small_range (n : Nat) (h : 0 < n) : Small n (List.toArray (List.range n)) := by
  intro k
  rw [at0_eq]
  by_cases hk : k < n <;> simp [hk] <;> (first | lia | omega)
theorem srt_list {ask : Nat → Nat → Bool} {p : Array Nat} (h : SrtS ask p 0 p.size) : p.toList.Pairwise (LeA ask) := by
  rw [List.pairwise_iff_getElem]
  intro i j hi hj hij
  have hi' : i < p.size := hi
  have hj' : j < p.size := hj
  have := h i j (by (first | lia | omega)) hij (by (first | lia | omega))
  rw [at0_eq, at0_eq] at this
  show ask p.toList[j] p.toList[i] = false
  simpa [hi', hj'] using this
theorem sort_N {a : Addr} {vs : List Value} {n : Nat} {κ : SortKind} {ask : Nat → Nat → Bool} {P : PySem.Fin → Shared → Prop} (ho : s.heap.get? a = some (seqObj "list" vs.toArray n)) (h2 : 2 ≤ vs.length) (h128 : vs.length < 128)
    (hκ : ∀ Q : SortKind → Shared → Prop, Q κ { s with heap := midHeap s.heap a vs } → wpAny (model prog w) A (keyKind' vs.toArray) Q E { s with heap := midHeap s.heap a vs })
    (hA : Ask vs.length ask) (hcmp : ∀ i j (C : Bool → Shared → Prop), i < vs.length → j < vs.length → C (ask i j) { s with heap := midHeap s.heap a vs } → kas_ask prog w A κ vs i j C { s with heap := midHeap s.heap a vs })
    (h : ∀ p : List Nat, p.Perm (List.range vs.length) → p.Pairwise (LeA ask) → P (.done (.ret .none)) { s with heap := sortedHeap s.heap a vs (outP vs p).toArray }) :
    wpAny (model prog w) A (Builtin.«list.sort» ⟨[.ref a], []⟩) P E s := by
  rw [list_sort_plain]
  have ha : a < s.heap.objs.size := Heap.lt_size ho
  refine wpAny_bind (listItems_at ho rfl ?_)
  refine wpAny_bind (listUpdate_at ho rfl ?_ (by rw [List.size_toArray, sizeLine_eq]; (first | lia | omega)) (Nat.zero_le _))
  obtain ⟨e1, ho1⟩ : ∃ e1, (s.heap.update a (Obj.mapSeq fun _ => (#[] : Array Value))).get? a = some (seqObj "list" #[] e1) := ⟨_, get?_update_seq ho (fun _ => #[])⟩
  refine wpAny_bind (seqEpoch_at ho1 rfl ?_)
  refine wpAny_bind (wpAny_newTuple ?_ (by show vs.length ≤ _; rw [sizeLine_eq]; (first | lia | omega)))
  refine wpAny_bind (wpAny_newList ?_ (Nat.zero_le _))
  refine wpAny_holding ?_
  have ho6 : (midHeap s.heap a vs).get? a = some (seqObj "list" #[] e1) := by
    unfold midHeap
    rw [Heap.get?_push_ne _ _ _ (by rw [size_push', Heap.size_update]; exact Nat.ne_of_lt (Nat.lt_succ_of_lt ha)), Heap.get?_push_ne _ _ _ (by rw [Heap.size_update]; exact Nat.ne_of_lt ha)]
    exact ho1
  show wpAny (model prog w) A _ P E { s with heap := midHeap s.heap a vs }
  dsimp only
  have hn2 : ¬ vs.toArray.size < 2 := by rw [List.size_toArray]; (first | lia | omega)
  rw [if_neg hn2, if_neg hn2]
  refine wpAny_bind (hκ _ ?_)
  have est : SortSt.mk' κ (vs.toArray.zip vs.toArray) #[] 7 none = St κ (pairsOf vs) (List.toArray (List.range vs.length)) #[] 7 := by
    have e := kas_range (pairsOf vs)
    rw [pairsOf_size] at e
    show SortSt.mk' κ (pairsOf vs) #[] 7 none = SortSt.mk' κ ((List.toArray (List.range vs.length)).map (kas_item (pairsOf vs))) #[] 7 none
    rw [e]
  have hsr : (List.toArray (List.range vs.length)).size = vs.length := by simp
  have hAsk : AskAt prog w A { s with heap := midHeap s.heap a vs } κ (pairsOf vs) vs.length ask := fun i j hi hj C hC => by have := hcmp i j C hi hj hC; rw [kas_ask_eq] at this; exact this
  have run : sC prog w A E { s with heap := midHeap s.heap a vs } sortRuns' (fun _ st' => ∃ p : Array Nat, p.toList.Perm (List.range vs.length) ∧ p.toList.Pairwise (LeA ask) ∧ arrOf st' = p.map (kas_item (pairsOf vs)) ∧ failedOf st' = none) (St κ (pairsOf vs) (List.toArray (List.range vs.length)) #[] 7) :=
    sortRuns_ok hAsk hA (small_range _ (by (first | lia | omega))) hsr h2 h128 fun p' pd g q1 q2 => ⟨p', by simpa using Array.perm_iff_toList_perm.mp q1, srt_list (by rw [q1.size_eq, hsr]; exact q2), rfl, rfl⟩
  rw [← est] at run
  refine wpAny_bind (wpAny_mono run ?_ fun _ _ e => e)
  rintro ⟨⟨⟩, st'⟩ s' ⟨rfl, p, hp, hq, har, hf⟩
  dsimp only
  have hout : (arrOf st').map (·.2) = (outP vs p.toList).toArray := by
    apply Array.toList_inj.mp
    rw [har, Array.map_map, Array.toList_map]
    exact List.map_congr_left fun i _ => by show (kas_item (pairsOf vs) i).2 = _; rw [kas_item_eq]
  rw [hout]
  have hsz : (outP vs p.toList).toArray.size = vs.length := by rw [List.size_toArray]; unfold outP; rw [List.length_map, hp.length_eq, List.length_range]
  refine wpAny_bind (seqEpoch_at ho6 rfl ?_)
  refine wpAny_bind (listUpdate_at ho6 rfl ?_ (Nat.zero_le _) (by rw [hsz, sizeLine_eq]; (first | lia | omega)))
  rw [hf]
  simp only [bne_self_eq_false, Bool.false_eq_true, if_false]
  exact wpAny_pure (h p.toList hp hq)

theorem sorted_N {l : Addr} {vs : List Value} {κ : SortKind} {ask : Nat → Nat → Bool} {Q : Value → Shared → Prop} (hl : s.heap.IsList l vs.toArray) (h2 : 2 ≤ vs.length) (h128 : vs.length < 128)
    (hκ : ∀ A' E' (Q : SortKind → Shared → Prop), Q κ { s with heap := midHeap (colHeap s.heap vs) (s.heap.objs.size + 1) vs } → wpAny (model prog w) A' (keyKind' vs.toArray) Q E' { s with heap := midHeap (colHeap s.heap vs) (s.heap.objs.size + 1) vs })
    (hA : Ask vs.length ask) (hcmp : ∀ A' i j (C : Bool → Shared → Prop), i < vs.length → j < vs.length → C (ask i j) { s with heap := midHeap (colHeap s.heap vs) (s.heap.objs.size + 1) vs } → kas_ask prog w A' κ vs i j C { s with heap := midHeap (colHeap s.heap vs) (s.heap.objs.size + 1) vs })
    (h : ∀ p : List Nat, p.Perm (List.range vs.length) → p.Pairwise (LeA ask) → Q (.ref (s.heap.objs.size + 1)) { s with heap := sortedAll s.heap vs (outP vs p).toArray }) :
    wpAny (model prog w) A (call (.builtin "sorted") [.ref l]) Q E s := by
  refine Calls.call_function_entry kind_sorted plain_sorted entry_sorted (args_sorted1 _) ?_
  unfold Builtin.«sorted»
  refine wpAny_bind (m := checkCount "sorted" 1 1 _) (wpAny_pure ?_)
  refine wpAny_bind (collect_list hl ?_ (by rw [sizeLine_eq]; (first | lia | omega)))
  refine wpAny_bind (wpAny_newList ?_ (by rw [sizeLine_eq]; (first | lia | omega)))
  have hsz : ((s.heap.push (seqObj "list" #[] 0)).update s.heap.objs.size (Obj.mapSeq (· ++ vs.toArray))).objs.size = s.heap.objs.size + 1 := by
    rw [Heap.size_update, size_push']
  have hoL : (colHeap s.heap vs).get? (s.heap.objs.size + 1) = some (seqObj "list" vs.toArray 0) := by
    unfold colHeap
    rw [← hsz]; exact Heap.get?_push_size _ rfl
  show wpAny _ _ _ _ _ { s with heap := colHeap s.heap vs }
  rw [hsz]
  refine wpAny_bind (wpAny_holding (wpAny_call_entry slot_list_sort ⟨_, hoL, rfl⟩ entry_list_sort (sort_N (s := { s with heap := colHeap s.heap vs }) hoL h2 h128 (hκ _ _) hA (hcmp _) fun p q1 q2 => ⟨_, rfl, ?_⟩) (args_list_sort _)))
  exact wpAny_pure ⟨_, rfl, h p q1 q2⟩
end
end

/-! part S16 -/
set_option autoImplicit false
set_option maxRecDepth 100000
set_option linter.unusedVariables false
open PySem PySem.W PyProof.Rows
section
variable {K : Glo} {F : Frm}

/-! ### sorted and sort of ints, of strings, of tuples of ints -/
noncomputable def enc : V → List Int
  | .int a => [0, a]
  | .str x => 1 :: x.cps.toList.map fun n : Nat => (n : Int)
  | .tup vs => match intsOf vs with
    | some ns => 2 :: ns
    | none => [3]
  | _ => [3]
noncomputable def ltK (a b : V) : Bool := lexB (enc a) (enc b)
noncomputable def strsOf : List V → Option (List Str)
  | [] => some []
  | .str x :: vs => (strsOf vs).map (x :: ·)
  | _ :: _ => none
noncomputable def okK (us : List V) : Bool := (intsOf us).isSome || (strsOf us).isSome || (tupsOf us).isSome
noncomputable def sortK (us : List V) : List V := us.mergeSort fun a b => !ltK b a

theorem ltK_asymm {a b : V} (h : ltK a b = true) : ltK b a = false := lexB_asymm _ _ h
theorem ltK_trans {a b c : V} (h1 : ltK b a = false) (h2 : ltK c b = false) : ltK c a = false := lexB_trans _ _ _ h1 h2
theorem sortK_perm (us : List V) : (sortK us).Perm us := List.mergeSort_perm _ _
theorem sortK_sorted (us : List V) : (sortK us).Pairwise fun a b => ltK b a = false := by
  have := List.pairwise_mergeSort (le := fun a b : V => !ltK b a) (by
    intro a b c h1 h2
    simp only [Bool.not_eq_true'] at h1 h2 ⊢
    exact ltK_trans h1 h2) (by
    intro a b
    cases h : ltK b a with
    | false => simp
    | true => rw [ltK_asymm h]; simp) us
  exact this.imp fun h => by simpa using h
theorem intsOf_all : ∀ {us : List V} {ns : List Int}, intsOf us = some ns → us = ns.map .int
  | [], ns, e => by cases e; rfl
  | .int i :: us, ns, e => by
    unfold intsOf at e
    cases h : intsOf us with
    | none => rw [h] at e; cases e
    | some n' => rw [h] at e; cases e; rw [List.map_cons, ← intsOf_all h]
  | .none :: _, _, e => by cases e
  | .bool _ :: _, _, e => by cases e
  | .str _ :: _, _, e => by cases e
  | .tup _ :: _, _, e => by cases e
  | .obj _ :: _, _, e => by cases e
  | .fn _ :: _, _, e => by cases e
  | .rng _ _ _ :: _, _, e => by cases e
theorem intsOf_mapK : ∀ ns : List Int, intsOf (ns.map .int) = some ns
  | [] => rfl
  | n :: ns => by rw [List.map_cons]; unfold intsOf; rw [intsOf_mapK ns]; rfl
theorem strsOf_all : ∀ {us : List V} {ns : List Str}, strsOf us = some ns → us = ns.map .str
  | [], ns, e => by cases e; rfl
  | .str i :: us, ns, e => by
    unfold strsOf at e
    cases h : strsOf us with
    | none => rw [h] at e; cases e
    | some n' => rw [h] at e; cases e; rw [List.map_cons, ← strsOf_all h]
  | .none :: _, _, e => by cases e
  | .bool _ :: _, _, e => by cases e
  | .int _ :: _, _, e => by cases e
  | .tup _ :: _, _, e => by cases e
  | .obj _ :: _, _, e => by cases e
  | .fn _ :: _, _, e => by cases e
  | .rng _ _ _ :: _, _, e => by cases e
theorem tupsOf_all : ∀ {us : List V} {ts : List (List Int)}, tupsOf us = some ts → us = ts.map (fun t => .tup (t.map .int)) ∧ [] ∉ ts
  | [], ts, e => by cases e; exact ⟨rfl, by simp⟩
  | v :: us, ts, e => by
    obtain ⟨t, ts', e1, e2, rfl⟩ := mapO_cons e
    obtain ⟨vs, rfl, e3, hne⟩ := tupInts_is e1
    obtain ⟨h1, h2⟩ := tupsOf_all e2
    refine ⟨by rw [List.map_cons, ← h1, intsOf_all e3], ?_⟩
    intro hm
    rcases List.mem_cons.mp hm with h | h
    · exact hne h.symm
    · exact h2 h
theorem map_inj_nat : ∀ {a b : List Nat}, a.map (fun n : Nat => (n : Int)) = b.map (fun n : Nat => (n : Int)) → a = b
  | [], [], _ => rfl
  | [], _ :: _, h => by simp at h
  | _ :: _, [], h => by simp at h
  | x :: a, y :: b, h => by
    simp only [List.map_cons, List.cons.injEq] at h
    rw [map_inj_nat h.2, Int.ofNat.inj h.1]
theorem ltK_total {us : List V} (ok : okK us = true) {a b : V} (ha : a ∈ us) (hb : b ∈ us) (h1 : ltK a b = false) (h2 : ltK b a = false) : a = b := by
  have e := lexB_total _ _ h1 h2
  unfold okK at ok
  rw [Bool.or_eq_true, Bool.or_eq_true] at ok
  rcases ok with (ok | ok) | ok
  · obtain ⟨ns, h⟩ := Option.isSome_iff_exists.mp ok
    rw [intsOf_all h] at ha hb
    obtain ⟨x, _, rfl⟩ := List.mem_map.mp ha
    obtain ⟨y, _, rfl⟩ := List.mem_map.mp hb
    unfold enc at e
    simp at e
    rw [e]
  · obtain ⟨ns, h⟩ := Option.isSome_iff_exists.mp ok
    rw [strsOf_all h] at ha hb
    obtain ⟨x, _, rfl⟩ := List.mem_map.mp ha
    obtain ⟨y, _, rfl⟩ := List.mem_map.mp hb
    unfold enc at e
    simp only [List.cons.injEq, true_and] at e
    have := map_inj_nat e
    cases x; cases y
    congr 2
    exact Array.toList_inj.mp this
  · obtain ⟨ns, h⟩ := Option.isSome_iff_exists.mp ok
    rw [(tupsOf_all h).1] at ha hb
    obtain ⟨x, _, rfl⟩ := List.mem_map.mp ha
    obtain ⟨y, _, rfl⟩ := List.mem_map.mp hb
    unfold enc at e
    simp only [intsOf_mapK, List.cons.injEq, true_and] at e
    rw [e]
theorem sortK_uniq {us o : List V} (ok : okK us = true) (hp : o.Perm us) (hs : o.Pairwise fun a b => ltK b a = false) : o = sortK us := by
  refine List.Perm.eq_of_pairwise (le := fun a b => ltK b a = false) (fun a b ha hb h1 h2 => ?_) hs (sortK_sorted us) (hp.trans (sortK_perm us).symm)
  exact ltK_total ok (hp.mem_iff.mp ha) ((sortK_perm us).mem_iff.mp hb) h2 h1
theorem okK_perm {us o : List V} (hp : o.Perm us) (ok : okK us = true) : okK o = true := by
  unfold okK at ok ⊢
  rw [Bool.or_eq_true, Bool.or_eq_true] at ok ⊢
  rcases ok with (ok | ok) | ok
  · obtain ⟨ns, h⟩ := Option.isSome_iff_exists.mp ok
    refine .inl (.inl ?_)
    have : ∀ v ∈ o, ∃ i, v = V.int i := fun v hv => by
      have := hp.mem_iff.mp hv
      rw [intsOf_all h] at this
      obtain ⟨x, _, rfl⟩ := List.mem_map.mp this; exact ⟨x, rfl⟩
    clear hp h ok
    induction o with
    | nil => rfl
    | cons v o ih =>
      obtain ⟨i, rfl⟩ := this v List.mem_cons_self
      have := ih fun v hv => this v (List.mem_cons_of_mem _ hv)
      unfold intsOf
      obtain ⟨m, hm⟩ := Option.isSome_iff_exists.mp this
      rw [hm]; rfl
  · obtain ⟨ns, h⟩ := Option.isSome_iff_exists.mp ok
    refine .inl (.inr ?_)
    have : ∀ v ∈ o, ∃ i, v = V.str i := fun v hv => by
      have := hp.mem_iff.mp hv
      rw [strsOf_all h] at this
      obtain ⟨x, _, rfl⟩ := List.mem_map.mp this; exact ⟨x, rfl⟩
    clear hp h ok
    induction o with
    | nil => rfl
    | cons v o ih =>
      obtain ⟨i, rfl⟩ := this v List.mem_cons_self
      have := ih fun v hv => this v (List.mem_cons_of_mem _ hv)
      unfold strsOf
      obtain ⟨m, hm⟩ := Option.isSome_iff_exists.mp this
      rw [hm]; rfl
  · obtain ⟨ns, h⟩ := Option.isSome_iff_exists.mp ok
    refine .inr ?_
    obtain ⟨h1, h2⟩ := tupsOf_all h
    have : ∀ v ∈ o, ∃ t, tupInts v = some t := fun v hv => by
      have := hp.mem_iff.mp hv
      rw [h1] at this
      obtain ⟨x, hx, rfl⟩ := List.mem_map.mp this
      refine ⟨x, ?_⟩
      unfold tupInts
      dsimp only
      rw [intsOf_mapK]
      cases x with
      | nil => exact absurd hx h2
      | cons a r => rfl
    clear hp h ok h1 h2
    induction o with
    | nil => rfl
    | cons v o ih =>
      obtain ⟨i, hi⟩ := this v List.mem_cons_self
      have := ih fun v hv => this v (List.mem_cons_of_mem _ hv)
      obtain ⟨m, hm⟩ := Option.isSome_iff_exists.mp this
      have e : tupsOf (v :: o) = some (i :: m) := by
        unfold tupsOf at hm ⊢
        simp [mapO, hi, hm]
      rw [e]; rfl

/-! the keys as the sort sees them -/
theorem lexB_nats : ∀ a b : List Nat, lexB (a.map fun n : Nat => (n : Int)) (b.map fun n : Nat => (n : Int)) = decide (a < b)
  | [], [] => by simp [lexB]
  | [], _ :: _ => by simp [lexB]
  | _ :: _, [] => by simp [lexB]
  | x :: a, y :: b => by
    simp only [List.map_cons, lexB]
    by_cases h : x = y
    · subst h
      rw [if_pos rfl, lexB_nats a b]
      simp [List.cons_lt_cons_iff]
    · rw [if_neg (by (first | lia | omega))]
      simp [List.cons_lt_cons_iff, h]
theorem ltK_int {a b : Int} : ltK (.int a) (.int b) = decide (a < b) := by
  unfold ltK enc
  simp only [lexB, if_true]
  by_cases h : a = b
  · rw [if_pos h]; subst h; simp
  · rw [if_neg h]
theorem ltK_str {a b : Str} : ltK (.str a) (.str b) = decide (a.cps.toList < b.cps.toList) := by
  unfold ltK enc
  simp only [lexB, if_true]
  exact lexB_nats _ _
theorem ltK_tup {a b : List Int} : ltK (.tup (a.map .int)) (.tup (b.map .int)) = lexB a b := by
  unfold ltK enc
  simp only [intsOf_mapK, lexB, if_true]
theorem getD_mem' {us : List V} {i : Nat} (h : i < us.length) : us.getD i V.none ∈ us := by
  rw [List.getD_eq_getElem?_getD, List.getElem?_eq_getElem h]; exact List.getElem_mem h
theorem two_is {xs : List Value} (h : 2 ≤ xs.length) : ∃ a b r, xs = a :: b :: r := by
  match xs, h with
  | a :: b :: r, _ => exact ⟨a, b, r, rfl⟩
theorem sortable {us : List V} {xs : List Value} {ρ : List Addr} {s : Shared} (r : RepL K s.heap ρ us xs) (h2 : 2 ≤ us.length) (ok : okK us = true) : ∃ κ : SortKind, (∀ A E (Q : SortKind → Shared → Prop), Q κ s → wpAny (model K.prog K.w) A (keyKind' xs.toArray) Q E s) ∧
    ∀ A i j (C : Bool → Shared → Prop), i < us.length → j < us.length → C (ltK (us.getD i .none) (us.getD j .none)) s → kas_ask K.prog K.w A κ xs i j C s := by
  unfold okK at ok
  rw [Bool.or_eq_true, Bool.or_eq_true] at ok
  have hxl : xs.length = us.length := r.length
  rcases ok with (ok | ok) | ok
  · obtain ⟨ns, h⟩ := Option.isSome_iff_exists.mp ok
    refine ⟨oneType', fun A E Q q => ?_, fun A i j C hi hj hC => ?_⟩
    · have hI := intsOf_are r h
      obtain ⟨a, b, t, rfl⟩ := two_is (by (first | lia | omega) : 2 ≤ xs.length)
      exact wpAny_of_eq (keyKind_ints hI) q
    · have e := intsOf_all h
      have m1 := getD_mem' hi
      have m2 := getD_mem' hj
      have r1 := getD_rep r hi
      have r2 := getD_rep r hj
      unfold kas_ask
      generalize us.getD i .none = x at m1 r1 hC
      generalize us.getD j .none = y at m2 r2 hC
      rw [e] at m1 m2
      obtain ⟨x, _, rfl⟩ := List.mem_map.mp m1
      obtain ⟨y, _, rfl⟩ := List.mem_map.mp m2
      obtain ⟨t, e1⟩ := Rep.int_iff.mp r1
      obtain ⟨u, e2⟩ := Rep.int_iff.mp r2
      rw [e1, e2, keyLt'_oneType]
      exact oneLt_int (by rw [ltK_int] at hC; exact hC)
  · obtain ⟨ns, h⟩ := Option.isSome_iff_exists.mp ok
    have e := strsOf_all h
    refine ⟨oneType', fun A E Q q => ?_, fun A i j C hi hj hC => ?_⟩
    · have hI : StrsAre xs (xs.map strOf) := strsAre_map xs fun v hv => by
        obtain ⟨i, hi, rfl⟩ := List.mem_iff_getElem.mp hv
        obtain ⟨u, e1, q⟩ := r.getW (List.getElem?_eq_getElem hi)
        have hm := List.mem_of_getElem? e1
        rw [e] at hm
        obtain ⟨x, _, rfl⟩ := List.mem_map.mp hm
        obtain ⟨t, e2⟩ := Rep.str_iff.mp q
        exact ⟨x, t, e2⟩
      obtain ⟨a, b, t, rfl⟩ := two_is (by (first | lia | omega) : 2 ≤ xs.length)
      exact wpAny_of_eq (keyKind_strs hI) q
    · have m1 := getD_mem' hi
      have m2 := getD_mem' hj
      have r1 := getD_rep r hi
      have r2 := getD_rep r hj
      unfold kas_ask
      generalize us.getD i .none = x at m1 r1 hC
      generalize us.getD j .none = y at m2 r2 hC
      rw [e] at m1 m2
      obtain ⟨x, _, rfl⟩ := List.mem_map.mp m1
      obtain ⟨y, _, rfl⟩ := List.mem_map.mp m2
      obtain ⟨t, e1⟩ := Rep.str_iff.mp r1
      obtain ⟨u, e2⟩ := Rep.str_iff.mp r2
      rw [e1, e2]
      exact kas_lt_str (by rw [ltK_str] at hC; exact hC)
  · obtain ⟨ts, h⟩ := Option.isSome_iff_exists.mp ok
    obtain ⟨t1, t2⟩ := tups_at r h
    have hmid : ∀ i, i < xs.length → ∃ a o ys n, xs.getD i Value.none = .ref a ∧ s.heap.get? a = some o ∧ o.cls = .type "tuple" ∧ o.data = .seq ys n ∧ IntsAre ys.toList (ts.getD i []) ∧ ts.getD i [] ≠ [] := by
      intro i hi'
      obtain ⟨a', o, ys, n', e1, e2, _, e3, e4, e5, e6⟩ := t2 i (by (first | lia | omega))
      exact ⟨a', o, ys, n', e1, e2, e3, e4, e5, e6⟩
    refine ⟨tuples' true, fun A E Q q => ?_, fun A i j C hi hj hC => ?_⟩
    · obtain ⟨fs, k1, k2, k3⟩ := katTups_of (h := s.heap) (by (first | lia | omega)) hmid
      refine kat_kind (s := s) (T := .type "int") k1 (by (first | lia | omega)) (fun v hv => ?_) (by decide) q
      obtain ⟨i, t, rfl⟩ := k3 v hv
      exact .now
    · obtain ⟨a1, o1, xs1, n1, e1, g1, _, d1, I1, _⟩ := hmid i (by (first | lia | omega))
      obtain ⟨a2, o2, xs2, n2, e2, g2, _, d2, I2, _⟩ := hmid j (by (first | lia | omega))
      unfold kas_ask
      rw [e1, e2]
      refine kat_lt (s := s) g1 d1 g2 d2 (lex_at _ _ _ _ _ 0 I1 I2 fun c hc => ?_)
      have hsz : ∀ {ys : Array Value} {ns : List Int}, IntsAre ys.toList ns → ys.size = ns.length := by
        intro ys ns hI
        have := (ints_rep (K := K) (h := s.heap) (ρ := ρ) hI).length
        simpa using this
      rw [hsz I1, hsz I2, lex_eq] at hc
      have ge : ∀ i, i < us.length → us.getD i .none = .tup ((ts.getD i []).map .int) := by
        intro i hi
        rw [(tupsOf_all h).1, List.getD_eq_getElem?_getD, List.getElem?_map, List.getD_eq_getElem?_getD, List.getElem?_eq_getElem (by (first | lia | omega))]
        rfl
      rw [ge i hi, ge j hj, ltK_tup] at hC
      rw [hc]; exact hC
theorem askK_ok (us : List V) (n : Nat) : Ask n fun i j => ltK (us.getD i .none) (us.getD j .none) := ⟨fun i j _ _ h => ltK_asymm h, fun i j k _ _ _ h1 h2 => ltK_trans h1 h2⟩
theorem map_getDK {us : List V} : (List.range us.length).map (fun i => us.getD i .none) = us := by
  apply List.ext_getElem
  · simp
  · intro i h1 h2
    simp [List.getD_eq_getElem?_getD, h2]
theorem out_is {us : List V} {p : List Nat} (ok : okK us = true) (hp : p.Perm (List.range us.length)) (hs : p.Pairwise (LeA fun i j => ltK (us.getD i .none) (us.getD j .none))) : (p.map fun i => us.getD i .none) = sortK us := by
  refine sortK_uniq ok ?_ ?_
  · have := hp.map fun i => us.getD i .none
    rwa [map_getDK] at this
  · rw [List.pairwise_map]
    exact hs.imp fun h => h
theorem sortK_short {us : List V} (h : us.length < 2) : sortK us = us := by
  match us, h with
  | [], _ => (unfold sortK; simp)
  | [a], _ => (unfold sortK; simp)

noncomputable def sortedN : List V → M V
  | [.obj l] => fun σ => match σ.st[l]? with
    | some (.lst vs) => if okK vs = true ∧ vs.length < 128 then .ok (.obj σ.st.length) { σ with st := σ.st ++ [.lst (sortK vs)] } else .stuck
    | _ => .stuck
  | _ => stuck
theorem built_sortedN : BuiltOk K (.builtin "sorted") sortedN := by
  intro F fk hnh σ ρ s vs ws rel r
  unfold sortedN
  split
  · rename_i l
    obtain ⟨x, r', rfl, r1, r2⟩ := RepL.cons_iff.mp r
    obtain rfl := RepL.nil_iff.mp r2
    cases hl : σ.st[l]? with
    | none => exact Run.stuck
    | some c =>
      cases c with
      | lst us =>
        dsimp only
        by_cases hz : okK us = true ∧ us.length < 128
        · rw [if_pos hz]
          obtain ⟨ok, h128⟩ := hz
          obtain ⟨a, xs, n, rfl, hρ, hL, hr, hn⟩ := rel.list r1 hl
          have hxl : xs.length = us.length := hr.length
          have fin : ∀ (out : List Value), RepL K s.heap ρ (sortK us) out → ∃ ρ', Rel K F { σ with st := σ.st ++ [.lst (sortK us)] } ρ' { s with heap := sortedAll s.heap xs out.toArray } ∧
              Ext F.mine ρ ρ' s.heap (sortedAll s.heap xs out.toArray) ∧ Rep K (sortedAll s.heap xs out.toArray) ρ' (.obj σ.st.length) (.ref (s.heap.objs.size + 1)) := by
            intro out hrep
            obtain ⟨m, hm⟩ := sortedAll_out (h := s.heap) (xs := xs) (out := out.toArray)
            obtain ⟨rel', x'⟩ := rel.newAt (s' := { s with heap := sortedAll s.heap xs out.toArray }) sortedAll_keep (Heap.get?_none_of_le (Nat.le_succ _)) (n := m) hm hrep (by rw [(sortK_perm us).length_eq]; exact hn) rfl rfl
            exact ⟨_, rel', x', Rep.obj_iff.mpr ⟨_, by rw [← rel.len, List.getElem?_concat_length], rfl⟩⟩
          by_cases hsm : us.length < 2
          · exact Run.ok (sorted_small hL.isList (by (first | lia | omega)) (fin xs (by rw [sortK_short hsm]; exact hr)) [] (.inl rfl))
          · have hrm : RepL K (midHeap (colHeap s.heap xs) (s.heap.objs.size + 1) xs) ρ us xs := RepL.mono' (List.prefix_refl _) (fun b o e _ => mid_keep b o e) hr
            obtain ⟨κ, k1, k2⟩ := sortable (s := { s with heap := midHeap (colHeap s.heap xs) (s.heap.objs.size + 1) xs }) hrm (by (first | lia | omega)) ok
            refine Run.ok (sorted_N (κ := κ) (ask := fun i j => ltK (us.getD i .none) (us.getD j .none)) hL.isList (by (first | lia | omega)) (by (first | lia | omega)) (fun A' E' Q q => k1 A' E' Q q) (askK_ok us _) (fun A' i j C hi hj hC => k2 A' i j C (by (first | lia | omega)) (by (first | lia | omega)) hC) fun p q1 q2 => fin _ ?_)
            rw [hxl] at q1
            rw [← out_is ok q1 q2]
            exact maps_rep hr p fun i hi => by simpa using q1.mem_iff.mp hi
        · rw [if_neg hz]; exact Run.stuck
  · exact Run.stuck

/-! list.sort -/
noncomputable def sortG : V → List V → M V
  | .obj l, [] => fun σ => if l = 0 then .stuck else match σ.st[l]? with
    | some (.lst vs) => if okK vs = true ∧ vs.length < 128 then .ok .none { σ with st := σ.st.set l (.lst (sortK vs)) } else .stuck
    | _ => .stuck
  | _, _ => fun _ => .stuck
theorem midL_keep {h : Heap} {a : Addr} {ws : List Value} : ∀ b o, b ≠ a → h.get? b = some o → (midHeap h a ws).get? b = some o := by
  intro b o hb e
  unfold midHeap
  refine Heap.get?_push_of_some _ (Heap.get?_push_of_some _ ?_)
  rw [Heap.get?_update_ne _ _ _ _ hb]
  exact e
theorem sortedHeap_same {h : Heap} {a : Addr} {ws : List Value} {out : Array Value} (ha : a < h.objs.size) : Heap.SameBut a ((h.push (seqObj "tuple" ws.toArray 0)).push (seqObj "list" #[] 0)) (sortedHeap h a ws out) := by
  unfold sortedHeap
  refine ⟨?_, fun b hb => ?_⟩
  · rw [Heap.size_update, size_push', size_push', Heap.size_update, size_push', size_push']
  · rw [Heap.get?_update_ne _ _ _ _ hb]
    by_cases h1 : b = h.objs.size + 1
    · subst h1
      have s1 : ((h.update a (Obj.mapSeq fun _ => #[])).push (seqObj "tuple" ws.toArray 0)).objs.size = h.objs.size + 1 := by rw [size_push', Heap.size_update]
      have s2 : (h.push (seqObj "tuple" ws.toArray 0)).objs.size = h.objs.size + 1 := size_push' ..
      have e1 := Heap.get?_push_size ((h.update a (Obj.mapSeq fun _ => #[])).push (seqObj "tuple" ws.toArray 0)) (o := seqObj "list" #[] 0) rfl
      have e2 := Heap.get?_push_size (h.push (seqObj "tuple" ws.toArray 0)) (o := seqObj "list" #[] 0) rfl
      rw [s1] at e1
      rw [s2] at e2
      rw [e1, e2]
    · have s1 : ((h.update a (Obj.mapSeq fun _ => #[])).push (seqObj "tuple" ws.toArray 0)).objs.size = h.objs.size + 1 := by rw [size_push', Heap.size_update]
      have s2 : (h.push (seqObj "tuple" ws.toArray 0)).objs.size = h.objs.size + 1 := size_push' ..
      have g1 := Heap.get?_push_ne ((h.update a (Obj.mapSeq fun _ => #[])).push (seqObj "tuple" ws.toArray 0)) b (seqObj "list" #[] 0) (by rw [s1]; exact h1)
      have g2 := Heap.get?_push_ne (h.push (seqObj "tuple" ws.toArray 0)) b (seqObj "list" #[] 0) (by rw [s2]; exact h1)
      rw [g1, g2]
      by_cases h2 : b = h.objs.size
      · subst h2
        have e1 := Heap.get?_push_size (h.update a (Obj.mapSeq fun _ => #[])) (o := seqObj "tuple" ws.toArray 0) rfl
        rw [Heap.size_update] at e1
        rw [e1, Heap.get?_push_size _ rfl]
      · have g3 := Heap.get?_push_ne (h.update a (Obj.mapSeq fun _ => #[])) b (seqObj "tuple" ws.toArray 0) (by rw [Heap.size_update]; exact h2)
        rw [g3, Heap.get?_push_ne h b _ h2, Heap.get?_update_ne _ _ _ _ hb]
theorem sortedHeap_out {h : Heap} {a : Addr} {xs : List Value} {out : Array Value} {n : Nat} (ho : h.get? a = some (seqObj "list" xs.toArray n)) : ∃ m, IsL (sortedHeap h a xs out) a out m := by
  unfold sortedHeap
  have h1 := get?_update_seq ho (fun _ => (#[] : Array Value))
  exact ⟨_, get?_update_seq (Heap.get?_push_of_some (seqObj "list" #[] 0) (Heap.get?_push_of_some (seqObj "tuple" xs.toArray 0) h1)) (fun _ => out)⟩
theorem meth_sort : MethOk K "list.sort" sortG := by
  intro F fk hnh σ ρ s o wo vs ws rel ro r
  unfold sortG
  split
  · rename_i l
    rw [RepL.nil_iff.mp r]
    by_cases hl0 : l = 0
    · rw [if_pos hl0]; exact Run.stuck
    rw [if_neg hl0]
    cases hl : σ.st[l]? with
    | none => exact Run.stuck
    | some c =>
      cases c with
      | lst us =>
        dsimp only
        by_cases hz : okK us = true ∧ us.length < 128
        · rw [if_pos hz]
          obtain ⟨ok, h128⟩ := hz
          obtain ⟨a, xs, n, rfl, hρ, hL, hr, hn⟩ := rel.list ro hl
          have hxl : xs.length = us.length := hr.length
          have ha : a < s.heap.objs.size := Heap.lt_size hL
          have fin : ∀ (out : List Value), RepL K s.heap ρ (sortK us) out → ∃ ρ', Rel K F { σ with st := σ.st.set l (.lst (sortK us)) } ρ' { s with heap := sortedHeap s.heap a xs out.toArray } ∧
              Ext F.mine ρ ρ' s.heap (sortedHeap s.heap a xs out.toArray) ∧ Rep K (sortedHeap s.heap a xs out.toArray) ρ' .none .none := by
            intro out hrep
            obtain ⟨m, hm⟩ := sortedHeap_out (xs := xs) (out := out.toArray) hL
            have hk : ∀ b o, s.heap.get? b = some o → ((s.heap.push (seqObj "tuple" xs.toArray 0)).push (seqObj "list" #[] 0)).get? b = some o := fun b o e => Heap.get?_push_of_some _ (Heap.get?_push_of_some _ e)
            have rel1 : Rel K F σ ρ { s with heap := (s.heap.push (seqObj "tuple" xs.toArray 0)).push (seqObj "list" #[] 0) } := rel.kept hk rfl rfl
            obtain ⟨rel', x'⟩ := rel1.upd (s' := { s with heap := sortedHeap s.heap a xs out.toArray }) hρ hl0 (sortedHeap_same ha) (n := m) hm (RepL.mono' (List.prefix_refl _) (kept_tup hk) hrep) (by rw [(sortK_perm us).length_eq]; exact hn) rfl rfl
            exact ⟨ρ, rel', (Ext.kept hk).trans x', Rep.none⟩
          by_cases hsm : us.length < 2
          · exact Run.ok (wpAny_call_entry slot_list_sort ⟨_, hL, rfl⟩ entry_list_sort (sort_small hL (by (first | lia | omega)) ⟨_, rfl, fin xs (by rw [sortK_short hsm]; exact hr)⟩ [] (.inl rfl)) (args_list_sort _))
          · have hrm : RepL K (midHeap s.heap a xs) ρ us xs := by
              refine RepL.mono' (List.prefix_refl _) (fun b o e f => midL_keep b o ?_ e) hr
              rintro rfl
              exact absurd rfl (list_ne_tup hL.isList e f)
            obtain ⟨κ, k1, k2⟩ := sortable (s := { s with heap := midHeap s.heap a xs }) hrm (by (first | lia | omega)) ok
            refine Run.ok (wpAny_call_entry slot_list_sort ⟨_, hL, rfl⟩ entry_list_sort (sort_N (κ := κ) (ask := fun i j => ltK (us.getD i .none) (us.getD j .none)) hL (by (first | lia | omega)) (by (first | lia | omega)) (fun Q q => k1 _ _ Q q) (askK_ok us _) (fun i j C hi hj hC => k2 _ i j C (by (first | lia | omega)) (by (first | lia | omega)) hC) fun p q1 q2 => ⟨_, rfl, fin _ ?_⟩) (args_list_sort _))
            rw [hxl] at q1
            rw [← out_is ok q1 q2]
            exact maps_rep hr p fun i hi => by simpa using q1.mem_iff.mp hi
        · rw [if_neg hz]; exact Run.stuck
  · exact Run.stuck
end

/-! part F36 -/
set_option autoImplicit false
set_option maxRecDepth 100000
set_option linter.unusedVariables false
open PySem PySem.W PyProof.Rows
section
variable {K : Glo} {F : Frm}

/-! ### strings: +, str(n), isinstance(e, str) -/
noncomputable def addS : V → V → M V
  | .str x, .str y => fun σ => if x.length + y.length ≤ 1000000 then .ok (.str (x ++ y)) σ else .stuck
  | a, b => addV a b
theorem bin_addS : BinOk K .Add addS := by
  intro F fk σ ρ s a b wa wb rel ra rb
  unfold addS
  split
  · rename_i x y
    obtain ⟨t, rfl⟩ := Rep.str_iff.mp ra
    obtain ⟨u, rfl⟩ := Rep.str_iff.mp rb
    by_cases h : x.length + y.length ≤ 1000000
    · rw [if_pos h]
      exact Run.ok (add_str (fun t' tk => ⟨ρ, rel.tok _, Ext.refl .., Rep.str ..⟩) (sizeLine_ge h))
    · rw [if_neg h]; exact Run.stuck
  · exact bin_add F fk σ ρ s _ _ wa wb rel ra rb
noncomputable def strB : List V → M V
  | [.int i] => fun σ => if i.natAbs.log2 < 1920 then .ok (.str (Str.ofString (toString i))) σ else .stuck
  | _ => stuck
theorem built_strB : BuiltOk K (.type "str") strB := by
  intro F fk hnh σ ρ s vs ws rel r
  unfold strB
  split
  · rename_i i
    obtain ⟨x, r', rfl, r1, r2⟩ := RepL.cons_iff.mp r
    obtain rfl := RepL.nil_iff.mp r2
    obtain ⟨t, rfl⟩ := Rep.int_iff.mp r1
    by_cases h : i.natAbs.log2 < 1920
    · rw [if_pos h]
      exact Run.ok (P.str_of_int h ⟨ρ, rel.tok _, Ext.refl .., Rep.str ..⟩)
    · rw [if_neg h]; exact Run.stuck
  · exact Run.stuck
noncomputable def isStrV : V → M V
  | .str _ => fun σ => .ok (.bool true) σ
  | .int _ => fun σ => .ok (.bool false) σ
  | _ => stuck
theorem simE_isStr (fk : FOk F) {np pos sp : Pos} {arg : Expr} {ma : M V}
    (hx : F.env.kindOf (Str.ofString "isinstance") = some .globalImplicit) (hm : K.mg (Str.ofString "isinstance") = none)
    (hx2 : F.env.kindOf (Str.ofString "str") = some .globalImplicit) (hm2 : K.mg (Str.ofString "str") = none) (ha : SimE K F arg ma)
    (hst : starEach [arg, .Name (Str.ofString "str") sp] F.env = [(false, eval arg F.env), (false, eval (.Name (Str.ofString "str") sp) F.env)] := by rfl) :
    SimE K F (.Call (.Name (Str.ofString "isinstance") np) [arg, .Name (Str.ofString "str") sp] [] pos) (do let v ← ma; isStrV v) := by
  intro σ ρ s rel
  refine Run.of_wp fun hne => ?_
  rw [eval_CallName]
  refine wpAny_bind (wp_builtin fk rel hx hm (v := .builtin "isinstance") (by decide +kernel) ?_)
  refine wp_callWith rfl (by rw [backTo_any, hst]; rfl) ?_
  rw [hst]
  show wpAny _ _ (spliced ((false, eval arg F.env) :: (false, eval (.Name (Str.ofString "str") sp) F.env) :: backTo pos [])) _ _ s
  rw [spliced_cons_eq]
  refine wpAny_bind (Run.bindWp (ha σ ρ s rel) hne fun v σ₁ ρ₁ s₁ wv e1 e2 rel₁ x₁ rv => ?_)
  rw [e2] at hne ⊢
  rw [spliced_cons_eq]
  refine wpAny_bind (wpAny_holding (wpAny_bind (wp_builtin fk rel₁ hx2 hm2 (v := .type "str") (by decide +kernel) ?_)))
  refine wpAny_bind (wpAny_holding (wpAny_pure (wpAny_pure (wpAny_pure ?_))))
  show wpAny _ _ (PySem.call (.builtin "isinstance") [wv, .type "str"]) _ _ s₁
  cases v with
  | str x =>
    obtain ⟨t, rfl⟩ := Rep.str_iff.mp rv
    exact IsiPair.str_str ⟨_, _, ρ₁, rfl, rel₁, x₁, Rep.bool _⟩
  | int i =>
    obtain ⟨t, rfl⟩ := Rep.int_iff.mp rv
    exact IsiPair.int_str ⟨_, _, ρ₁, rfl, rel₁.tok _, x₁, Rep.bool _⟩
  | _ => exact absurd rfl hne
end

/-! part G05 -/
set_option autoImplicit false
set_option maxRecDepth 100000
set_option linter.unusedVariables false
set_option Elab.async false
set_option maxHeartbeats 2000000
open PySem PySem.W PyProof.Rows
section
noncomputable abbrev prg : Program := PySem.Challenge.pw_dm0136_05
noncomputable def bltNames : List String := ["IndexError", "TypeError", "isinstance", "len", "list", "range", "reversed", "sorted", "str"]
noncomputable def siftdown_r : DefRec := recAt prg 6
theorem has_f_siftdown {K : Glo} (hp : ∀ d ∈ recsOf prg, d ∈ recsOf K.p) (hfree : ∀ x ∈ bltNames, K.mg (Str.ofString x) = none) : HasF K "_siftdown" 1 f_siftdown := by
  refine hasF_of (d := siftdown_r) (lvl := 0) (hp _ (List.mem_iff_getElem?.mpr ⟨5, by kernel_rfl⟩)) (by kernel_rfl) (by kernel_rfl) (by kernel_rfl) (by kernel_rfl) (by decide) ?_ ?_ ?_
  · intro pm code doc ws h
    obtain ⟨a0, a1, a2, rfl⟩ := len3 h
    rfl
  · intro n y hy
    simp only [List.mem_cons, List.not_mem_nil, or_false] at hy
    rcases hy with rfl | rfl | rfl
    · exact .inl (by kernel_rfl)
    · exact .inl (by kernel_rfl)
    · exact .inl (by kernel_rfl)
  · intro pm code doc L fa A hr fk
    show SimSs K _ _ siftdown_m
    exact (simSs_cons (simS_assign _ (simT_local "newitem" _ fk (by kernel_rfl)) (simE_sub fk _ (simE_name fk "heap" _) (simE_name fk "pos" _))) (simSs_cons (simS_while _ 4096 (simB_cmp fk cmp_gt tru_ok _ (simE_name fk "pos" _) (simE_name fk "startpos" _)) (simSs_cons (simS_assign _ (simT_local "parentpos" _ fk (by kernel_rfl)) (simE_bin fk bin_shr _ (simE_bin fk bin_sub _ (simE_name fk "pos" _) (simE_int 1 _ _)) (simE_int 1 _ _))) (simSs_cons (simS_assign _ (simT_local "parent" _ fk (by kernel_rfl)) (simE_sub fk _ (simE_name fk "heap" _) (simE_name fk "parentpos" _))) (simSs_cons (simS_if _ (simB_cmpX fk cmp_ltX tru_ok _ (simE_name fk "newitem" _) (simE_name fk "parent" _)) (simSs_cons (simS_assign _ (simT_sub fk _ (simE_name fk "heap" _) (simE_name fk "pos" _)) (simE_name fk "parent" _)) (simSs_cons (simS_assign _ (simT_local "pos" _ fk (by kernel_rfl)) (simE_name fk "parentpos" _)) (simSs_one (simS_continue _)))) simSs_nil) (simSs_one (simS_break _)))))) (simSs_one (simS_assign _ (simT_sub fk _ (simE_name fk "heap" _) (simE_name fk "pos" _)) (simE_name fk "newitem" _)))))
noncomputable def heappush_r : DefRec := recAt prg 1
theorem has_f_heappush {K : Glo} (hp : ∀ d ∈ recsOf prg, d ∈ recsOf K.p) (hfree : ∀ x ∈ bltNames, K.mg (Str.ofString x) = none) (h_siftdown : HasF K "_siftdown" 1 f_siftdown) : HasF K "heappush" 2 f_heappush := by
  refine hasF_of (d := heappush_r) (lvl := 1) (hp _ (List.mem_iff_getElem?.mpr ⟨0, by kernel_rfl⟩)) (by kernel_rfl) (by kernel_rfl) (by kernel_rfl) (by kernel_rfl) (by decide) ?_ ?_ ?_
  · intro pm code doc ws h
    obtain ⟨a0, a1, rfl⟩ := len2 h
    rfl
  · intro n y hy
    simp only [List.mem_cons, List.not_mem_nil, or_false] at hy
    rcases hy with rfl | rfl
    · exact .inl (by kernel_rfl)
    · exact .inl (by kernel_rfl)
  · intro pm code doc L fa A hr fk
    show SimSs K _ _ heappush_m
    exact (simSs_cons (simS_expr fk _ (simE_meth fk PySem.F.slot_list_append PySem.F.type_list_append (simE_name fk "heap" _) (simEs_cons (simE_name fk "item" _) simEs_nil) meth_append)) (simSs_one (simS_expr fk _ (simE_callF fk h_siftdown (hr.le (by decide)) (simEs_cons (simE_name fk "heap" _) (simEs_cons (simE_int 0 _ _) (simEs_cons (simE_bin fk bin_sub _ (simE_callB fk rfl (by kernel_rfl) (hfree "len" (by decide)) (by kernel_rfl) built_len (simEs_cons (simE_name fk "heap" _) simEs_nil)) (simE_int 1 _ _)) simEs_nil)))))))
noncomputable def siftup_r : DefRec := recAt prg 7
theorem has_f_siftup {K : Glo} (hp : ∀ d ∈ recsOf prg, d ∈ recsOf K.p) (hfree : ∀ x ∈ bltNames, K.mg (Str.ofString x) = none) (h_siftdown : HasF K "_siftdown" 1 f_siftdown) : HasF K "_siftup" 2 f_siftup := by
  refine hasF_of (d := siftup_r) (lvl := 1) (hp _ (List.mem_iff_getElem?.mpr ⟨6, by kernel_rfl⟩)) (by kernel_rfl) (by kernel_rfl) (by kernel_rfl) (by kernel_rfl) (by decide) ?_ ?_ ?_
  · intro pm code doc ws h
    obtain ⟨a0, a1, rfl⟩ := len2 h
    rfl
  · intro n y hy
    simp only [List.mem_cons, List.not_mem_nil, or_false] at hy
    rcases hy with rfl | rfl
    · exact .inl (by kernel_rfl)
    · exact .inl (by kernel_rfl)
  · intro pm code doc L fa A hr fk
    show SimSs K _ _ siftup_m
    exact (simSs_cons (simS_assign _ (simT_local "endpos" _ fk (by kernel_rfl)) (simE_callB fk rfl (by kernel_rfl) (hfree "len" (by decide)) (by kernel_rfl) built_len (simEs_cons (simE_name fk "heap" _) simEs_nil))) (simSs_cons (simS_assign _ (simT_local "startpos" _ fk (by kernel_rfl)) (simE_name fk "pos" _)) (simSs_cons (simS_assign _ (simT_local "newitem" _ fk (by kernel_rfl)) (simE_sub fk _ (simE_name fk "heap" _) (simE_name fk "pos" _))) (simSs_cons (simS_assign _ (simT_local "childpos" _ fk (by kernel_rfl)) (simE_bin fk bin_add _ (simE_bin fk bin_mul _ (simE_int 2 _ _) (simE_name fk "pos" _)) (simE_int 1 _ _))) (simSs_cons (simS_while _ 4096 (simB_cmp fk cmp_lt tru_ok _ (simE_name fk "childpos" _) (simE_name fk "endpos" _)) (simSs_cons (simS_assign _ (simT_local "rightpos" _ fk (by kernel_rfl)) (simE_bin fk bin_add _ (simE_name fk "childpos" _) (simE_int 1 _ _))) (simSs_cons (simS_if _ (simB_boolop _ (simAll_and (simB_cmp fk cmp_lt tru_ok _ (simE_name fk "rightpos" _) (simE_name fk "endpos" _)) (simAll_and (simB_not _ (simB_cmpX fk cmp_ltX tru_ok _ (simE_sub fk _ (simE_name fk "heap" _) (simE_name fk "childpos" _)) (simE_sub fk _ (simE_name fk "heap" _) (simE_name fk "rightpos" _)))) simAll_and_nil))) (simSs_one (simS_assign _ (simT_local "childpos" _ fk (by kernel_rfl)) (simE_name fk "rightpos" _))) simSs_nil) (simSs_cons (simS_assign _ (simT_sub fk _ (simE_name fk "heap" _) (simE_name fk "pos" _)) (simE_sub fk _ (simE_name fk "heap" _) (simE_name fk "childpos" _))) (simSs_cons (simS_assign _ (simT_local "pos" _ fk (by kernel_rfl)) (simE_name fk "childpos" _)) (simSs_one (simS_assign _ (simT_local "childpos" _ fk (by kernel_rfl)) (simE_bin fk bin_add _ (simE_bin fk bin_mul _ (simE_int 2 _ _) (simE_name fk "pos" _)) (simE_int 1 _ _))))))))) (simSs_cons (simS_assign _ (simT_sub fk _ (simE_name fk "heap" _) (simE_name fk "pos" _)) (simE_name fk "newitem" _)) (simSs_one (simS_expr fk _ (simE_callF fk h_siftdown (hr.le (by decide)) (simEs_cons (simE_name fk "heap" _) (simEs_cons (simE_name fk "startpos" _) (simEs_cons (simE_name fk "pos" _) simEs_nil))))))))))))
noncomputable def heappop_r : DefRec := recAt prg 2
theorem has_f_heappop {K : Glo} (hp : ∀ d ∈ recsOf prg, d ∈ recsOf K.p) (hfree : ∀ x ∈ bltNames, K.mg (Str.ofString x) = none) (h_siftup : HasF K "_siftup" 2 f_siftup) : HasF K "heappop" 3 f_heappop := by
  refine hasF_of (d := heappop_r) (lvl := 2) (hp _ (List.mem_iff_getElem?.mpr ⟨1, by kernel_rfl⟩)) (by kernel_rfl) (by kernel_rfl) (by kernel_rfl) (by kernel_rfl) (by decide) ?_ ?_ ?_
  · intro pm code doc ws h
    obtain ⟨a0, rfl⟩ := len1 h
    rfl
  · intro n y hy
    simp only [List.mem_cons, List.not_mem_nil, or_false] at hy
    subst hy
    · exact .inl (by kernel_rfl)
  · intro pm code doc L fa A hr fk
    show SimSs K _ _ heappop_m
    exact (simSs_cons (simS_assign _ (simT_local "lastelt" _ fk (by kernel_rfl)) (simE_meth fk PySem.F.slot_list_pop PySem.F.type_list_pop (simE_name fk "heap" _) simEs_nil meth_pop)) (simSs_cons (simS_if _ (simB_val fk tru_ok (simE_name fk "heap" _)) (simSs_cons (simS_assign _ (simT_local "returnitem" _ fk (by kernel_rfl)) (simE_sub fk _ (simE_name fk "heap" _) (simE_int 0 _ _))) (simSs_cons (simS_assign _ (simT_sub fk _ (simE_name fk "heap" _) (simE_int 0 _ _)) (simE_name fk "lastelt" _)) (simSs_cons (simS_expr fk _ (simE_callF fk h_siftup (hr.le (by decide)) (simEs_cons (simE_name fk "heap" _) (simEs_cons (simE_int 0 _ _) simEs_nil)))) (simSs_one (simS_return _ (simE_name fk "returnitem" _)))))) simSs_nil) (simSs_one (simS_return _ (simE_name fk "lastelt" _)))))
noncomputable def heapreplace_r : DefRec := recAt prg 3
theorem has_f_heapreplace {K : Glo} (hp : ∀ d ∈ recsOf prg, d ∈ recsOf K.p) (hfree : ∀ x ∈ bltNames, K.mg (Str.ofString x) = none) (h_siftup : HasF K "_siftup" 2 f_siftup) : HasF K "heapreplace" 3 f_heapreplace := by
  refine hasF_of (d := heapreplace_r) (lvl := 2) (hp _ (List.mem_iff_getElem?.mpr ⟨2, by kernel_rfl⟩)) (by kernel_rfl) (by kernel_rfl) (by kernel_rfl) (by kernel_rfl) (by decide) ?_ ?_ ?_
  · intro pm code doc ws h
    obtain ⟨a0, a1, rfl⟩ := len2 h
    rfl
  · intro n y hy
    simp only [List.mem_cons, List.not_mem_nil, or_false] at hy
    rcases hy with rfl | rfl
    · exact .inl (by kernel_rfl)
    · exact .inl (by kernel_rfl)
  · intro pm code doc L fa A hr fk
    show SimSs K _ _ heapreplace_m
    exact (simSs_cons (simS_assign _ (simT_local "returnitem" _ fk (by kernel_rfl)) (simE_subX fk _ (simE_name fk "heap" _) (simE_int 0 _ _))) (simSs_cons (simS_assign _ (simT_sub fk _ (simE_name fk "heap" _) (simE_int 0 _ _)) (simE_name fk "item" _)) (simSs_cons (simS_expr fk _ (simE_callF fk h_siftup (hr.le (by decide)) (simEs_cons (simE_name fk "heap" _) (simEs_cons (simE_int 0 _ _) simEs_nil)))) (simSs_one (simS_return _ (simE_name fk "returnitem" _))))))
noncomputable def heappushpop_r : DefRec := recAt prg 4
theorem has_f_heappushpop {K : Glo} (hp : ∀ d ∈ recsOf prg, d ∈ recsOf K.p) (hfree : ∀ x ∈ bltNames, K.mg (Str.ofString x) = none) (h_siftup : HasF K "_siftup" 2 f_siftup) : HasF K "heappushpop" 3 f_heappushpop := by
  refine hasF_of (d := heappushpop_r) (lvl := 2) (hp _ (List.mem_iff_getElem?.mpr ⟨3, by kernel_rfl⟩)) (by kernel_rfl) (by kernel_rfl) (by kernel_rfl) (by kernel_rfl) (by decide) ?_ ?_ ?_
  · intro pm code doc ws h
    obtain ⟨a0, a1, rfl⟩ := len2 h
    rfl
  · intro n y hy
    simp only [List.mem_cons, List.not_mem_nil, or_false] at hy
    rcases hy with rfl | rfl
    · exact .inl (by kernel_rfl)
    · exact .inl (by kernel_rfl)
  · intro pm code doc L fa A hr fk
    show SimSs K _ _ heappushpop_m
    exact (simSs_cons (simS_if _ (simB_boolop _ (simAll_and (simB_val fk tru_ok (simE_name fk "heap" _)) (simAll_and (simB_cmpX fk cmp_ltX tru_ok _ (simE_sub fk _ (simE_name fk "heap" _) (simE_int 0 _ _)) (simE_name fk "item" _)) simAll_and_nil))) (simSs_cons (simS_assign _ (simT_tuple fk _ _ (simTs_cons (simT_local "item" _ fk (by kernel_rfl)) (simTs_cons (simT_sub fk _ (simE_name fk "heap" _) (simE_int 0 _ _)) simTs_nil))) (simE_tuple _ _ (simEs_cons (simE_sub fk _ (simE_name fk "heap" _) (simE_int 0 _ _)) (simEs_cons (simE_name fk "item" _) simEs_nil)))) (simSs_one (simS_expr fk _ (simE_callF fk h_siftup (hr.le (by decide)) (simEs_cons (simE_name fk "heap" _) (simEs_cons (simE_int 0 _ _) simEs_nil)))))) simSs_nil) (simSs_one (simS_return _ (simE_name fk "item" _))))
noncomputable def heapify_r : DefRec := recAt prg 5
theorem has_f_heapify {K : Glo} (hp : ∀ d ∈ recsOf prg, d ∈ recsOf K.p) (hfree : ∀ x ∈ bltNames, K.mg (Str.ofString x) = none) (h_siftup : HasF K "_siftup" 2 f_siftup) : HasF K "heapify" 3 f_heapify := by
  refine hasF_of (d := heapify_r) (lvl := 2) (hp _ (List.mem_iff_getElem?.mpr ⟨4, by kernel_rfl⟩)) (by kernel_rfl) (by kernel_rfl) (by kernel_rfl) (by kernel_rfl) (by decide) ?_ ?_ ?_
  · intro pm code doc ws h
    obtain ⟨a0, rfl⟩ := len1 h
    rfl
  · intro n y hy
    simp only [List.mem_cons, List.not_mem_nil, or_false] at hy
    subst hy
    · exact .inl (by kernel_rfl)
  · intro pm code doc L fa A hr fk
    show SimSs K _ _ heapify_m
    exact (simSs_cons (simS_assign _ (simT_local "n" _ fk (by kernel_rfl)) (simE_callB fk rfl (by kernel_rfl) (hfree "len" (by decide)) (by kernel_rfl) built_len (simEs_cons (simE_name fk "x" _) simEs_nil))) (simSs_one (simS_for_rev fk _ 4096 (by kernel_rfl) (hfree "reversed" (by decide)) (simE_callB fk rfl (by kernel_rfl) (hfree "range" (by decide)) (by kernel_rfl) built_range (simEs_cons (simE_bin fk bin_fdiv _ (simE_name fk "n" _) (simE_int 2 _ _)) simEs_nil)) (simT_local "i" _ fk (by kernel_rfl)) (simSs_one (simS_expr fk _ (simE_callF fk h_siftup (hr.le (by decide)) (simEs_cons (simE_name fk "x" _) (simEs_cons (simE_name fk "i" _) simEs_nil))))))))

/-! _law_call -/
noncomputable def law_call_s1 : M Fl := (do let v ← (do let vs ← (do let v ← (pure (V.str (Str.ofString "told")) : M V); let vs ← (do let v ← (do let vs ← (do let v ← (getv "heap"); let vs ← (do let v ← (getv "item"); let vs ← (pure [] : M (List V)); pure (v :: vs)); pure (v :: vs)); callF f_heappush vs); let vs ← (pure [] : M (List V)); pure (v :: vs)); pure (v :: vs)); mkT vs); pure (.ret v) : M Fl)
noncomputable def law_call_s2 : M Fl := (seqM (do if (← (do let a ← (getv "call"); let b ← (pure (V.int 4) : M V); let c ← eqV a b; truV c)) = true then (do let v ← (do let vs ← (do let v ← (pure (V.str (Str.ofString "told")) : M V); let vs ← (do let v ← (do let vs ← (do let v ← (getv "heap"); let vs ← (do let v ← (getv "item"); let vs ← (pure [] : M (List V)); pure (v :: vs)); pure (v :: vs)); callF f_heapreplace vs); let vs ← (pure [] : M (List V)); pure (v :: vs)); pure (v :: vs)); mkT vs); pure (.ret v) : M Fl) else (pure .next : M Fl) : M Fl) law_call_s1)
noncomputable def law_call_s3 : M Fl := (seqM (do if (← (do let a ← (getv "call"); let b ← (pure (V.int 3) : M V); let c ← eqV a b; truV c)) = true then (do let v ← (do let vs ← (do let v ← (pure (V.str (Str.ofString "told")) : M V); let vs ← (do let v ← (do let vs ← (do let v ← (getv "heap"); let vs ← (do let v ← (getv "item"); let vs ← (pure [] : M (List V)); pure (v :: vs)); pure (v :: vs)); callF f_heappushpop vs); let vs ← (pure [] : M (List V)); pure (v :: vs)); pure (v :: vs)); mkT vs); pure (.ret v) : M Fl) else (pure .next : M Fl) : M Fl) law_call_s2)
noncomputable def law_call_t4_b : M Fl := (seqM (do if (← (do let a ← (getv "call"); let b ← (pure (V.int 2) : M V); let c ← eqV a b; truV c)) = true then (do let v ← (do let vs ← (do let v ← (pure (V.str (Str.ofString "told")) : M V); let vs ← (do let v ← (do let vs ← (do let v ← (getv "heap"); let vs ← (pure [] : M (List V)); pure (v :: vs)); callF f_heappop vs); let vs ← (pure [] : M (List V)); pure (v :: vs)); pure (v :: vs)); mkT vs); pure (.ret v) : M Fl) else (pure .next : M Fl) : M Fl) law_call_s3)
noncomputable def law_call_h5 (msg : Str) : M Fl := (do let v ← (do let vs ← (do let v ← (pure (V.str (Str.ofString "empty")) : M V); let vs ← (do let v ← (pure (V.str msg) : M V); let vs ← (pure [] : M (List V)); pure (v :: vs)); pure (v :: vs)); mkT vs); pure (.ret v) : M Fl)
noncomputable def law_call_h6 (msg : Str) : M Fl := (do let v ← (do let vs ← (do let v ← (pure (V.str (Str.ofString "kinds")) : M V); let vs ← (do let v ← (pure (V.str msg) : M V); let vs ← (pure [] : M (List V)); pure (v :: vs)); pure (v :: vs)); mkT vs); pure (.ret v) : M Fl)
noncomputable def law_call_m : M Fl := (tryM law_call_t4_b (hndM "TypeError" "fault" law_call_h6 (hndM "IndexError" "fault" law_call_h5 noH)))
noncomputable def f_law_call : Fun := funM ["heap", "call", "item"] law_call_m
noncomputable def law_call_r : DefRec := recAt prg 9
theorem has_f_law_call {K : Glo} (hp : ∀ d ∈ recsOf prg, d ∈ recsOf K.p) (hfree : ∀ x ∈ bltNames, K.mg (Str.ofString x) = none) (hheappop : HasF K "heappop" 3 f_heappop) (hheappush : HasF K "heappush" 2 f_heappush) (hheappushpop : HasF K "heappushpop" 3 f_heappushpop) (hheapreplace : HasF K "heapreplace" 3 f_heapreplace) : HasF K "_law_call" 4 f_law_call := by
  refine hasF_of (d := law_call_r) (lvl := 3) (hp _ (List.mem_iff_getElem?.mpr ⟨7, by kernel_rfl⟩)) (by kernel_rfl) (by kernel_rfl) (by kernel_rfl) (by kernel_rfl) (by decide) ?_ ?_ ?_
  · intro pm code doc ws h
    obtain ⟨a0, a1, a2, rfl⟩ := len3 h
    rfl
  · intro n y hy
    simp only [List.mem_cons, List.not_mem_nil, or_false] at hy
    rcases hy with rfl | rfl | rfl
    · exact .inl (by kernel_rfl)
    · exact .inl (by kernel_rfl)
    · exact .inl (by kernel_rfl)
  · intro pm code doc L fa A hr fk
    show SimSs K _ _ law_call_m
    exact (simSs_one (simS_try fk (simSs_cons (simS_if _ (simB_cmp fk cmp_eq tru_ok _ (simE_name fk "call" _) (simE_int 2 _ _)) (simSs_one (simS_return _ (simE_tuple _ _ (simEs_cons (simE_str _ _ _) (simEs_cons (simE_callF fk hheappop (hr.le (by decide)) (simEs_cons (simE_name fk "heap" _) simEs_nil)) simEs_nil))))) simSs_nil) (simSs_cons (simS_if _ (simB_cmp fk cmp_eq tru_ok _ (simE_name fk "call" _) (simE_int 3 _ _)) (simSs_one (simS_return _ (simE_tuple _ _ (simEs_cons (simE_str _ _ _) (simEs_cons (simE_callF fk hheappushpop (hr.le (by decide)) (simEs_cons (simE_name fk "heap" _) (simEs_cons (simE_name fk "item" _) simEs_nil))) simEs_nil))))) simSs_nil) (simSs_cons (simS_if _ (simB_cmp fk cmp_eq tru_ok _ (simE_name fk "call" _) (simE_int 4 _ _)) (simSs_one (simS_return _ (simE_tuple _ _ (simEs_cons (simE_str _ _ _) (simEs_cons (simE_callF fk hheapreplace (hr.le (by decide)) (simEs_cons (simE_name fk "heap" _) (simEs_cons (simE_name fk "item" _) simEs_nil))) simEs_nil))))) simSs_nil) (simSs_one (simS_return _ (simE_tuple _ _ (simEs_cons (simE_str _ _ _) (simEs_cons (simE_callF fk hheappush (hr.le (by decide)) (simEs_cons (simE_name fk "heap" _) (simEs_cons (simE_name fk "item" _) simEs_nil))) simEs_nil)))))))) (simHs_as fk excT_TypeError (by kernel_rfl) (hfree "TypeError" (by decide)) (by kernel_rfl) (by kernel_rfl) (fun v msg => (simSsX_one (simSX_return_tuple _ _ _ (simEsX_cons (simEX_str _ _ _) (simEsX_cons (simEX_strOf (fk.h v) PySem.F.excStr_TypeError (by kernel_rfl) (hfree "str" (by decide)) (by kernel_rfl)) simEsX_nil))))) (simHs_as fk excT_IndexError (by kernel_rfl) (hfree "IndexError" (by decide)) (by kernel_rfl) (by kernel_rfl) (fun v msg => (simSsX_one (simSX_return_tuple _ _ _ (simEsX_cons (simEX_str _ _ _) (simEsX_cons (simEX_strOf (fk.h v) PySem.F.excStr_IndexError (by kernel_rfl) (hfree "str" (by decide)) (by kernel_rfl)) simEsX_nil))))) simHs_nil))))

/-! _law_sorted -/
noncomputable def law_sorted_s1 : M Fl := (do let v ← (do let vs ← (do let v ← (pure (V.str (Str.ofString "told")) : M V); let vs ← (do let v ← (getv "least"); let vs ← (pure [] : M (List V)); pure (v :: vs)); pure (v :: vs)); mkT vs); pure (.ret v) : M Fl)
noncomputable def law_sorted_s2 : M Fl := (seqM (do if (← (do let a ← (getv "call"); let b ← (pure (V.int 3) : M V); let c ← eqV a b; truV c)) = true then (do let v ← (do let ov ← (getv "kept"); chkL ov; let vs ← (do let v ← (pure (V.int 0) : M V); let vs ← (pure [] : M (List V)); pure (v :: vs)); popG ov vs); (fun v => setv "least" v) v; pure .next : M Fl) else (pure .next : M Fl) : M Fl) law_sorted_s1)
noncomputable def law_sorted_s3 : M Fl := (seqM (do let _ ← (do let ov ← (getv "kept"); chkL ov; let vs ← (pure [] : M (List V)); sortG ov vs); pure .next : M Fl) law_sorted_s2)
noncomputable def law_sorted_s4 : M Fl := (seqM (do let _ ← (do let ov ← (getv "kept"); chkL ov; let vs ← (do let v ← (getv "item"); let vs ← (pure [] : M (List V)); pure (v :: vs)); appendG ov vs); pure .next : M Fl) law_sorted_s3)
noncomputable def law_sorted_s5 : M Fl := (seqM (do if (← (do let a ← (getv "call"); let b ← (pure (V.int 4) : M V); let c ← eqV a b; truV c)) = true then (do let v ← (do let ov ← (getv "kept"); chkL ov; let vs ← (do let v ← (pure (V.int 0) : M V); let vs ← (pure [] : M (List V)); pure (v :: vs)); popG ov vs); (fun v => setv "least" v) v; pure .next : M Fl) else (pure .next : M Fl) : M Fl) law_sorted_s4)
noncomputable def law_sorted_s6 : M Fl := (seqM (do let v ← (pure V.none : M V); (fun v => setv "least" v) v; pure .next : M Fl) law_sorted_s5)
noncomputable def law_sorted_s7 : M Fl := (seqM (do if (← (do if (← (do let a ← (getv "call"); let b ← (pure (V.int 4) : M V); let c ← eqV a b; truV c)) = true then (do if (← (do let a ← (getv "kept"); let b ← (do let vs ← (pure [] : M (List V)); newL vs); let c ← eqV a b; truV c)) = true then (pure true : M Bool) else pure false) else pure false)) = true then (do let v ← (do let vs ← (do let v ← (pure (V.str (Str.ofString "empty")) : M V); let vs ← (do let v ← (pure (V.str (Str.ofString "list index out of range")) : M V); let vs ← (pure [] : M (List V)); pure (v :: vs)); pure (v :: vs)); mkT vs); pure (.ret v) : M Fl) else (pure .next : M Fl) : M Fl) law_sorted_s6)
noncomputable def law_sorted_m : M Fl := (seqM (do if (← (do let a ← (getv "call"); let b ← (pure (V.int 2) : M V); let c ← eqV a b; truV c)) = true then (do let v ← (do if (← (do let a ← (getv "kept"); let b ← (do let vs ← (pure [] : M (List V)); newL vs); let c ← neV a b; truV c)) = true then (do let vs ← (do let v ← (pure (V.str (Str.ofString "told")) : M V); let vs ← (do let v ← (do let ov ← (getv "kept"); chkL ov; let vs ← (do let v ← (pure (V.int 0) : M V); let vs ← (pure [] : M (List V)); pure (v :: vs)); popG ov vs); let vs ← (pure [] : M (List V)); pure (v :: vs)); pure (v :: vs)); mkT vs) else (do let vs ← (do let v ← (pure (V.str (Str.ofString "empty")) : M V); let vs ← (do let v ← (pure (V.str (Str.ofString "pop from empty list")) : M V); let vs ← (pure [] : M (List V)); pure (v :: vs)); pure (v :: vs)); mkT vs)); pure (.ret v) : M Fl) else (pure .next : M Fl) : M Fl) law_sorted_s7)
noncomputable def f_law_sorted : Fun := funM ["kept", "call", "item"] law_sorted_m
noncomputable def law_sorted_r : DefRec := recAt prg 10
theorem has_f_law_sorted {K : Glo} (hp : ∀ d ∈ recsOf prg, d ∈ recsOf K.p) (hfree : ∀ x ∈ bltNames, K.mg (Str.ofString x) = none) : HasF K "_law_sorted" 1 f_law_sorted := by
  refine hasF_of (d := law_sorted_r) (lvl := 0) (hp _ (List.mem_iff_getElem?.mpr ⟨8, by kernel_rfl⟩)) (by kernel_rfl) (by kernel_rfl) (by kernel_rfl) (by kernel_rfl) (by decide) ?_ ?_ ?_
  · intro pm code doc ws h
    obtain ⟨a0, a1, a2, rfl⟩ := len3 h
    rfl
  · intro n y hy
    simp only [List.mem_cons, List.not_mem_nil, or_false] at hy
    rcases hy with rfl | rfl | rfl
    · exact .inl (by kernel_rfl)
    · exact .inl (by kernel_rfl)
    · exact .inl (by kernel_rfl)
  · intro pm code doc L fa A hr fk
    show SimSs K _ _ law_sorted_m
    exact (simSs_cons (simS_if _ (simB_cmp fk cmp_eq tru_ok _ (simE_name fk "call" _) (simE_int 2 _ _)) (simSs_one (simS_return _ (simE_ite _ (simB_cmp fk cmp_ne tru_ok _ (simE_name fk "kept" _) (simE_list _ simEs_nil)) (simE_tuple _ _ (simEs_cons (simE_str _ _ _) (simEs_cons (simE_meth fk PySem.F.slot_list_pop PySem.F.type_list_pop (simE_name fk "kept" _) (simEs_cons (simE_int 0 _ _) simEs_nil) meth_pop) simEs_nil))) (simE_tuple _ _ (simEs_cons (simE_str _ _ _) (simEs_cons (simE_str _ _ _) simEs_nil)))))) simSs_nil) (simSs_cons (simS_if _ (simB_boolop _ (simAll_and (simB_cmp fk cmp_eq tru_ok _ (simE_name fk "call" _) (simE_int 4 _ _)) (simAll_and (simB_cmp fk cmp_eq tru_ok _ (simE_name fk "kept" _) (simE_list _ simEs_nil)) simAll_and_nil))) (simSs_one (simS_return _ (simE_tuple _ _ (simEs_cons (simE_str _ _ _) (simEs_cons (simE_str _ _ _) simEs_nil))))) simSs_nil) (simSs_cons (simS_assign _ (simT_local "least" _ fk (by kernel_rfl)) (simE_none _ _)) (simSs_cons (simS_if _ (simB_cmp fk cmp_eq tru_ok _ (simE_name fk "call" _) (simE_int 4 _ _)) (simSs_one (simS_assign _ (simT_local "least" _ fk (by kernel_rfl)) (simE_meth fk PySem.F.slot_list_pop PySem.F.type_list_pop (simE_name fk "kept" _) (simEs_cons (simE_int 0 _ _) simEs_nil) meth_pop))) simSs_nil) (simSs_cons (simS_expr fk _ (simE_meth fk PySem.F.slot_list_append PySem.F.type_list_append (simE_name fk "kept" _) (simEs_cons (simE_name fk "item" _) simEs_nil) meth_append)) (simSs_cons (simS_expr fk _ (simE_meth fk PySem.F.slot_list_sort PySem.F.type_list_sort (simE_name fk "kept" _) simEs_nil meth_sort)) (simSs_cons (simS_if _ (simB_cmp fk cmp_eq tru_ok _ (simE_name fk "call" _) (simE_int 3 _ _)) (simSs_one (simS_assign _ (simT_local "least" _ fk (by kernel_rfl)) (simE_meth fk PySem.F.slot_list_pop PySem.F.type_list_pop (simE_name fk "kept" _) (simEs_cons (simE_int 0 _ _) simEs_nil) meth_pop))) simSs_nil) (simSs_one (simS_return _ (simE_tuple _ _ (simEs_cons (simE_str _ _ _) (simEs_cons (simE_name fk "least" _) simEs_nil))))))))))))

/-! _law_meet -/
noncomputable def law_meet_c1_t : V → M Unit := (fun v => setv "x" v)
noncomputable def law_meet_c1_i : M Bool := (pure true : M Bool)
noncomputable def law_meet_c1_e (l : Nat) : M Unit := (do let v ← (do if (← (do let v ← (do let v ← (getv "x"); isStrV v); truV v)) = true then (pure (V.str (Str.ofString "str")) : M V) else (pure (V.str (Str.ofString "int")) : M V)); appendAt l v)
noncomputable def law_meet_c1 (l : Nat) (nxt : S → Nat → Option (Option V)) : M Unit := loopC 4096 law_meet_c1_t law_meet_c1_i (law_meet_c1_e l) nxt
noncomputable def law_meet_s2 : M Fl := (do let v ← (do let vs ← (do let v ← (pure (V.str (Str.ofString "kinds")) : M V); let vs ← (do let v ← (do let a ← (do let a ← (do let a ← (do let a ← (pure (V.str (Str.ofString "'<' not supported between instances of '")) : M V); let b ← (do let o ← (getv "names"); let i ← (pure (V.int 0) : M V); getI o i); addS a b); let b ← (pure (V.str (Str.ofString "' and '")) : M V); addS a b); let b ← (do let o ← (getv "names"); let i ← (pure (V.int 1) : M V); getI o i); addS a b); let b ← (pure (V.str (Str.ofString "'")) : M V); addS a b); let vs ← (pure [] : M (List V)); pure (v :: vs)); pure (v :: vs)); mkT vs); pure (.ret v) : M Fl)
noncomputable def law_meet_m : M Fl := (seqM (do let v ← ((do let vs ← (do let v ← (getv "one"); let vs ← (do let v ← (getv "other"); let vs ← (pure [] : M (List V)); pure (v :: vs)); pure (v :: vs)); mkT vs) >>= compTail [] law_meet_c1); (fun v => setv "names" v) v; pure .next : M Fl) law_meet_s2)
noncomputable def f_law_meet : Fun := funM ["one", "other"] law_meet_m
noncomputable def law_meet_r : DefRec := recAt prg 11
theorem has_f_law_meet {K : Glo} (hp : ∀ d ∈ recsOf prg, d ∈ recsOf K.p) (hfree : ∀ x ∈ bltNames, K.mg (Str.ofString x) = none) : HasF K "_law_meet" 1 f_law_meet := by
  refine hasF_of (d := law_meet_r) (lvl := 0) (hp _ (List.mem_iff_getElem?.mpr ⟨9, by kernel_rfl⟩)) (by kernel_rfl) (by kernel_rfl) (by kernel_rfl) (by kernel_rfl) (by decide) ?_ ?_ ?_
  · intro pm code doc ws h
    obtain ⟨a0, a1, rfl⟩ := len2 h
    rfl
  · intro n y hy
    simp only [List.mem_cons, List.not_mem_nil, or_false] at hy
    rcases hy with rfl | rfl
    · exact .inl (by kernel_rfl)
    · exact .inl (by kernel_rfl)
  · intro pm code doc L fa A hr fk
    show SimSs K _ _ law_meet_m
    exact (simSs_cons (simS_assign_comp fk ⟨rfl, rfl, by decide +kernel, by decide +kernel, (by intro x hx; cases hx), (by intro x c h; cases h)⟩ (simT_local "names" _ fk (by kernel_rfl)) (simE_tuple _ _ (simEs_cons (simE_name fk "one" _) (simEs_cons (simE_name fk "other" _) simEs_nil))) (fun C => clauses_of 4096 rfl (fun acc => turn_end rfl rfl (test := none) rfl) (simT_local "x" _ (FOk.comp fk rfl) (by kernel_rfl)) simTest_none (fun l a => simA_emit (FOk.comp fk rfl) (simE_ite _ (simB_val (FOk.comp fk rfl) tru_ok (simE_isStr (FOk.comp fk rfl) (by kernel_rfl) (hfree "isinstance" (by decide)) (by kernel_rfl) (hfree "str" (by decide)) (simE_name (FOk.comp fk rfl) "x" _))) (simE_str _ _ _) (simE_str _ _ _)) l a))) (simSs_one (simS_return _ (simE_tuple _ _ (simEs_cons (simE_str _ _ _) (simEs_cons (simE_bin fk bin_addS _ (simE_bin fk bin_addS _ (simE_bin fk bin_addS _ (simE_bin fk bin_addS _ (simE_str _ _ _) (simE_sub fk _ (simE_name fk "names" _) (simE_int 0 _ _))) (simE_str _ _ _)) (simE_sub fk _ (simE_name fk "names" _) (simE_int 1 _ _))) (simE_str _ _ _)) simEs_nil))))))

/-! _law_lost -/
noncomputable def law_lost_s1 : M Fl := (do let v ← (getv "over"); (fun v => setv "place" v) v; pure .next : M Fl)
noncomputable def law_lost_s2 : M Fl := (seqM (do if (← (do if (← (do let a ← (do let a ← (getv "left"); let b ← (pure (V.int 1) : M V); addS a b); let b ← (do let vs ← (do let v ← (getv "before"); let vs ← (pure [] : M (List V)); pure (v :: vs)); lenB vs); let c ← ltV a b; truV c)) = true then (do if (← (do let a ← (do let a ← (do let o ← (getv "before"); let i ← (getv "left"); getI o i); let b ← (do let o ← (getv "before"); let i ← (do let a ← (getv "left"); let b ← (pure (V.int 1) : M V); addS a b); getI o i); ltV a b); let b ← (do let a ← (getv "place"); let b ← (getv "left"); eqV a b); let c ← neV a b; truV c)) = true then (pure true : M Bool) else pure false) else pure false)) = true then (do let v ← (pure (V.bool false) : M V); pure (.ret v) : M Fl) else (pure .next : M Fl) : M Fl) law_lost_s1)
noncomputable def law_lost_s3 : M Fl := (seqM (do let v ← (do let a ← (do let a ← (pure (V.int 2) : M V); let b ← (getv "over"); mulV a b); let b ← (pure (V.int 1) : M V); addS a b); (fun v => setv "left" v) v; pure .next : M Fl) law_lost_s2)
noncomputable def law_lost_s4 : M Fl := (seqM (do let v ← (do let o ← (getv "before"); let i ← (getv "place"); getI o i); (fun v => do let a ← (getv "due"); let b ← (getv "over"); setI a b v) v; pure .next : M Fl) law_lost_s3)
noncomputable def law_lost_w5_c : M Bool := (do let a ← (getv "place"); let b ← (pure (V.int 0) : M V); let c ← gtV a b; truV c)
noncomputable def law_lost_w5_b : M Fl := (seqM (do let v ← (do let a ← (do let a ← (getv "place"); let b ← (pure (V.int 1) : M V); subV a b); let b ← (pure (V.int 2) : M V); fdivV a b); (fun v => setv "over" v) v; pure .next : M Fl) law_lost_s4)
noncomputable def law_lost_s6 : M Fl := (do let v ← (do let a ← (getv "heap"); let b ← (getv "due"); eqV a b); pure (.ret v) : M Fl)
noncomputable def law_lost_s7 : M Fl := (seqM (whileM law_lost_w5_c law_lost_w5_b 4096) law_lost_s6)
noncomputable def law_lost_s8 : M Fl := (seqM (do let v ← (getv "item"); (fun v => do let a ← (getv "due"); let b ← (getv "place"); setI a b v) v; pure .next : M Fl) law_lost_s7)
noncomputable def law_lost_s9 : M Fl := (seqM (do let v ← (do let vs ← (do let v ← (getv "before"); let vs ← (pure [] : M (List V)); pure (v :: vs)); listB vs); (fun v => setv "due" v) v; pure .next : M Fl) law_lost_s8)
noncomputable def law_lost_s10 : M Fl := (seqM (do let v ← (do let o ← (getv "places"); let i ← (pure (V.int 0) : M V); getI o i); (fun v => setv "place" v) v; pure .next : M Fl) law_lost_s9)
noncomputable def law_lost_c11_t : V → M Unit := (fun v => setv "k" v)
noncomputable def law_lost_c11_i : M Bool := (do let a ← (do let v ← (do let o ← (getv "heap"); let i ← (getv "k"); getI o i); isStrV v); let b ← (do let v ← (getv "item"); isStrV v); let c ← eqV a b; truV c)
noncomputable def law_lost_c11_e (l : Nat) : M Unit := (do let v ← (getv "k"); appendAt l v)
noncomputable def law_lost_c11 (l : Nat) (nxt : S → Nat → Option (Option V)) : M Unit := loopC 4096 law_lost_c11_t law_lost_c11_i (law_lost_c11_e l) nxt
noncomputable def law_lost_s12 : M Fl := (seqM (do if (← (do if (← (do let a ← (do let vs ← (do let v ← (getv "heap"); let vs ← (pure [] : M (List V)); pure (v :: vs)); lenB vs); let b ← (do let vs ← (do let v ← (getv "before"); let vs ← (pure [] : M (List V)); pure (v :: vs)); lenB vs); let c ← neV a b; truV c)) = true then pure true else (do if (← (do let a ← (do let vs ← (do let v ← (getv "places"); let vs ← (pure [] : M (List V)); pure (v :: vs)); lenB vs); let b ← (pure (V.int 1) : M V); let c ← neV a b; truV c)) = true then pure true else (do if (← (do let a ← (do let a ← (do let a ← (pure (V.int 2) : M V); let b ← (do let o ← (getv "places"); let i ← (pure (V.int 0) : M V); getI o i); mulV a b); let b ← (pure (V.int 1) : M V); addS a b); let b ← (do let vs ← (do let v ← (getv "heap"); let vs ← (pure [] : M (List V)); pure (v :: vs)); lenB vs); let c ← ltV a b; truV c)) = true then pure true else (pure false : M Bool))))) = true then (do let v ← (pure (V.bool false) : M V); pure (.ret v) : M Fl) else (pure .next : M Fl) : M Fl) law_lost_s10)
noncomputable def law_lost_m : M Fl := (seqM (do let v ← ((do let vs ← (do let v ← (do let vs ← (do let v ← (getv "heap"); let vs ← (pure [] : M (List V)); pure (v :: vs)); lenB vs); let vs ← (pure [] : M (List V)); pure (v :: vs)); rangeB vs) >>= compTail ["heap", "item"] law_lost_c11); (fun v => setv "places" v) v; pure .next : M Fl) law_lost_s12)
noncomputable def f_law_lost : Fun := funM ["before", "heap", "item"] law_lost_m
noncomputable def law_lost_r : DefRec := recAt prg 12
theorem has_f_law_lost {K : Glo} (hp : ∀ d ∈ recsOf prg, d ∈ recsOf K.p) (hfree : ∀ x ∈ bltNames, K.mg (Str.ofString x) = none) : HasF K "_law_lost" 1 f_law_lost := by
  refine hasF_of (d := law_lost_r) (lvl := 0) (hp _ (List.mem_iff_getElem?.mpr ⟨10, by kernel_rfl⟩)) (by kernel_rfl) (by kernel_rfl) (by kernel_rfl) (by kernel_rfl) (by decide) ?_ ?_ ?_
  · intro pm code doc ws h
    obtain ⟨a0, a1, a2, rfl⟩ := len3 h
    rfl
  · intro n y hy
    simp only [List.mem_cons, List.not_mem_nil, or_false] at hy
    rcases hy with rfl | rfl | rfl
    · exact .inl (by kernel_rfl)
    · exact .inr ⟨by kernel_rfl, rfl⟩
    · exact .inr ⟨by kernel_rfl, rfl⟩
  · intro pm code doc L fa A hr fk
    show SimSs K _ _ law_lost_m
    exact (simSs_cons (simS_assign_comp fk ⟨rfl, rfl, by decide +kernel, by decide +kernel, (by intro x hx; simp only [List.mem_cons, List.not_mem_nil, or_false] at hx; rcases hx with rfl | rfl <;> exact ⟨by first | exact .inl (by rfl) | exact .inr (by rfl), kne_cell (by kernel_rfl), fun c h => h⟩), (ck_cells (ck_cons rfl (ck_cons rfl ck_nil)))⟩ (simT_local "places" _ fk (by kernel_rfl)) (simE_callB fk rfl (by kernel_rfl) (hfree "range" (by decide)) (by kernel_rfl) built_range (simEs_cons (simE_callB fk rfl (by kernel_rfl) (hfree "len" (by decide)) (by kernel_rfl) built_len (simEs_cons (simE_name fk "heap" _) simEs_nil)) simEs_nil)) (fun C => clauses_of 4096 rfl (fun acc => turn_end rfl rfl (test := (some _)) rfl) (simT_local "k" _ (FOk.comp fk rfl) (by kernel_rfl)) (simTest_some (simB_cmp (FOk.comp fk rfl) cmp_eq tru_ok _ (simE_isStr (FOk.comp fk rfl) (by kernel_rfl) (hfree "isinstance" (by decide)) (by kernel_rfl) (hfree "str" (by decide)) (simE_sub (FOk.comp fk rfl) _ (simE_name (FOk.comp fk rfl) "heap" _) (simE_name (FOk.comp fk rfl) "k" _))) (simE_isStr (FOk.comp fk rfl) (by kernel_rfl) (hfree "isinstance" (by decide)) (by kernel_rfl) (hfree "str" (by decide)) (simE_name (FOk.comp fk rfl) "item" _)))) (fun l a => simA_emit (FOk.comp fk rfl) (simE_name (FOk.comp fk rfl) "k" _) l a))) (simSs_cons (simS_if _ (simB_boolop _ (simAll_or (simB_cmp fk cmp_ne tru_ok _ (simE_callB fk rfl (by kernel_rfl) (hfree "len" (by decide)) (by kernel_rfl) built_len (simEs_cons (simE_name fk "heap" _) simEs_nil)) (simE_callB fk rfl (by kernel_rfl) (hfree "len" (by decide)) (by kernel_rfl) built_len (simEs_cons (simE_name fk "before" _) simEs_nil))) (simAll_or (simB_cmp fk cmp_ne tru_ok _ (simE_callB fk rfl (by kernel_rfl) (hfree "len" (by decide)) (by kernel_rfl) built_len (simEs_cons (simE_name fk "places" _) simEs_nil)) (simE_int 1 _ _)) (simAll_or (simB_cmp fk cmp_lt tru_ok _ (simE_bin fk bin_addS _ (simE_bin fk bin_mul _ (simE_int 2 _ _) (simE_sub fk _ (simE_name fk "places" _) (simE_int 0 _ _))) (simE_int 1 _ _)) (simE_callB fk rfl (by kernel_rfl) (hfree "len" (by decide)) (by kernel_rfl) built_len (simEs_cons (simE_name fk "heap" _) simEs_nil))) simAll_or_nil)))) (simSs_one (simS_return _ (simE_bool false _ _))) simSs_nil) (simSs_cons (simS_assign _ (simT_local "place" _ fk (by kernel_rfl)) (simE_sub fk _ (simE_name fk "places" _) (simE_int 0 _ _))) (simSs_cons (simS_assign _ (simT_local "due" _ fk (by kernel_rfl)) (simE_callB fk rfl (by kernel_rfl) (hfree "list" (by decide)) (by kernel_rfl) built_list (simEs_cons (simE_name fk "before" _) simEs_nil))) (simSs_cons (simS_assign _ (simT_sub fk _ (simE_name fk "due" _) (simE_name fk "place" _)) (simE_name fk "item" _)) (simSs_cons (simS_while _ 4096 (simB_cmp fk cmp_gt tru_ok _ (simE_name fk "place" _) (simE_int 0 _ _)) (simSs_cons (simS_assign _ (simT_local "over" _ fk (by kernel_rfl)) (simE_bin fk bin_fdiv _ (simE_bin fk bin_sub _ (simE_name fk "place" _) (simE_int 1 _ _)) (simE_int 2 _ _))) (simSs_cons (simS_assign _ (simT_sub fk _ (simE_name fk "due" _) (simE_name fk "over" _)) (simE_sub fk _ (simE_name fk "before" _) (simE_name fk "place" _))) (simSs_cons (simS_assign _ (simT_local "left" _ fk (by kernel_rfl)) (simE_bin fk bin_addS _ (simE_bin fk bin_mul _ (simE_int 2 _ _) (simE_name fk "over" _)) (simE_int 1 _ _))) (simSs_cons (simS_if _ (simB_boolop _ (simAll_and (simB_cmp fk cmp_lt tru_ok _ (simE_bin fk bin_addS _ (simE_name fk "left" _) (simE_int 1 _ _)) (simE_callB fk rfl (by kernel_rfl) (hfree "len" (by decide)) (by kernel_rfl) built_len (simEs_cons (simE_name fk "before" _) simEs_nil))) (simAll_and (simB_cmp fk cmp_ne tru_ok _ (simE_cmp fk cmp_lt _ (simE_sub fk _ (simE_name fk "before" _) (simE_name fk "left" _)) (simE_sub fk _ (simE_name fk "before" _) (simE_bin fk bin_addS _ (simE_name fk "left" _) (simE_int 1 _ _)))) (simE_cmp fk cmp_eq _ (simE_name fk "place" _) (simE_name fk "left" _))) simAll_and_nil))) (simSs_one (simS_return _ (simE_bool false _ _))) simSs_nil) (simSs_one (simS_assign _ (simT_local "place" _ fk (by kernel_rfl)) (simE_name fk "over" _)))))))) (simSs_one (simS_return _ (simE_cmp fk cmp_eq _ (simE_name fk "heap" _) (simE_name fk "due" _))))))))))

/-! law -/
noncomputable def law_c1_t : V → M Unit := (fun v => setv "one" v)
noncomputable def law_c1_i : M Bool := (pure true : M Bool)
noncomputable def law_c1_e (l : Nat) : M Unit := (do let v ← (do let vs ← (do let v ← (getv "heap"); let vs ← (pure [] : M (List V)); pure (v :: vs)); callF f_heappop vs); appendAt l v)
noncomputable def law_c1 (l : Nat) (nxt : S → Nat → Option (Option V)) : M Unit := loopC 4096 law_c1_t law_c1_i (law_c1_e l) nxt
noncomputable def law_s2 : M Fl := (do let _ ← (do let ov ← (getv "kept"); chkL ov; let vs ← (do let v ← (pure (V.int 0) : M V); let vs ← (pure [] : M (List V)); pure (v :: vs)); popG ov vs); pure .next : M Fl)
noncomputable def law_c3_t : V → M Unit := (fun v => setv "one" v)
noncomputable def law_c3_i : M Bool := (do let a ← (do let v ← (getv "one"); isStrV v); let b ← (do let v ← (getv "item"); isStrV v); let c ← neV a b; truV c)
noncomputable def law_c3_e (l : Nat) : M Unit := (do let v ← (getv "one"); appendAt l v)
noncomputable def law_c3 (l : Nat) (nxt : S → Nat → Option (Option V)) : M Unit := loopC 4096 law_c3_t law_c3_i (law_c3_e l) nxt
noncomputable def law_s4 : M Fl := (seqM (do let _ ← (do let vs ← (do let v ← (getv "heap"); let vs ← (pure [] : M (List V)); pure (v :: vs)); callF f_heapify vs); pure .next : M Fl) law_s2)
noncomputable def law_s5 : M Fl := (seqM (do let v ← ((getv "heap") >>= compTail ["item"] law_c3); (fun v => setv "heap" v) v; pure .next : M Fl) law_s4)
noncomputable def law_s6 : M Fl := (pure .cont : M Fl)
noncomputable def law_s7 : M Fl := (seqM (do let v ← (do let vs ← (do let v ← (getv "item"); let vs ← (pure [] : M (List V)); pure (v :: vs)); newL vs); (fun v => setv "kept" v) v; pure .next : M Fl) law_s6)
noncomputable def law_s8 : M Fl := (do if (← (do let a ← (getv "told"); let b ← (do let vs ← (do let v ← (getv "item"); let vs ← (do let v ← (do let o ← (getv "before"); let i ← (pure (V.int 0) : M V); getI o i); let vs ← (pure [] : M (List V)); pure (v :: vs)); pure (v :: vs)); callF f_law_meet vs); let c ← neV a b; truV c)) = true then (do let v ← (pure (V.bool false) : M V); pure (.ret v) : M Fl) else (pure .next : M Fl) : M Fl)
noncomputable def law_s9 : M Fl := (seqM (do if (← (do let a ← (do let vs ← (do let v ← (getv "before"); let vs ← (pure [] : M (List V)); pure (v :: vs)); lenB vs); let b ← (pure (V.int 1) : M V); let c ← eqV a b; truV c)) = true then (seqM (do if (← (do if (← (do let a ← (getv "told"); let b ← (do let vs ← (do let v ← (pure (V.str (Str.ofString "told")) : M V); let vs ← (do let v ← (do let o ← (getv "before"); let i ← (pure (V.int 0) : M V); getI o i); let vs ← (pure [] : M (List V)); pure (v :: vs)); pure (v :: vs)); mkT vs); let c ← neV a b; truV c)) = true then pure true else (do if (← (do let a ← (getv "heap"); let b ← (do let vs ← (do let v ← (getv "item"); let vs ← (pure [] : M (List V)); pure (v :: vs)); newL vs); let c ← neV a b; truV c)) = true then pure true else (pure false : M Bool)))) = true then (do let v ← (pure (V.bool false) : M V); pure (.ret v) : M Fl) else (pure .next : M Fl) : M Fl) law_s7) else (pure .next : M Fl) : M Fl) law_s8)
noncomputable def law_s10 : M Fl := (pure .cont : M Fl)
noncomputable def law_s11 : M Fl := (seqM (do let v ← (do let vs ← (do let v ← (getv "heap"); let vs ← (do let v ← (pure (V.int 2) : M V); let vs ← (do let v ← (getv "item"); let vs ← (pure [] : M (List V)); pure (v :: vs)); pure (v :: vs)); pure (v :: vs)); callF f_law_call vs); (fun v => setv "told" v) v; pure .next : M Fl) law_s9)
noncomputable def law_s12 : M Fl := (seqM (do if (← (do let a ← (do let a ← (getv "own"); let b ← (pure (V.int 2) : M V); fmodV a b); let b ← (pure (V.int 0) : M V); let c ← eqV a b; truV c)) = true then (seqM (do let _ ← (do let ov ← (getv "heap"); chkL ov; let vs ← (pure [] : M (List V)); popG ov vs); pure .next : M Fl) law_s10) else (pure .next : M Fl) : M Fl) law_s11)
noncomputable def law_s13 : M Fl := (seqM (do if (← (do let b ← (do let v ← (do let vs ← (do let v ← (getv "before"); let vs ← (do let v ← (getv "heap"); let vs ← (do let v ← (getv "item"); let vs ← (pure [] : M (List V)); pure (v :: vs)); pure (v :: vs)); pure (v :: vs)); callF f_law_lost vs); truV v); pure (!b))) = true then (do let v ← (pure (V.bool false) : M V); pure (.ret v) : M Fl) else (pure .next : M Fl) : M Fl) law_s5)
noncomputable def law_s14 : M Fl := (pure .cont : M Fl)
noncomputable def law_s15 : M Fl := (seqM (do if (← (do let a ← (getv "call"); let b ← (pure (V.int 2) : M V); let c ← ltV a b; truV c)) = true then (seqM (do if (← (do let a ← (getv "heap"); let b ← (do let a ← (getv "before"); let b ← (do let vs ← (do let v ← (getv "item"); let vs ← (pure [] : M (List V)); pure (v :: vs)); newL vs); addS a b); let c ← neV a b; truV c)) = true then (do let v ← (pure (V.bool false) : M V); pure (.ret v) : M Fl) else (pure .next : M Fl) : M Fl) law_s12) else (pure .next : M Fl) : M Fl) law_s13)
noncomputable def law_s16 : M Fl := (seqM (do if (← (do let a ← (getv "call"); let b ← (pure (V.int 3) : M V); let c ← eqV a b; truV c)) = true then (seqM (do if (← (do let a ← (getv "heap"); let b ← (getv "before"); let c ← neV a b; truV c)) = true then (do let v ← (pure (V.bool false) : M V); pure (.ret v) : M Fl) else (pure .next : M Fl) : M Fl) law_s14) else (pure .next : M Fl) : M Fl) law_s15)
noncomputable def law_c17_t : V → M Unit := (fun v => setv "k" v)
noncomputable def law_c17_i : M Bool := (do let a ← (do let o ← (getv "heap"); let i ← (getv "k"); getI o i); let b ← (do let o ← (getv "heap"); let i ← (do let a ← (do let a ← (getv "k"); let b ← (pure (V.int 1) : M V); subV a b); let b ← (pure (V.int 2) : M V); fdivV a b); getI o i); let c ← ltV a b; truV c)
noncomputable def law_c17_e (l : Nat) : M Unit := (do let v ← (getv "k"); appendAt l v)
noncomputable def law_c17 (l : Nat) (nxt : S → Nat → Option (Option V)) : M Unit := loopC 4096 law_c17_t law_c17_i (law_c17_e l) nxt
noncomputable def law_s18 : M Fl := (pure .cont : M Fl)
noncomputable def law_s19 : M Fl := (seqM (do if (← (do let a ← ((do let vs ← (do let v ← (pure (V.int 1) : M V); let vs ← (do let v ← (do let vs ← (do let v ← (getv "heap"); let vs ← (pure [] : M (List V)); pure (v :: vs)); lenB vs); let vs ← (pure [] : M (List V)); pure (v :: vs)); pure (v :: vs)); rangeB vs) >>= compTail ["heap"] law_c17); let b ← (do let vs ← (pure [] : M (List V)); newL vs); let c ← neV a b; truV c)) = true then (do let v ← (pure (V.bool false) : M V); pure (.ret v) : M Fl) else (pure .next : M Fl) : M Fl) law_s18)
noncomputable def law_s20 : M Fl := (seqM (do if (← (do let a ← (getv "told"); let b ← (do if (← (do let a ← (getv "call"); let b ← (pure (V.int 3) : M V); let c ← eqV a b; truV c)) = true then (do let vs ← (do let v ← (do let o ← (getv "before"); let i ← (pure (V.int 0) : M V); getI o i); let vs ← (do let v ← (getv "item"); let vs ← (pure [] : M (List V)); pure (v :: vs)); pure (v :: vs)); callF f_law_meet vs) else (do let vs ← (do let v ← (getv "item"); let vs ← (do let v ← (do let o ← (getv "before"); let i ← (pure (V.int 0) : M V); getI o i); let vs ← (pure [] : M (List V)); pure (v :: vs)); pure (v :: vs)); callF f_law_meet vs)); let c ← neV a b; truV c)) = true then (do let v ← (pure (V.bool false) : M V); pure (.ret v) : M Fl) else (pure .next : M Fl) : M Fl) law_s16)
noncomputable def law_s21 : M Fl := (seqM (do if (← (do if (← (do let a ← (getv "call"); let b ← (pure (V.int 2) : M V); let c ← eqV a b; truV c)) = true then pure true else (do if (← (do let a ← (getv "before"); let b ← (do let vs ← (pure [] : M (List V)); newL vs); let c ← eqV a b; truV c)) = true then pure true else (do if (← (do let a ← (do let v ← (getv "item"); isStrV v); let b ← (do let v ← (do let o ← (getv "before"); let i ← (pure (V.int 0) : M V); getI o i); isStrV v); let c ← eqV a b; truV c)) = true then pure true else (do if (← (do if (← (do let a ← (getv "call"); let b ← (pure (V.int 4) : M V); let c ← eqV a b; truV c)) = true then (do if (← (do let a ← (do let vs ← (do let v ← (getv "before"); let vs ← (pure [] : M (List V)); pure (v :: vs)); lenB vs); let b ← (pure (V.int 1) : M V); let c ← eqV a b; truV c)) = true then (pure true : M Bool) else pure false) else pure false)) = true then pure true else (pure false : M Bool)))))) = true then (seqM (do if (← (do if (← (do let a ← (getv "told"); let b ← (do let vs ← (do let v ← (getv "kept"); let vs ← (do let v ← (getv "call"); let vs ← (do let v ← (getv "item"); let vs ← (pure [] : M (List V)); pure (v :: vs)); pure (v :: vs)); pure (v :: vs)); callF f_law_sorted vs); let c ← neV a b; truV c)) = true then pure true else (do if (← (do let a ← (do let vs ← (do let v ← (getv "heap"); let vs ← (pure [] : M (List V)); pure (v :: vs)); sortedN vs); let b ← (getv "kept"); let c ← neV a b; truV c)) = true then pure true else (pure false : M Bool)))) = true then (do let v ← (pure (V.bool false) : M V); pure (.ret v) : M Fl) else (pure .next : M Fl) : M Fl) law_s19) else (pure .next : M Fl) : M Fl) law_s20)
noncomputable def law_s22 : M Fl := (seqM (do let v ← (do let vs ← (do let v ← (getv "heap"); let vs ← (do let v ← (getv "call"); let vs ← (do let v ← (getv "item"); let vs ← (pure [] : M (List V)); pure (v :: vs)); pure (v :: vs)); pure (v :: vs)); callF f_law_call vs); (fun v => setv "told" v) v; pure .next : M Fl) law_s21)
noncomputable def law_s23 : M Fl := (seqM (do let v ← (do let vs ← (do let v ← (getv "heap"); let vs ← (pure [] : M (List V)); pure (v :: vs)); listB vs); (fun v => setv "before" v) v; pure .next : M Fl) law_s22)
noncomputable def law_s24 : M Fl := (seqM (do let v ← (do let a ← (getv "x"); let b ← (pure (V.int 5) : M V); fmodV a b); (fun v => setv "call" v) v; pure .next : M Fl) law_s23)
noncomputable def law_s25 : M Fl := (seqM (do let v ← (do if (← (do let a ← (do let a ← (getv "x"); let b ← (pure (V.int 10) : M V); fmodV a b); let b ← (pure (V.int 5) : M V); let c ← ltV a b; truV c)) = true then (getv "own") else (do let vs ← (do let v ← (do let a ← (getv "own"); let b ← (pure (V.int 100) : M V); fmodV a b); let vs ← (pure [] : M (List V)); pure (v :: vs)); strB vs)); (fun v => setv "item" v) v; pure .next : M Fl) law_s24)
noncomputable def law_l26_t : V → M Unit := (fun v => setv "x" v)
noncomputable def law_l26_b : M Fl := (seqM (do let v ← (do let a ← (getv "x"); let b ← (pure (V.int 10) : M V); fdivV a b); (fun v => setv "own" v) v; pure .next : M Fl) law_s25)
noncomputable def law_s27 : M Fl := (do let v ← (do let a ← ((do let vs ← (do let v ← (getv "kept"); let vs ← (pure [] : M (List V)); pure (v :: vs)); listB vs) >>= compTail ["heap"] law_c1); let b ← (getv "kept"); eqV a b); pure (.ret v) : M Fl)
noncomputable def law_s28 : M Fl := (seqM (do let v ← (do let a ← (do let vs ← (do let v ← (pure (V.int 30) : M V); let vs ← (do let v ← (pure (V.int 20) : M V); let vs ← (do let v ← (pure (V.int 10) : M V); let vs ← (do let v ← (pure (V.int 59) : M V); let vs ← (pure [] : M (List V)); pure (v :: vs)); pure (v :: vs)); pure (v :: vs)); pure (v :: vs)); newL vs); let b ← (getv "script"); addS a b); okIter v; forG (nxtOf v) law_l26_t law_l26_b 4096 0) law_s27)
noncomputable def law_s29 : M Fl := (seqM (do let v ← (do let vs ← (pure [] : M (List V)); newL vs); (fun v => setv "kept" v) v; pure .next : M Fl) law_s28)
noncomputable def law_m : M Fl := (seqM (do let v ← (do let vs ← (pure [] : M (List V)); newL vs); (fun v => setv "heap" v) v; pure .next : M Fl) law_s29)
noncomputable def f_law : Fun := funM ["script"] law_m
noncomputable def law_r : DefRec := recAt prg 13
theorem has_f_law {K : Glo} (hp : ∀ d ∈ recsOf prg, d ∈ recsOf K.p) (hfree : ∀ x ∈ bltNames, K.mg (Str.ofString x) = none) (h_law_call : HasF K "_law_call" 4 f_law_call) (h_law_lost : HasF K "_law_lost" 1 f_law_lost) (h_law_meet : HasF K "_law_meet" 1 f_law_meet) (h_law_sorted : HasF K "_law_sorted" 1 f_law_sorted) (hheapify : HasF K "heapify" 3 f_heapify) (hheappop : HasF K "heappop" 3 f_heappop) : HasF K "law" 5 f_law := by
  refine hasF_of (d := law_r) (lvl := 4) (hp _ (List.mem_iff_getElem?.mpr ⟨11, by kernel_rfl⟩)) (by kernel_rfl) (by kernel_rfl) (by kernel_rfl) (by kernel_rfl) (by decide) ?_ ?_ ?_
  · intro pm code doc ws h
    obtain ⟨a0, rfl⟩ := len1 h
    rfl
  · intro n y hy
    simp only [List.mem_cons, List.not_mem_nil, or_false] at hy
    subst hy
    · exact .inl (by kernel_rfl)
  · intro pm code doc L fa A hr fk
    show SimSs K _ _ law_m
    exact (simSs_cons (simS_assign _ (simT_cellD "heap" _ fk (by kernel_rfl) rfl) (simE_list _ simEs_nil)) (simSs_cons (simS_assign _ (simT_local "kept" _ fk (by kernel_rfl)) (simE_list _ simEs_nil)) (simSs_cons (simS_for fk _ 4096 (simE_bin fk bin_addS _ (simE_list _ (simEs_cons (simE_int 30 _ _) (simEs_cons (simE_int 20 _ _) (simEs_cons (simE_int 10 _ _) (simEs_cons (simE_int 59 _ _) simEs_nil))))) (simE_name fk "script" _)) (simT_local "x" _ fk (by kernel_rfl)) (simSs_cons (simS_assign _ (simT_local "own" _ fk (by kernel_rfl)) (simE_bin fk bin_fdiv _ (simE_name fk "x" _) (simE_int 10 _ _))) (simSs_cons (simS_assign _ (simT_cellD "item" _ fk (by kernel_rfl) rfl) (simE_ite _ (simB_cmp fk cmp_lt tru_ok _ (simE_bin fk bin_fmod _ (simE_name fk "x" _) (simE_int 10 _ _)) (simE_int 5 _ _)) (simE_name fk "own" _) (simE_callB fk rfl (by kernel_rfl) (hfree "str" (by decide)) (by kernel_rfl) built_strB (simEs_cons (simE_bin fk bin_fmod _ (simE_name fk "own" _) (simE_int 100 _ _)) simEs_nil)))) (simSs_cons (simS_assign _ (simT_local "call" _ fk (by kernel_rfl)) (simE_bin fk bin_fmod _ (simE_name fk "x" _) (simE_int 5 _ _))) (simSs_cons (simS_assign _ (simT_local "before" _ fk (by kernel_rfl)) (simE_callB fk rfl (by kernel_rfl) (hfree "list" (by decide)) (by kernel_rfl) built_list (simEs_cons (simE_name fk "heap" _) simEs_nil))) (simSs_cons (simS_assign _ (simT_local "told" _ fk (by kernel_rfl)) (simE_callF fk h_law_call (hr.le (by decide)) (simEs_cons (simE_name fk "heap" _) (simEs_cons (simE_name fk "call" _) (simEs_cons (simE_name fk "item" _) simEs_nil))))) (simSs_cons (simS_if _ (simB_boolop _ (simAll_or (simB_cmp fk cmp_eq tru_ok _ (simE_name fk "call" _) (simE_int 2 _ _)) (simAll_or (simB_cmp fk cmp_eq tru_ok _ (simE_name fk "before" _) (simE_list _ simEs_nil)) (simAll_or (simB_cmp fk cmp_eq tru_ok _ (simE_isStr fk (by kernel_rfl) (hfree "isinstance" (by decide)) (by kernel_rfl) (hfree "str" (by decide)) (simE_name fk "item" _)) (simE_isStr fk (by kernel_rfl) (hfree "isinstance" (by decide)) (by kernel_rfl) (hfree "str" (by decide)) (simE_sub fk _ (simE_name fk "before" _) (simE_int 0 _ _)))) (simAll_or (simB_boolop _ (simAll_and (simB_cmp fk cmp_eq tru_ok _ (simE_name fk "call" _) (simE_int 4 _ _)) (simAll_and (simB_cmp fk cmp_eq tru_ok _ (simE_callB fk rfl (by kernel_rfl) (hfree "len" (by decide)) (by kernel_rfl) built_len (simEs_cons (simE_name fk "before" _) simEs_nil)) (simE_int 1 _ _)) simAll_and_nil))) simAll_or_nil))))) (simSs_cons (simS_if _ (simB_boolop _ (simAll_or (simB_cmp fk cmp_ne tru_ok _ (simE_name fk "told" _) (simE_callF fk h_law_sorted (hr.le (by decide)) (simEs_cons (simE_name fk "kept" _) (simEs_cons (simE_name fk "call" _) (simEs_cons (simE_name fk "item" _) simEs_nil))))) (simAll_or (simB_cmp fk cmp_ne tru_ok _ (simE_callB fk rfl (by kernel_rfl) (hfree "sorted" (by decide)) (by kernel_rfl) built_sortedN (simEs_cons (simE_name fk "heap" _) simEs_nil)) (simE_name fk "kept" _)) simAll_or_nil))) (simSs_one (simS_return _ (simE_bool false _ _))) simSs_nil) (simSs_cons (simS_if _ (simB_cmp fk cmp_ne tru_ok _ (simE_listcomp fk ⟨rfl, rfl, by decide +kernel, by decide +kernel, (by intro x hx; simp only [List.mem_cons, List.not_mem_nil, or_false] at hx; rcases hx with rfl <;> exact ⟨by first | exact .inl (by rfl) | exact .inr (by rfl), kne_cell (by kernel_rfl), fun c h => h⟩), (ck_cells (ck_cons rfl ck_nil))⟩ (simE_callB fk rfl (by kernel_rfl) (hfree "range" (by decide)) (by kernel_rfl) built_range (simEs_cons (simE_int 1 _ _) (simEs_cons (simE_callB fk rfl (by kernel_rfl) (hfree "len" (by decide)) (by kernel_rfl) built_len (simEs_cons (simE_name fk "heap" _) simEs_nil)) simEs_nil))) (fun C => clauses_of 4096 rfl (fun acc => turn_end rfl rfl (test := (some _)) rfl) (simT_local "k" _ (FOk.comp fk rfl) (by kernel_rfl)) (simTest_some (simB_cmp (FOk.comp fk rfl) cmp_lt tru_ok _ (simE_sub (FOk.comp fk rfl) _ (simE_name (FOk.comp fk rfl) "heap" _) (simE_name (FOk.comp fk rfl) "k" _)) (simE_sub (FOk.comp fk rfl) _ (simE_name (FOk.comp fk rfl) "heap" _) (simE_bin (FOk.comp fk rfl) bin_fdiv _ (simE_bin (FOk.comp fk rfl) bin_sub _ (simE_name (FOk.comp fk rfl) "k" _) (simE_int 1 _ _)) (simE_int 2 _ _))))) (fun l a => simA_emit (FOk.comp fk rfl) (simE_name (FOk.comp fk rfl) "k" _) l a))) (simE_list _ simEs_nil)) (simSs_one (simS_return _ (simE_bool false _ _))) simSs_nil) (simSs_one (simS_continue _)))) simSs_nil) (simSs_cons (simS_if _ (simB_cmp fk cmp_ne tru_ok _ (simE_name fk "told" _) (simE_ite _ (simB_cmp fk cmp_eq tru_ok _ (simE_name fk "call" _) (simE_int 3 _ _)) (simE_callF fk h_law_meet (hr.le (by decide)) (simEs_cons (simE_sub fk _ (simE_name fk "before" _) (simE_int 0 _ _)) (simEs_cons (simE_name fk "item" _) simEs_nil))) (simE_callF fk h_law_meet (hr.le (by decide)) (simEs_cons (simE_name fk "item" _) (simEs_cons (simE_sub fk _ (simE_name fk "before" _) (simE_int 0 _ _)) simEs_nil))))) (simSs_one (simS_return _ (simE_bool false _ _))) simSs_nil) (simSs_cons (simS_if _ (simB_cmp fk cmp_eq tru_ok _ (simE_name fk "call" _) (simE_int 3 _ _)) (simSs_cons (simS_if _ (simB_cmp fk cmp_ne tru_ok _ (simE_name fk "heap" _) (simE_name fk "before" _)) (simSs_one (simS_return _ (simE_bool false _ _))) simSs_nil) (simSs_one (simS_continue _))) simSs_nil) (simSs_cons (simS_if _ (simB_cmp fk cmp_lt tru_ok _ (simE_name fk "call" _) (simE_int 2 _ _)) (simSs_cons (simS_if _ (simB_cmp fk cmp_ne tru_ok _ (simE_name fk "heap" _) (simE_bin fk bin_addS _ (simE_name fk "before" _) (simE_list _ (simEs_cons (simE_name fk "item" _) simEs_nil)))) (simSs_one (simS_return _ (simE_bool false _ _))) simSs_nil) (simSs_cons (simS_if _ (simB_cmp fk cmp_eq tru_ok _ (simE_bin fk bin_fmod _ (simE_name fk "own" _) (simE_int 2 _ _)) (simE_int 0 _ _)) (simSs_cons (simS_expr fk _ (simE_meth fk PySem.F.slot_list_pop PySem.F.type_list_pop (simE_name fk "heap" _) simEs_nil meth_pop)) (simSs_one (simS_continue _))) simSs_nil) (simSs_cons (simS_assign _ (simT_local "told" _ fk (by kernel_rfl)) (simE_callF fk h_law_call (hr.le (by decide)) (simEs_cons (simE_name fk "heap" _) (simEs_cons (simE_int 2 _ _) (simEs_cons (simE_name fk "item" _) simEs_nil))))) (simSs_cons (simS_if _ (simB_cmp fk cmp_eq tru_ok _ (simE_callB fk rfl (by kernel_rfl) (hfree "len" (by decide)) (by kernel_rfl) built_len (simEs_cons (simE_name fk "before" _) simEs_nil)) (simE_int 1 _ _)) (simSs_cons (simS_if _ (simB_boolop _ (simAll_or (simB_cmp fk cmp_ne tru_ok _ (simE_name fk "told" _) (simE_tuple _ _ (simEs_cons (simE_str _ _ _) (simEs_cons (simE_sub fk _ (simE_name fk "before" _) (simE_int 0 _ _)) simEs_nil)))) (simAll_or (simB_cmp fk cmp_ne tru_ok _ (simE_name fk "heap" _) (simE_list _ (simEs_cons (simE_name fk "item" _) simEs_nil))) simAll_or_nil))) (simSs_one (simS_return _ (simE_bool false _ _))) simSs_nil) (simSs_cons (simS_assign _ (simT_local "kept" _ fk (by kernel_rfl)) (simE_list _ (simEs_cons (simE_name fk "item" _) simEs_nil))) (simSs_one (simS_continue _)))) simSs_nil) (simSs_one (simS_if _ (simB_cmp fk cmp_ne tru_ok _ (simE_name fk "told" _) (simE_callF fk h_law_meet (hr.le (by decide)) (simEs_cons (simE_name fk "item" _) (simEs_cons (simE_sub fk _ (simE_name fk "before" _) (simE_int 0 _ _)) simEs_nil)))) (simSs_one (simS_return _ (simE_bool false _ _))) simSs_nil)))))) simSs_nil) (simSs_cons (simS_if _ (simB_not _ (simB_val fk tru_ok (simE_callF fk h_law_lost (hr.le (by decide)) (simEs_cons (simE_name fk "before" _) (simEs_cons (simE_name fk "heap" _) (simEs_cons (simE_name fk "item" _) simEs_nil)))))) (simSs_one (simS_return _ (simE_bool false _ _))) simSs_nil) (simSs_cons (simS_assign _ (simT_cellD "heap" _ fk (by kernel_rfl) rfl) (simE_listcomp fk ⟨rfl, rfl, by decide +kernel, by decide +kernel, (by intro x hx; simp only [List.mem_cons, List.not_mem_nil, or_false] at hx; rcases hx with rfl <;> exact ⟨by first | exact .inl (by rfl) | exact .inr (by rfl), kne_cell (by kernel_rfl), fun c h => h⟩), (ck_cells (ck_cons rfl ck_nil))⟩ (simE_name fk "heap" _) (fun C => clauses_of 4096 rfl (fun acc => turn_end rfl rfl (test := (some _)) rfl) (simT_local "one" _ (FOk.comp fk rfl) (by kernel_rfl)) (simTest_some (simB_cmp (FOk.comp fk rfl) cmp_ne tru_ok _ (simE_isStr (FOk.comp fk rfl) (by kernel_rfl) (hfree "isinstance" (by decide)) (by kernel_rfl) (hfree "str" (by decide)) (simE_name (FOk.comp fk rfl) "one" _)) (simE_isStr (FOk.comp fk rfl) (by kernel_rfl) (hfree "isinstance" (by decide)) (by kernel_rfl) (hfree "str" (by decide)) (simE_name (FOk.comp fk rfl) "item" _)))) (fun l a => simA_emit (FOk.comp fk rfl) (simE_name (FOk.comp fk rfl) "one" _) l a)))) (simSs_cons (simS_expr fk _ (simE_callF fk hheapify (hr.le (by decide)) (simEs_cons (simE_name fk "heap" _) simEs_nil))) (simSs_one (simS_expr fk _ (simE_meth fk PySem.F.slot_list_pop PySem.F.type_list_pop (simE_name fk "kept" _) (simEs_cons (simE_int 0 _ _) simEs_nil) meth_pop)))))))))))))))) (simSs_one (simS_return _ (simE_cmp fk cmp_eq _ (simE_listcomp fk ⟨rfl, rfl, by decide +kernel, by decide +kernel, (by intro x hx; simp only [List.mem_cons, List.not_mem_nil, or_false] at hx; rcases hx with rfl <;> exact ⟨by first | exact .inl (by rfl) | exact .inr (by rfl), kne_cell (by kernel_rfl), fun c h => h⟩), (ck_cells (ck_cons rfl ck_nil))⟩ (simE_callB fk rfl (by kernel_rfl) (hfree "list" (by decide)) (by kernel_rfl) built_list (simEs_cons (simE_name fk "kept" _) simEs_nil)) (fun C => clauses_of 4096 rfl (fun acc => turn_end rfl rfl (test := none) rfl) (simT_local "one" _ (FOk.comp fk rfl) (by kernel_rfl)) simTest_none (fun l a => simA_emit (FOk.comp fk rfl) (simE_callF (FOk.comp fk rfl) hheappop (hr.le (by decide)) (simEs_cons (simE_name (FOk.comp fk rfl) "heap" _) simEs_nil)) l a))) (simE_name fk "kept" _)))))))

theorem has_all {K : Glo} (hp : ∀ d ∈ recsOf prg, d ∈ recsOf K.p) (hfree : ∀ x ∈ bltNames, K.mg (Str.ofString x) = none) : HasF K "law" 5 f_law := by
  have h_siftdown := has_f_siftdown hp hfree
  have hheappush := has_f_heappush hp hfree h_siftdown
  have h_siftup := has_f_siftup hp hfree h_siftdown
  have hheappop := has_f_heappop hp hfree h_siftup
  have hheapreplace := has_f_heapreplace hp hfree h_siftup
  have hheappushpop := has_f_heappushpop hp hfree h_siftup
  have hheapify := has_f_heapify hp hfree h_siftup
  have h_law_call := has_f_law_call hp hfree hheappop hheappush hheappushpop hheapreplace
  have h_law_sorted := has_f_law_sorted hp hfree
  have h_law_meet := has_f_law_meet hp hfree
  have h_law_lost := has_f_law_lost hp hfree
  have hlaw := has_f_law hp hfree h_law_call h_law_lost h_law_meet h_law_sorted hheapify hheappop
  exact hlaw

end

/-! part L05a -/
set_option autoImplicit false
set_option maxRecDepth 100000
set_option linter.unusedVariables false
set_option linter.unusedSimpArgs false
open PySem PySem.W PyProof.Rows
section
/-! ### items: numbers and texts -/
noncomputable def isS : V → Bool
  | .str _ => true
  | _ => false
noncomputable def It (v : V) : Prop := (∃ i, v = .int i) ∨ ∃ x, v = .str x ∧ PyData.strOk x = true
noncomputable def badK (a b : V) : Bool := isS a != isS b
noncomputable def nm (v : V) : String := if isS v = true then "str" else "int"
noncomputable def teK (a b : V) : Exc := ⟨"TypeError", Str.ofString (ltWords (nm a) (nm b))⟩
noncomputable def pd : V → PyData
  | .int i => .int i
  | .str x => .str x
  | _ => .none
noncomputable def Sm (v : V) : Prop := It v ∨ v = .none
theorem It.sm {v : V} (h : It v) : Sm v := .inl h
theorem toD_it {st : Store} {n : Nat} {v : V} (h : It v) : toD st (n + 1) v = some (pd v) := by
  rcases h with ⟨i, rfl⟩ | ⟨x, rfl, hx⟩
  · simp only [toD, pd]
  · simp only [toD, hx, if_true, pd]
theorem toD_sm {st : Store} {n : Nat} {v : V} (h : Sm v) : toD st (n + 1) v = some (pd v) := by
  rcases h with h | rfl
  · exact toD_it h
  · simp only [toD, pd]
theorem mapO_sm {st : Store} {n : Nat} : ∀ {vs : List V}, (∀ v ∈ vs, Sm v) → mapO (toD st (n + 1)) vs = some (vs.map pd)
  | [], _ => rfl
  | v :: vs, h => by
    unfold mapO
    rw [toD_sm (h v List.mem_cons_self), mapO_sm fun u hu => h u (List.mem_cons_of_mem _ hu)]; rfl
theorem toD_smL {st : Store} {n l : Nat} {vs : List V} (h : st[l]? = some (.lst vs)) (hv : ∀ v ∈ vs, Sm v) : toD st (n + 2) (.obj l) = some (.list (vs.map pd)) := by
  unfold toD
  dsimp only
  rw [h]
  dsimp only
  rw [mapO_sm hv]; rfl
theorem toD_smT {st : Store} {n : Nat} {vs : List V} (hv : ∀ v ∈ vs, Sm v) : toD st (n + 2) (.tup vs) = some (.tuple (vs.map pd)) := by
  unfold toD
  dsimp only
  rw [mapO_sm hv]; rfl
theorem eqv_pd (v : V) : PyData.eqv (pd v) (pd v) = true := by
  cases v <;> simp [pd, PyData.eqv]
theorem eqvAll_pd : ∀ vs : List V, PyData.eqvAll (vs.map pd) (vs.map pd) = true
  | [] => rfl
  | v :: vs => by simp only [List.map_cons, PyData.eqvAll, eqv_pd, eqvAll_pd vs, Bool.and_self]
section
variable {σ : S} {Q : V → S → Prop}
theorem MW_eqTo {a b : V} {d d' : PyData} (h1 : toD σ.st 6 a = some d) (h2 : toD σ.st 6 b = some d') : MW (eqV a b) σ Q ↔ Q (.bool (PyData.eqv d d')) σ := by
  refine MW_fun_ok ?_
  unfold eqV; rw [h1, h2]
theorem MW_neTo {a b : V} {d d' : PyData} (h1 : toD σ.st 6 a = some d) (h2 : toD σ.st 6 b = some d') : MW (neV a b) σ Q ↔ Q (.bool (!PyData.eqv d d')) σ := by
  refine MW_fun_ok ?_
  unfold neV; rw [h1, h2]
theorem MW_neLL {l k : Nat} {vs : List V} (h1 : σ.st[l]? = some (.lst vs)) (h2 : σ.st[k]? = some (.lst vs)) (hv : ∀ v ∈ vs, Sm v) : MW (neV (.obj l) (.obj k)) σ Q ↔ Q (.bool false) σ := by
  rw [MW_neTo (toD_smL h1 hv) (toD_smL h2 hv)]
  simp only [PyData.eqv, eqvAll_pd, Bool.not_true]
theorem MW_eqLL {l k : Nat} {vs : List V} (h1 : σ.st[l]? = some (.lst vs)) (h2 : σ.st[k]? = some (.lst vs)) (hv : ∀ v ∈ vs, Sm v) : MW (eqV (.obj l) (.obj k)) σ Q ↔ Q (.bool true) σ := by
  rw [MW_eqTo (toD_smL h1 hv) (toD_smL h2 hv)]
  simp only [PyData.eqv, eqvAll_pd]
theorem MW_neTT {vs : List V} (hv : ∀ v ∈ vs, Sm v) : MW (neV (.tup vs) (.tup vs)) σ Q ↔ Q (.bool false) σ := by
  rw [MW_neTo (toD_smT hv) (toD_smT hv)]
  simp only [PyData.eqv, eqvAll_pd, Bool.not_true]
theorem eqvAll_nil (vs : List V) : PyData.eqvAll (vs.map pd) [] = vs.isEmpty := by cases vs <;> rfl
theorem MW_eqNil {l k : Nat} {vs : List V} (h1 : σ.st[l]? = some (.lst vs)) (h2 : σ.st[k]? = some (.lst [])) (hv : ∀ v ∈ vs, Sm v) : MW (eqV (.obj l) (.obj k)) σ Q ↔ Q (.bool vs.isEmpty) σ := by
  rw [MW_eqTo (toD_smL h1 hv) (toD_smL h2 (by simp))]
  simp only [PyData.eqv, List.map_nil, eqvAll_nil]
theorem MW_neNil {l k : Nat} {vs : List V} (h1 : σ.st[l]? = some (.lst vs)) (h2 : σ.st[k]? = some (.lst [])) (hv : ∀ v ∈ vs, Sm v) : MW (neV (.obj l) (.obj k)) σ Q ↔ Q (.bool (!vs.isEmpty)) σ := by
  rw [MW_neTo (toD_smL h1 hv) (toD_smL h2 (by simp))]
  simp only [PyData.eqv, List.map_nil, eqvAll_nil]
theorem MW_isStr {v : V} (h : It v) : MW (isStrV v) σ Q ↔ Q (.bool (isS v)) σ := by
  rcases h with ⟨i, rfl⟩ | ⟨x, rfl, _⟩ <;> exact MW_fun_ok rfl
theorem MW_eqB {a b : Bool} : MW (eqV (.bool a) (.bool b)) σ Q ↔ Q (.bool (a == b)) σ := by
  rw [MW_eqTo (d := .bool a) (d' := .bool b) rfl rfl]
  simp only [PyData.eqv]
theorem MW_neB {a b : Bool} : MW (neV (.bool a) (.bool b)) σ Q ↔ Q (.bool (a != b)) σ := by
  rw [MW_neTo (d := .bool a) (d' := .bool b) rfl rfl]
  simp only [PyData.eqv]; rfl
theorem ltV_it {a b : V} (ha : It a) (hb : It b) (hk : isS a = isS b) : ltV a b σ = .ok (.bool (ltK a b)) σ := by
  unfold ltV
  rw [toD_it ha, toD_it hb]
  rcases ha with ⟨i, rfl⟩ | ⟨x, rfl, hx⟩
  · rcases hb with ⟨j, rfl⟩ | ⟨y, rfl, hy⟩
    · simp only [pd, ltD, ltK_int]
    · cases hk
  · rcases hb with ⟨j, rfl⟩ | ⟨y, rfl, hy⟩
    · cases hk
    · simp only [pd, ltD, ltK_str]
theorem MW_ltIt {a b : V} (ha : It a) (hb : It b) (hk : isS a = isS b) : MW (ltV a b) σ Q ↔ Q (.bool (ltK a b)) σ := MW_fun_ok (ltV_it ha hb hk)
end
theorem cmpK (st : Store) (l : Nat) : CmpAt st l It ltK badK teK := by
  intro ws a b ha hb lo
  unfold badK
  by_cases hk : isS a = isS b
  · rw [if_neg (by simp [hk])]
    exact ltX_ok (ltV_it ha hb hk)
  · rw [if_pos (by simpa using hk)]
    rcases ha with ⟨i, rfl⟩ | ⟨x, rfl, hx⟩
    · rcases hb with ⟨j, rfl⟩ | ⟨y, rfl, hy⟩
      · exact absurd rfl hk
      · simp [ltX, ltV, teX, toD, hy, ltD, teD, teK, nm, isS]
    · rcases hb with ⟨j, rfl⟩ | ⟨y, rfl, hy⟩
      · simp [ltX, ltV, teX, toD, hx, ltD, teD, teK, nm, isS]
      · exact absurd rfl hk
theorem swoK (P : V → Prop) : SWO P ltK := ⟨fun _ _ _ _ h => ltK_asymm h, fun _ _ _ _ _ _ h1 h2 => ltK_trans h1 h2⟩
/-- of one kind -/
noncomputable def Kd (b : Bool) (v : V) : Prop := It v ∧ isS v = b
theorem okK_kd {b : Bool} {vs : List V} (h : ∀ v ∈ vs, Kd b v) : okK vs = true := by
  unfold okK
  rw [Bool.or_eq_true, Bool.or_eq_true]
  refine .inl ?_
  cases b with
  | false =>
    refine .inl ?_
    have : ∀ v ∈ vs, ∃ i, v = V.int i := fun v hv => by
      obtain ⟨h1, h2⟩ := h v hv
      rcases h1 with ⟨i, rfl⟩ | ⟨x, rfl, _⟩
      · exact ⟨i, rfl⟩
      · cases h2
    clear h
    induction vs with
    | nil => rfl
    | cons v o ih =>
      obtain ⟨i, rfl⟩ := this v List.mem_cons_self
      obtain ⟨m, hm⟩ := Option.isSome_iff_exists.mp (ih fun v hv => this v (List.mem_cons_of_mem _ hv))
      unfold intsOf
      rw [hm]; rfl
  | true =>
    refine .inr ?_
    have : ∀ v ∈ vs, ∃ i, v = V.str i := fun v hv => by
      obtain ⟨h1, h2⟩ := h v hv
      rcases h1 with ⟨i, rfl⟩ | ⟨x, rfl, _⟩
      · cases h2
      · exact ⟨x, rfl⟩
    clear h
    induction vs with
    | nil => rfl
    | cons v o ih =>
      obtain ⟨i, rfl⟩ := this v List.mem_cons_self
      obtain ⟨m, hm⟩ := Option.isSome_iff_exists.mp (ih fun v hv => this v (List.mem_cons_of_mem _ hv))
      unfold strsOf
      rw [hm]; rfl
theorem ltAtK (st : Store) (l : Nat) (b : Bool) : LtAtL st l (Kd b) ltK := fun ws x y hx hy lo => ltV_it hx.1 hy.1 (hx.2.trans hy.2.symm)

/-! ### the strange item -/
section
variable {α : Type} [Inhabited α] {lt bad : α → α → Bool}
theorem down_P {P : α → Prop} : ∀ (k : Nat) (vs : List α) (pos : Nat), vs.length - pos ≤ k → (∀ j, j < vs.length → j ≠ pos → P (nth vs j)) → ∀ j, j < vs.length → j ≠ (down lt vs pos).2 → P (nth (down lt vs pos).1 j) := by
  intro k
  induction k with
  | zero => intro vs pos h hP j h1 h2; rw [down, dif_neg (by (first | lia | omega))] at h2 ⊢; exact hP j h1 h2
  | succ k ih =>
    intro vs pos h hP j h1 h2
    rw [down] at h2 ⊢
    split
    · rename_i hc
      rw [dif_pos hc] at h2
      have h3 := kid_gt lt vs pos
      have h4 := kid_lt (lt := lt) hc
      refine ih _ _ (by simp; (first | lia | omega)) (fun i hi hne => ?_) j (by simpa using h1) h2
      rw [List.length_set] at hi
      by_cases e : i = pos
      · rw [e, nth_set_self (by (first | lia | omega))]; exact hP _ h4 (by (first | lia | omega))
      · rw [nth_set_ne (Ne.symm e)]; exact hP i hi e
    · rename_i hc
      rw [dif_neg hc] at h2
      exact hP j h1 h2
theorem down_gt : ∀ (k : Nat) (vs : List α) (pos : Nat), vs.length - pos ≤ k → pos ≤ (down lt vs pos).2 := by
  intro k
  induction k with
  | zero => intro vs pos h; rw [down, dif_neg (by (first | lia | omega))]; exact Nat.le_refl _
  | succ k ih =>
    intro vs pos h
    rw [down]
    split
    · have h3 := kid_gt lt vs pos
      have := ih (vs.set pos (nth vs (kid lt vs pos))) (kid lt vs pos) (by simp; (first | lia | omega))
      (first | lia | omega)
    · exact Nat.le_refl _
end
end

/-! part L05b -/
set_option autoImplicit false
set_option maxRecDepth 100000
set_option linter.unusedVariables false
set_option linter.unusedSimpArgs false
open PySem PySem.W PyProof.Rows
section
/-! ### one call -/
noncomputable def fnR (l : Nat) (c : Int) (x : V) (st : Store) : Res Store V :=
  if c = 2 then f_heappop [.obj l] st else if c = 3 then f_heappushpop [.obj l, x] st else if c = 4 then f_heapreplace [.obj l, x] st else f_heappush [.obj l, x] st
noncomputable def told (v : V) : V := .tup [.str (Str.ofString "told"), v]
noncomputable def kinds (m : Str) : V := .tup [.str (Str.ofString "kinds"), .str m]
noncomputable def empt (m : Str) : V := .tup [.str (Str.ofString "empty"), .str m]
theorem MW_tryY {b : M Fl} {h : Exc → M Fl} {σ : S} {Q : Fl → S → Prop} (hb : MY b σ Q (fun e σ' => MW (h e) σ' Q)) : MW (tryM b h) σ Q := by
  unfold MY at hb
  cases e : b σ with
  | ok f σ' => rw [e] at hb; exact ⟨f, σ', by unfold tryM; rw [e], hb⟩
  | exc x σ' =>
    rw [e] at hb
    obtain ⟨f, σ'', e2, q⟩ := hb
    exact ⟨f, σ'', by unfold tryM; rw [e]; exact e2, q⟩
  | stuck => rw [e] at hb; exact hb.elim
theorem body_y {l : Nat} {c : Int} {x : V} {st : Store} (hs : fnR l c x st ≠ .stuck) :
    MY law_call_t4_b ⟨st, bindP ["heap", "call", "item"] [.obj l, .int c, x]⟩ (fun f σ' => ∃ v, fnR l c x st = .ok v σ'.st ∧ f = .ret (told v)) (fun e σ' => fnR l c x st = .exc e σ'.st) := by
  have fin : ∀ (g : Fun) (vs : List V) (lo : String → Option V), fnR l c x st = g vs st → MY (callF g vs) ⟨st, lo⟩ (fun v σ' => fnR l c x st = .ok v σ'.st) (fun e σ' => fnR l c x st = .exc e σ'.st) := by
    intro g vs lo hg
    refine MY_callF (r := fnR l c x st) hg.symm ?_
    generalize fnR l c x st = r at hs
    cases r with
    | ok v st' => rfl
    | exc e st' => rfl
    | stuck => exact hs rfl
  unfold law_call_t4_b
  apply y_seq
  walk_at "my"
  by_cases h2 : c = 2
  · rw [if_pos (decide_eq_true h2)]
    walk_at "my"
    refine MY.mono (fin _ _ _ (by unfold fnR; rw [if_pos h2])) (fun v σ' hv => ?_) (fun _ _ h => h)
    walk_at "my"
    exact MY_of ((MW_mkT (by simp)).mpr ⟨v, hv, rfl⟩)
  rw [if_neg (by simpa using h2)]
  unfold law_call_s3
  walk_at "my"
  apply y_seq
  walk_at "my"
  by_cases h3 : c = 3
  · rw [if_pos (decide_eq_true h3)]
    walk_at "my"
    refine MY.mono (fin _ _ _ (by unfold fnR; rw [if_neg h2, if_pos h3])) (fun v σ' hv => ?_) (fun _ _ h => h)
    walk_at "my"
    exact MY_of ((MW_mkT (by simp)).mpr ⟨v, hv, rfl⟩)
  rw [if_neg (by simpa using h3)]
  unfold law_call_s2
  walk_at "my"
  apply y_seq
  walk_at "my"
  by_cases h4 : c = 4
  · rw [if_pos (decide_eq_true h4)]
    walk_at "my"
    refine MY.mono (fin _ _ _ (by unfold fnR; rw [if_neg h2, if_neg h3, if_pos h4])) (fun v σ' hv => ?_) (fun _ _ h => h)
    walk_at "my"
    exact MY_of ((MW_mkT (by simp)).mpr ⟨v, hv, rfl⟩)
  rw [if_neg (by simpa using h4)]
  unfold law_call_s1
  walk_at "my"
  refine MY.mono (fin _ _ _ (by unfold fnR; rw [if_neg h2, if_neg h3, if_neg h4])) (fun v σ' hv => ?_) (fun _ _ h => h)
  walk_at "my"
  exact MY_of ((MW_mkT (by simp)).mpr ⟨v, hv, rfl⟩)
theorem call_ok {l : Nat} {c : Int} {x : V} {st st' : Store} {v : V} (h : fnR l c x st = .ok v st') : f_law_call [.obj l, .int c, x] st = .ok (told v) st' := by
  refine funM_of rfl ?_
  unfold law_call_m
  refine MW_tryY ((body_y (l := l) (c := c) (x := x) (st := st) (by rw [h]; exact fun e => nomatch e)).mono ?_ ?_)
  · rintro f σ' ⟨v', e, rfl⟩
    rw [h] at e
    cases e
    exact ⟨rfl, rfl⟩
  · intro e σ' e2
    rw [h] at e2; cases e2
theorem call_te {l : Nat} {c : Int} {x : V} {st st' : Store} {m : Str} (h : fnR l c x st = .exc ⟨"TypeError", m⟩ st') : f_law_call [.obj l, .int c, x] st = .ok (kinds m) st' := by
  refine funM_of rfl ?_
  unfold law_call_m
  refine MW_tryY ((body_y (l := l) (c := c) (x := x) (st := st) (by rw [h]; exact fun e => nomatch e)).mono ?_ ?_)
  · rintro f σ' ⟨v', e, rfl⟩
    rw [h] at e; cases e
  · intro e σ' e2
    rw [h] at e2
    cases e2
    exact ⟨_, _, rfl, rfl, rfl⟩
theorem call_ie {l : Nat} {c : Int} {x : V} {st st' : Store} {m : Str} (h : fnR l c x st = .exc ⟨"IndexError", m⟩ st') : f_law_call [.obj l, .int c, x] st = .ok (empt m) st' := by
  refine funM_of rfl ?_
  unfold law_call_m
  refine MW_tryY ((body_y (l := l) (c := c) (x := x) (st := st) (by rw [h]; exact fun e => nomatch e)).mono ?_ ?_)
  · rintro f σ' ⟨v', e, rfl⟩
    rw [h] at e; cases e
  · intro e σ' e2
    rw [h] at e2
    cases e2
    exact ⟨_, _, rfl, rfl, rfl⟩
end

/-! part L05c -/
set_option autoImplicit false
set_option maxRecDepth 100000
set_option linter.unusedVariables false
set_option linter.unusedSimpArgs false
open PySem PySem.W PyProof.Rows
section
/-! ### the heap and the sorted row, plain -/
theorem sortK_congr {a b : List V} (ok : okK b = true) (h : a.Perm b) : sortK a = sortK b := sortK_uniq ok ((sortK_perm a).trans h) (sortK_sorted a)
theorem sortK_cons {m : V} {ms ns : List V} (ok : okK ns = true) (p : (m :: ms).Perm ns) (hm : ∀ x ∈ ns, ltK x m = false) : sortK ns = m :: sortK ms := by
  refine (sortK_uniq ok (((sortK_perm ms).cons m).trans p) (List.pairwise_cons.mpr ⟨fun y hy => hm y ?_, sortK_sorted ms⟩)).symm
  exact p.mem_iff.mp (List.mem_cons_of_mem _ ((sortK_perm ms).mem_iff.mp hy))
theorem sortK_length (ns : List V) : (sortK ns).length = ns.length := (sortK_perm ns).length_eq
/-- what a sorted row tells and becomes -/
noncomputable def srt (c : Int) (x : V) (kp : List V) : V × List V :=
  if c = 2 then (match kp with
    | [] => (empt (Str.ofString "pop from empty list"), [])
    | m :: r => (told m, r))
  else if c = 4 then (match kp with
    | [] => (empt (Str.ofString "list index out of range"), [])
    | m :: r => (told m, sortK (r ++ [x])))
  else if c = 3 then (match sortK (kp ++ [x]) with
    | [] => (told .none, [])
    | m :: r => (told m, r))
  else (told .none, sortK (kp ++ [x]))
/-- a heap of one kind -/
structure Hp (b : Bool) (hs : List V) : Prop where
  kd : ∀ v ∈ hs, Kd b v
  heap : HeapFrom ltK 0 hs
theorem Hp.ok {b : Bool} {hs : List V} (h : Hp b hs) : okK hs = true := okK_kd h.kd
theorem Hp.nil (b : Bool) : Hp b [] := ⟨by simp, fun j _ hl => by simp at hl⟩
theorem Hp.one {b : Bool} {x : V} (h : Kd b x) : Hp b [x] := ⟨by simpa using h, fun j h0 hl => by simp at hl; (first | lia | omega)⟩
theorem Hp.of {b b' : Bool} {hs : List V} (h : Hp b hs) (hk : hs = [] ∨ b = b') : Hp b' hs := by
  rcases hk with rfl | rfl
  · exact Hp.nil b'
  · exact h
theorem Hp.min {b : Bool} {hs : List V} (h : Hp b hs) : ∀ x ∈ hs, ltK x (nth hs 0) = false := by
  intro a ha
  obtain ⟨j, hj, rfl⟩ := List.mem_iff_getElem.mp ha
  rw [← nth_getElem hj]
  exact heap_min (swoK (Kd b)) h.kd h.heap j hj
theorem cons_tail {vs : List V} (h : 0 < vs.length) : vs = nth vs 0 :: vs.tail := by
  cases vs with
  | nil => simp at h
  | cons a r => rfl
theorem Hp.sort {b : Bool} {hs : List V} (h : Hp b hs) (h0 : 0 < hs.length) : sortK hs = nth hs 0 :: sortK hs.tail := by
  have e := cons_tail h0
  exact sortK_cons h.ok (by rw [← e]) h.min
theorem Hp.push {b : Bool} {hs : List V} {x : V} (h : Hp b hs) (hx : Kd b x) : Hp b (hpush ltK hs x) ∧ sortK (hpush ltK hs x) = sortK (sortK hs ++ [x]) := by
  have hp := hpush_perm ltK hs x
  have hk : ∀ v ∈ hs ++ [x], Kd b v := fun v hv => by
    rcases List.mem_append.mp hv with hv | hv
    · exact h.kd v hv
    · rw [List.mem_singleton.mp hv]; exact hx
  refine ⟨⟨fun v hv => hk v (hp.mem_iff.mp hv), hpush_heap (swoK (Kd b)) h.kd hx h.heap⟩, ?_⟩
  have q : (sortK hs ++ [x]).Perm (hs ++ [x]) := (sortK_perm hs).append_right _
  exact sortK_congr (okK_perm q (okK_kd hk)) (hp.trans q.symm)
theorem Hp.pop {b : Bool} {hs : List V} (h : Hp b hs) (h0 : 0 < hs.length) : Hp b (hpop ltK hs).2 ∧ sortK hs = (hpop ltK hs).1 :: sortK (hpop ltK hs).2 ∧ (hpop ltK hs).1 = nth hs 0 := by
  have hp := hpop_perm ltK h0
  refine ⟨⟨fun v hv => h.kd v (hp.mem_iff.mp (List.mem_cons_of_mem _ hv)), hpop_heap (swoK (Kd b)) h.kd h0 h.heap⟩, sortK_cons h.ok hp (hpop_min (swoK (Kd b)) h.kd h.heap), ?_⟩
  unfold hpop; split <;> rfl
theorem set0_perm {vs : List V} {x : V} (h0 : 0 < vs.length) : (vs.set 0 x).Perm (vs.tail ++ [x]) := by
  cases vs with
  | nil => simp at h0
  | cons a r => exact (List.perm_append_singleton x r).symm
theorem Hp.rep {b : Bool} {hs : List V} {x : V} (h : Hp b hs) (hx : Kd b x) (h0 : 0 < hs.length) : Hp b (su ltK (hs.set 0 x) 0) ∧ sortK (su ltK (hs.set 0 x) 0) = sortK (sortK hs.tail ++ [x]) := by
  have hp := su_perm ltK (hs.set 0 x) 0 (by simpa using h0)
  have hk : ∀ v ∈ hs.set 0 x, Kd b v := all_set h.kd hx
  refine ⟨⟨fun v hv => hk v (hp.mem_iff.mp hv), su0_heap (swoK (Kd b)) h.kd hx h0 h.heap⟩, ?_⟩
  have q : (sortK hs.tail ++ [x]).Perm (hs.set 0 x) := ((sortK_perm hs.tail).append_right _).trans (set0_perm h0).symm
  exact sortK_congr (okK_perm q (okK_kd hk)) (hp.trans q.symm)
theorem Hp.pp {b : Bool} {hs : List V} {x : V} (h : Hp b hs) (hx : Kd b x) : srt 3 x (sortK hs) = if 0 < hs.length ∧ ltK (nth hs 0) x = true then (told (nth hs 0), sortK (su ltK (hs.set 0 x) 0)) else (told x, sortK hs) := by
  have hk : ∀ v ∈ hs ++ [x], Kd b v := fun v hv => by
    rcases List.mem_append.mp hv with hv | hv
    · exact h.kd v hv
    · rw [List.mem_singleton.mp hv]; exact hx
  have q : (sortK hs ++ [x]).Perm (hs ++ [x]) := (sortK_perm hs).append_right _
  have e : srt 3 x (sortK hs) = match sortK (sortK hs ++ [x]) with
    | [] => (told .none, [])
    | m :: r => (told m, r) := rfl
  rw [e, sortK_congr (okK_kd hk) q]
  by_cases hc : 0 < hs.length ∧ ltK (nth hs 0) x = true
  · rw [if_pos hc]
    have hp := su_perm ltK (hs.set 0 x) 0 (by simpa using hc.1)
    have e2 : sortK (hs ++ [x]) = nth hs 0 :: sortK (su ltK (hs.set 0 x) 0) := by
      refine sortK_cons (okK_kd hk) ?_ fun y hy => ?_
      · refine ((hp.trans (set0_perm hc.1)).cons _).trans ?_
        rw [← List.cons_append, ← cons_tail hc.1]
      · rcases List.mem_append.mp hy with hy | hy
        · exact h.min y hy
        · rw [List.mem_singleton.mp hy]; exact ltK_asymm hc.2
    rw [e2]
  · rw [if_neg hc]
    have e2 : sortK (hs ++ [x]) = x :: sortK hs := by
      refine sortK_cons (okK_kd hk) (List.perm_append_singleton x hs).symm fun y hy => ?_
      rcases List.mem_append.mp hy with hy | hy
      · have h0 : 0 < hs.length := List.length_pos_of_mem hy
        have : ltK (nth hs 0) x = false := by
          cases e3 : ltK (nth hs 0) x with
          | false => rfl
          | true => exact absurd ⟨h0, e3⟩ hc
        exact ltK_trans this (h.min y hy)
      · rw [List.mem_singleton.mp hy]; exact lexB_irrefl _
    rw [e2]

/-- what a call tells and what the heap becomes -/
noncomputable def hst (c : Int) (x : V) (hs : List V) : V × List V :=
  if c = 2 then (if hs.length = 0 then (empt (Str.ofString "pop from empty list"), []) else (told (nth hs 0), (hpop ltK hs).2))
  else if c = 4 then (if hs.length = 0 then (empt (Str.ofString "list index out of range"), []) else (told (nth hs 0), su ltK (hs.set 0 x) 0))
  else if c = 3 then (if 0 < hs.length ∧ ltK (nth hs 0) x = true then (told (nth hs 0), su ltK (hs.set 0 x) 0) else (told x, hs))
  else (told .none, hpush ltK hs x)
/-- of the heap's own kind -/
noncomputable def Own (c : Int) (x : V) (hs : List V) : Prop := c = 2 ∨ hs = [] ∨ isS x = isS (nth hs 0) ∨ (c = 4 ∧ hs.length = 1)
theorem su_one {x : V} : su ltK [x] 0 = [x] := by
  unfold su
  have : down ltK [x] 0 = ([x], 0) := by rw [down, dif_neg (by simp)]
  rw [this, sd, dif_neg (Nat.lt_irrefl 0)]
  rfl
theorem own_ok {b : Bool} {c : Int} {x : V} {hs : List V} (h : Hp b hs) (hx : It x) (ho : Own c x hs) :
    (hst c x hs).1 = (srt c x (sortK hs)).1 ∧ sortK (hst c x hs).2 = (srt c x (sortK hs)).2 ∧ (∃ b', Hp b' (hst c x hs).2) ∧ (hst c x hs).2.length ≤ hs.length + 1 := by
  have sK1 : ∀ y : V, sortK [y] = [y] := fun y => sortK_short (by simp)
  have sK0 : sortK [] = [] := sortK_short (by simp)
  by_cases h2 : c = 2
  · subst h2
    by_cases h0 : hs.length = 0
    · have : hs = [] := List.eq_nil_of_length_eq_zero h0
      subst this
      rw [sK0]
      exact ⟨rfl, sK0, ⟨b, Hp.nil b⟩, by show 0 ≤ 1; (first | lia | omega)⟩
    · obtain ⟨p1, p2, p3⟩ := h.pop (by (first | lia | omega))
      have e : hst 2 x hs = (told (nth hs 0), (hpop ltK hs).2) := by unfold hst; rw [if_pos rfl, if_neg h0]
      have e2 : srt 2 x (sortK hs) = (told (nth hs 0), sortK (hpop ltK hs).2) := by rw [p2, p3]; rfl
      rw [e, e2]
      refine ⟨rfl, rfl, ⟨b, p1⟩, ?_⟩
      have := (hpop_perm ltK (vs := hs) (by (first | lia | omega))).length_eq
      rw [List.length_cons] at this
      show (hpop ltK hs).2.length ≤ _
      (first | lia | omega)
  · -- the kind of what there is
    have hk : ∃ b', Kd b' x ∧ (Hp b' hs ∨ (c = 4 ∧ hs.length = 1)) := by
      refine ⟨isS x, ⟨hx, rfl⟩, ?_⟩
      rcases ho with e | e | e | e
      · exact absurd e h2
      · exact .inl (h.of (.inl e))
      · by_cases h0 : hs = []
        · exact .inl (h.of (.inl h0))
        · refine .inl (h.of (.inr ?_))
          have hm := (h.kd _ (nth_mem (List.length_pos_iff.mpr h0))).2
          rw [e, hm]
      · exact .inr e
    obtain ⟨b', kx, hk⟩ := hk
    by_cases h4 : c = 4
    · subst h4
      by_cases h0 : hs.length = 0
      · have : hs = [] := List.eq_nil_of_length_eq_zero h0
        subst this
        rw [sK0]
        exact ⟨rfl, sK0, ⟨b, Hp.nil b⟩, by show 0 ≤ 1; (first | lia | omega)⟩
      · have e : hst 4 x hs = (told (nth hs 0), su ltK (hs.set 0 x) 0) := by unfold hst; rw [if_neg h2, if_pos rfl, if_neg h0]
        have hsrt := h.sort (by (first | lia | omega))
        have e2 : srt 4 x (sortK hs) = (told (nth hs 0), sortK (sortK hs.tail ++ [x])) := by rw [hsrt]; rfl
        rw [e, e2]
        have hl : (su ltK (hs.set 0 x) 0).length ≤ hs.length + 1 := by rw [su_length, List.length_set]; (first | lia | omega)
        rcases hk with hk | ⟨_, h1⟩
        · obtain ⟨q1, q2⟩ := hk.rep kx (by (first | lia | omega))
          exact ⟨rfl, q2, ⟨b', q1⟩, hl⟩
        · obtain ⟨a, rfl⟩ : ∃ a, hs = [a] := by
            match hs, h1 with
            | [a], _ => exact ⟨a, rfl⟩
          have es : su ltK ([a].set 0 x) 0 = [x] := su_one
          refine ⟨rfl, ?_, ⟨b', ?_⟩, hl⟩
          · show sortK (su ltK ([a].set 0 x) 0) = sortK (sortK [] ++ [x])
            rw [es, sK0]; rfl
          · show Hp b' (su ltK ([a].set 0 x) 0)
            rw [es]; exact Hp.one kx
    · rcases hk with hk | hk
      · by_cases h3 : c = 3
        · subst h3
          have e : hst 3 x hs = if 0 < hs.length ∧ ltK (nth hs 0) x = true then (told (nth hs 0), su ltK (hs.set 0 x) 0) else (told x, hs) := by unfold hst; rw [if_neg h2, if_neg h4, if_pos rfl]
          rw [e, hk.pp kx]
          split
          · rename_i hc
            exact ⟨rfl, rfl, ⟨b', (hk.rep kx hc.1).1⟩, by show (su ltK (hs.set 0 x) 0).length ≤ _; rw [su_length, List.length_set]; (first | lia | omega)⟩
          · exact ⟨rfl, rfl, ⟨b, h⟩, by show hs.length ≤ _; (first | lia | omega)⟩
        · have e : hst c x hs = (told .none, hpush ltK hs x) := by unfold hst; rw [if_neg h2, if_neg h4, if_neg h3]
          have e2 : srt c x (sortK hs) = (told .none, sortK (sortK hs ++ [x])) := by unfold srt; rw [if_neg h2, if_neg h4, if_neg h3]
          obtain ⟨q1, q2⟩ := hk.push kx
          rw [e, e2]
          refine ⟨rfl, q2, ⟨b', q1⟩, ?_⟩
          have := (hpush_perm ltK hs x).length_eq
          simp at this
          show (hpush ltK hs x).length ≤ _
          (first | lia | omega)
      · exact absurd hk.1 h4
end

/-! part L05d -/
set_option autoImplicit false
set_option maxRecDepth 100000
set_option linter.unusedVariables false
set_option linter.unusedSimpArgs false
open PySem PySem.W PyProof.Rows
section
theorem pop_exc {st : Store} {l : Nat} (hl : st[l]? = some (.lst [])) (hl0 : l ≠ 0) : f_heappop [.obj l] st = .exc ⟨"IndexError", Str.ofString "pop from empty list"⟩ st := by
  have h : heappop_m ⟨st, bindP ["heap"] [.obj l]⟩ = .exc ⟨"IndexError", Str.ofString "pop from empty list"⟩ ⟨st, bindP ["heap"] [.obj l]⟩ := by
    unfold heappop_m
    refine seq_exc (bind_exc (bind_okx (getv_okx (v := .obj l) rfl) (bind_okx (chkL_ok (by exact hl)) (bind_okx rfl ?_))))
    simp only [popG, if_neg hl0, hl]
    rfl
  unfold f_heappop funM
  rw [if_pos (show [V.obj l].length = ["heap"].length from rfl), h]
theorem rep_exc {st : Store} {l : Nat} {x : V} (hl : st[l]? = some (.lst [])) : f_heapreplace [.obj l, x] st = .exc ⟨"IndexError", Str.ofString "list index out of range"⟩ st := by
  have h : heapreplace_m ⟨st, bindP ["heap", "item"] [.obj l, x]⟩ = .exc ⟨"IndexError", Str.ofString "list index out of range"⟩ ⟨st, bindP ["heap", "item"] [.obj l, x]⟩ := by
    unfold heapreplace_m
    exact seq_exc (bind_exc (bind_okx (getv_okx (v := .obj l) rfl) (bind_okx rfl (getIX_exc (by exact hl)))))
  unfold f_heapreplace funM
  rw [if_pos (show [V.obj l, x].length = ["heap", "item"].length from rfl), h]

theorem call_own {st : Store} {l : Nat} {hs : List V} {c : Int} {x : V} {b : Bool} (hl : st[l]? = some (.lst hs)) (hl0 : l ≠ 0) (hn : hs.length ≤ 3000) (h : Hp b hs) (hx : It x) (ho : Own c x hs) :
    f_law_call [.obj l, .int c, x] st = .ok (hst c x hs).1 (st.set l (.lst (hst c x hs).2)) := by
  by_cases h2 : c = 2
  · subst h2
    by_cases h0 : hs.length = 0
    · have : hs = [] := List.eq_nil_of_length_eq_zero h0
      subst this
      have := call_ie (x := x) (show fnR l 2 x st = .exc ⟨"IndexError", Str.ofString "pop from empty list"⟩ st by unfold fnR; rw [if_pos rfl]; exact pop_exc hl hl0)
      rw [this]
      show _ = Res.ok _ (st.set l (.lst []))
      rw [set_id hl]; rfl
    · obtain ⟨p1, p2, p3⟩ := h.pop (by (first | lia | omega))
      have e : hst 2 x hs = (told (nth hs 0), (hpop ltK hs).2) := by unfold hst; rw [if_pos rfl, if_neg h0]
      have := call_ok (x := x) (show fnR l 2 x st = .ok (hpop ltK hs).1 (st.set l (.lst (hpop ltK hs).2)) by unfold fnR; rw [if_pos rfl]; exact heappopN hl hl0 (by (first | lia | omega)) (by (first | lia | omega)) h.kd (ltAtK st l b))
      rw [this, e, p3]
  · have hk : ∃ b', Kd b' x ∧ (Hp b' hs ∨ (c = 4 ∧ hs.length = 1)) := by
      refine ⟨isS x, ⟨hx, rfl⟩, ?_⟩
      rcases ho with e | e | e | e
      · exact absurd e h2
      · exact .inl (h.of (.inl e))
      · by_cases h0 : hs = []
        · exact .inl (h.of (.inl h0))
        · refine .inl (h.of (.inr ?_))
          have hm := (h.kd _ (nth_mem (List.length_pos_iff.mpr h0))).2
          rw [e, hm]
      · exact .inr e
    obtain ⟨b', kx, hk⟩ := hk
    by_cases h4 : c = 4
    · subst h4
      by_cases h0 : hs.length = 0
      · have : hs = [] := List.eq_nil_of_length_eq_zero h0
        subst this
        have := call_ie (x := x) (show fnR l 4 x st = .exc ⟨"IndexError", Str.ofString "list index out of range"⟩ st by unfold fnR; rw [if_neg h2, if_neg (by decide), if_pos rfl]; exact rep_exc hl)
        rw [this]
        show _ = Res.ok _ (st.set l (.lst []))
        rw [set_id hl]; rfl
      · have e : hst 4 x hs = (told (nth hs 0), su ltK (hs.set 0 x) 0) := by unfold hst; rw [if_neg h2, if_pos rfl, if_neg h0]
        have hI : ∀ a ∈ hs.set 0 x, It a := all_set (fun a ha => (h.kd a ha).1) hx
        have hkk : ∀ a ∈ hs.set 0 x, Kd b' a := by
          rcases hk with hk | ⟨_, h1⟩
          · exact all_set hk.kd kx
          · match hs, h1 with
            | [a], _ => intro y hy; rw [List.mem_singleton.mp hy]; exact kx
        have hsu : suE ltK badK (hs.set 0 x) 0 = (su ltK (hs.set 0 x) 0, none) := suE_none (by rw [List.length_set]; (first | lia | omega)) fun a ha c hc => by
          unfold badK; rw [(hkk a ha).2, (hkk c hc).2]; simp
        have := call_ok (x := x) (show fnR l 4 x st = .ok (nth hs 0) (st.set l (.lst (su ltK (hs.set 0 x) 0))) by
          unfold fnR; rw [if_neg h2, if_neg (by decide), if_pos rfl, heapreplaceE_spec hl hl0 (by (first | lia | omega)) (by (first | lia | omega)) hI (cmpK st l), hsu]; rfl)
        rw [this, e]
    · rcases hk with hk | hk
      · by_cases h3 : c = 3
        · subst h3
          have e : hst 3 x hs = if 0 < hs.length ∧ ltK (nth hs 0) x = true then (told (nth hs 0), su ltK (hs.set 0 x) 0) else (told x, hs) := by unfold hst; rw [if_neg h2, if_neg h4, if_pos rfl]
          have sp := heappushpopN hl hl0 (by (first | lia | omega)) hk.kd kx (ltAtK st l b')
          rw [e]
          split
          · rename_i hc
            rw [if_pos hc] at sp
            exact call_ok (by unfold fnR; rw [if_neg h2, if_pos rfl]; exact sp)
          · rename_i hc
            rw [if_neg hc] at sp
            show _ = Res.ok _ (st.set l (.lst hs))
            rw [set_id hl]
            exact call_ok (by unfold fnR; rw [if_neg h2, if_pos rfl]; exact sp)
        · have e : hst c x hs = (told .none, hpush ltK hs x) := by unfold hst; rw [if_neg h2, if_neg h4, if_neg h3]
          rw [e]
          exact call_ok (by unfold fnR; rw [if_neg h2, if_neg h3, if_neg h4]; exact heappushN hl hl0 (by (first | lia | omega)) hk.kd kx (ltAtK st l b'))
      · exact absurd hk.1 h4

/-! ### the sorted row -/
theorem MW_sortG {l : Nat} {vs : List V} {σ : S} {Q : V → S → Prop} (h : σ.st[l]? = some (.lst vs)) (hl : l ≠ 0) (ok : okK vs = true) (hn : vs.length < 128) : MW (sortG (.obj l) []) σ Q ↔ Q .none { σ with st := σ.st.set l (.lst (sortK vs)) } := by
  refine MW_fun_ok ?_
  simp only [sortG, if_neg hl, h, ok, hn, and_self, if_true]
theorem MW_sortedN' {l : Nat} {vs : List V} {σ : S} {Q : V → S → Prop} (h : σ.st[l]? = some (.lst vs)) (ok : okK vs = true) (hn : vs.length < 128) (q : ∀ k st', Pres [] σ.st st' → σ.st.length ≤ k → st'[k]? = some (.lst (sortK vs)) → Q (.obj k) ⟨st', σ.lo⟩) : MW (sortedN [.obj l]) σ Q := by
  refine (MW_fun_ok (a := .obj σ.st.length) (σ' := { σ with st := σ.st ++ [.lst (sortK vs)] }) ?_).mpr (q _ _ (Pres.app ..) (Nat.le_refl _) List.getElem?_concat_length)
  simp only [sortedN, h, ok, hn, and_self, if_true]
theorem MW_pop0 {l : Nat} {m : V} {r : List V} {σ : S} {Q : V → S → Prop} (h : σ.st[l]? = some (.lst (m :: r))) (hl : l ≠ 0) : MW (popG (.obj l) [.int 0]) σ Q ↔ Q m { σ with st := σ.st.set l (.lst r) } :=
  MW_popAt (j := 0) h hl (by rw [show (0 : Int) = ((0 : Nat) : Int) from rfl, ix_nat, if_pos (by simp)]) rfl
theorem set_get' {st : Store} {l : Nat} {c c' : Cel} (h : st[l]? = some c) : (st.set l c')[l]? = some c' := set_self (lt_of_get h)

theorem sorted_own {st : Store} {l : Nat} {kp : List V} {c : Int} {x : V} (hl : st[l]? = some (.lst kp)) (hl0 : l ≠ 0) (hn : kp.length < 127) (sm : ∀ v ∈ kp, Sm v) (ok : c ≠ 2 → c ≠ 4 → okK (kp ++ [x]) = true) (ok4 : c = 4 → okK (kp.tail ++ [x]) = true) :
    ∃ st', f_law_sorted [.obj l, .int c, x] st = .ok (srt c x kp).1 st' ∧ Pres [l] st st' ∧ st'[l]? = some (.lst (srt c x kp).2) := by
  have hlt := lt_of_get hl
  have key : ∃ v st', f_law_sorted [.obj l, .int c, x] st = .ok v st' ∧ v = (srt c x kp).1 ∧ Pres [l] st st' ∧ st'[l]? = some (.lst (srt c x kp).2) := by
    refine funM_ex rfl ?_
    unfold law_sorted_m
    apply w_seq
    walk_at "mx"
    by_cases h2 : c = 2
    · subst h2
      rw [if_pos (decide_eq_true rfl)]
      walk_at "mx"
      refine MW_newL' (by simp) fun k st1 p1 f1 g1 => ?_
      walk_at "mx"
      refine (MW_neNil (vs := kp) (p1.get0 hl) g1 sm).mpr ?_
      cases kp with
      | nil =>
        simp only [List.isEmpty_nil, Bool.not_true]
        walk_at "mx"
        refine (MW_mkT (by simp)).mpr ?_
        walk_at "mx"
        exact ⟨rfl, p1.mono (by simp), p1.get0 hl⟩
      | cons m r =>
        simp only [List.isEmpty_cons, Bool.not_false]
        walk_at "mx"
        have hg : st1[l]? = some (.lst (m :: r)) := p1.get0 hl
        refine (MW_chkL (by exact hg)).mpr ?_
        walk_at "mx"
        refine (MW_pop0 (by exact hg) hl0).mpr ?_
        walk_at "mx"
        refine (MW_mkT (by simp)).mpr ?_
        walk_at "mx"
        exact ⟨rfl, p1.nil.trans (Pres.set (by simp)), set_get' hg⟩
    rw [if_neg (by simpa using h2)]
    walk_at "mx"
    unfold law_sorted_s7
    apply w_seq
    walk_at "mx"
    -- the row as it is when the new one is laid on it
    have rest : ∀ (σ : S) (kp' : List V) (least : V), σ.lo "kept" = some (.obj l) → σ.lo "call" = some (.int c) → σ.lo "item" = some x → σ.lo "least" = some least → Pres [l] st σ.st → σ.st[l]? = some (.lst kp') → kp'.length < 127 → okK (kp' ++ [x]) = true →
        (c ≠ 3 → (srt c x kp) = (told least, sortK (kp' ++ [x]))) → (c = 3 → kp' = kp) →
        MW law_sorted_s4 σ (fun f σ' => (match f with | .ret u => u | _ => V.none) = (srt c x kp).1 ∧ Pres [l] st σ'.st ∧ σ'.st[l]? = some (.lst (srt c x kp).2)) := by
      intro σ kp' least h1 h3 h4 h5 hp hg hn' ok' hs hs3
      unfold law_sorted_s4
      apply w_seq
      walk_at "mx"
      refine (MW_chkL (by exact hg)).mpr ?_
      walk_at "mx"
      refine (MW_append (by exact hg) hl0 (by (first | lia | omega))).mpr ?_
      walk_at "mx"
      unfold law_sorted_s3
      apply w_seq
      walk_at "mx"
      have hg2 : (σ.st.set l (.lst (kp' ++ [x])))[l]? = some (.lst (kp' ++ [x])) := set_get' hg
      refine (MW_chkL (by exact hg2)).mpr ?_
      walk_at "mx"
      refine (MW_sortG (by exact hg2) hl0 ok' (by simp; (first | lia | omega))).mpr ?_
      walk_at "mx"
      unfold law_sorted_s2
      apply w_seq
      walk_at "mx"
      have hg3 : ((σ.st.set l (.lst (kp' ++ [x]))).set l (.lst (sortK (kp' ++ [x]))))[l]? = some (.lst (sortK (kp' ++ [x]))) := set_get' hg2
      by_cases h3' : c = 3
      · subst h3'
        obtain rfl := hs3 rfl
        rw [if_pos (decide_eq_true rfl)]
        walk_at "mx"
        refine (MW_chkL (by exact hg3)).mpr ?_
        walk_at "mx"
        have hlen : (sortK (kp' ++ [x])).length = kp'.length + 1 := by rw [sortK_length]; simp
        cases hk : sortK (kp' ++ [x]) with
        | nil => rw [hk] at hlen; simp at hlen
        | cons m r =>
          have e : srt 3 x kp' = (told m, r) := by
            have : srt 3 x kp' = match sortK (kp' ++ [x]) with
              | [] => (told .none, [])
              | m :: r => (told m, r) := rfl
            rw [this, hk]
          rw [hk] at hg3
          refine (MW_pop0 (by exact hg3) hl0).mpr ?_
          walk_at "mx"
          unfold law_sorted_s1
          walk_at "mx"
          refine (MW_mkT (by simp)).mpr ?_
          walk_at "mx"
          rw [e]
          exact ⟨rfl, hp.trans ((Pres.set (by simp)).trans ((Pres.set (by simp)).trans (Pres.set (by simp)))), set_get' hg3⟩
      · rw [if_neg (by simpa using h3')]
        walk_at "mx"
        unfold law_sorted_s1
        walk_at "mx"
        refine (MW_mkT (by simp)).mpr ?_
        walk_at "mx"
        rw [hs h3']
        exact ⟨rfl, hp.trans ((Pres.set (by simp)).trans (Pres.set (by simp))), hg3⟩
    by_cases h4 : c = 4
    · subst h4
      rw [if_pos (decide_eq_true rfl)]
      walk_at "mx"
      refine MW_newL' (by simp) fun k st1 p1 f1 g1 => ?_
      walk_at "mx"
      refine (MW_eqNil (vs := kp) (p1.get0 hl) g1 sm).mpr ?_
      cases kp with
      | nil =>
        simp only [List.isEmpty_nil, Bool.not_true]
        walk_at "mx"
        refine (MW_mkT (by simp)).mpr ?_
        walk_at "mx"
        exact ⟨rfl, p1.mono (by simp), p1.get0 hl⟩
      | cons m r =>
        have hg : st1[l]? = some (.lst (m :: r)) := p1.get0 hl
        simp only [List.isEmpty_cons]
        walk_at "mx"
        unfold law_sorted_s6
        apply w_seq
        walk_at "mx"
        unfold law_sorted_s5
        apply w_seq
        walk_at "mx"
        rw [if_pos (decide_eq_true rfl)]
        walk_at "mx"
        refine (MW_chkL (by exact hg)).mpr ?_
        walk_at "mx"
        refine (MW_pop0 (by exact hg) hl0).mpr ?_
        walk_at "mx"
        refine rest _ r m rfl rfl rfl rfl (p1.nil.trans (Pres.set (by simp))) (set_get' hg) (by simp at hn; (first | lia | omega)) (ok4 rfl) (fun _ => rfl) (fun h => nomatch h)
    · rw [if_neg (by simpa using h4)]
      walk_at "mx"
      unfold law_sorted_s6
      apply w_seq
      walk_at "mx"
      unfold law_sorted_s5
      apply w_seq
      walk_at "mx"
      rw [if_neg (by simpa using h4)]
      walk_at "mx"
      refine rest _ kp .none rfl rfl rfl rfl (Pres.refl _ _) hl hn (ok h2 h4) (fun h3 => ?_) (fun _ => rfl)
      unfold srt
      rw [if_neg h2, if_neg h4, if_neg h3]
  obtain ⟨v, st', h1, rfl, h2, h3⟩ := key
  exact ⟨st', h1, h2, h3⟩
end

/-! part L05e -/
set_option autoImplicit false
set_option maxRecDepth 100000
set_option linter.unusedVariables false
set_option linter.unusedSimpArgs false
open PySem PySem.W PyProof.Rows
section
/-! ### the way down -/
section
variable {α : Type} [Inhabited α] {lt : α → α → Bool}
theorem down_leaf : ∀ (k : Nat) (vs : List α) (pos : Nat), vs.length - pos ≤ k → ¬ 2 * (down lt vs pos).2 + 1 < vs.length := by
  intro k
  induction k with
  | zero => intro vs pos h; rw [down, dif_neg (by (first | lia | omega))]; dsimp only; (first | lia | omega)
  | succ k ih =>
    intro vs pos h
    rw [down]
    split
    · have h3 := kid_gt lt vs pos
      have := ih (vs.set pos (nth vs (kid lt vs pos))) (kid lt vs pos) (by simp; (first | lia | omega))
      rwa [List.length_set] at this
    · assumption
theorem down_at_leaf {vs : List α} {pos : Nat} (h : ¬ 2 * pos + 1 < vs.length) : down lt vs pos = (vs, pos) := by rw [down, dif_neg h]
theorem down_step {vs : List α} {pos : Nat} (h : 2 * pos + 1 < vs.length) : down lt vs pos = down lt (vs.set pos (nth vs (kid lt vs pos))) (kid lt vs pos) := by
  conv => lhs; rw [down]
  rw [dif_pos h]
theorem kid_set {vs : List α} {pos i : Nat} {v : α} (h : i ≤ pos) : kid lt (vs.set i v) pos = kid lt vs pos := by
  unfold kid
  rw [List.length_set, nth_set_ne (by (first | lia | omega)), nth_set_ne (by (first | lia | omega))]
theorem down_set_lt : ∀ (k : Nat) (vs : List α) (pos i : Nat) (v : α), vs.length - pos ≤ k → i < pos → down lt (vs.set i v) pos = ((down lt vs pos).1.set i v, (down lt vs pos).2) := by
  intro k
  induction k with
  | zero => intro vs pos i v h hi; rw [down_at_leaf (by rw [List.length_set]; (first | lia | omega)), down_at_leaf (by (first | lia | omega))]
  | succ k ih =>
    intro vs pos i v h hi
    by_cases hc : 2 * pos + 1 < vs.length
    · have h3 := kid_gt lt vs pos
      rw [down_step (vs := vs.set i v) (by rw [List.length_set]; exact hc), down_step hc, kid_set (by (first | lia | omega)), nth_set_ne (by (first | lia | omega)), List.set_comm _ _ (by (first | lia | omega) : i ≠ pos)]
      exact ih _ _ i v (by simp; (first | lia | omega)) (by (first | lia | omega))
    · rw [down_at_leaf (by rw [List.length_set]; exact hc), down_at_leaf hc]
theorem down_set0 {vs : List α} {v : α} (h : 1 < vs.length) : down lt (vs.set 0 v) 0 = down lt vs 0 := by
  have h3 := kid_gt lt vs 0
  rw [down_step (vs := vs.set 0 v) (by rw [List.length_set]; (first | lia | omega)), down_step (vs := vs) (by (first | lia | omega)), kid_set (Nat.le_refl _), nth_set_ne (by (first | lia | omega)), List.set_set]
inductive OnW (lt : α → α → Bool) (vs : List α) : Nat → Prop
  | zero : OnW lt vs 0
  | step {p : Nat} : OnW lt vs p → 2 * p + 1 < vs.length → OnW lt vs (kid lt vs p)
theorem kid_agree {vs ws : List α} {p : Nat} (hl : ws.length = vs.length) (h : ∀ j, p < j → nth ws j = nth vs j) : kid lt ws p = kid lt vs p := by
  unfold kid; rw [hl, h _ (by (first | lia | omega)), h _ (by (first | lia | omega))]
theorem down_on {vs : List α} : ∀ (k : Nat) (ws : List α) (p : Nat), ws.length = vs.length → ws.length - p ≤ k → (∀ j, p < j → nth ws j = nth vs j) → OnW lt vs p → OnW lt vs (down lt ws p).2 := by
  intro k
  induction k with
  | zero => intro ws p hl h ha ho; rw [down_at_leaf (by (first | lia | omega))]; exact ho
  | succ k ih =>
    intro ws p hl h ha ho
    rw [down]
    split
    · rename_i hc
      have h3 := kid_gt lt ws p
      have e := kid_agree (lt := lt) hl ha
      refine ih _ _ (by simpa using hl) (by simp; (first | lia | omega)) (fun j hj => ?_) (by rw [e]; exact ho.step (by (first | lia | omega)))
      rw [nth_set_ne (by (first | lia | omega))]; exact ha j (by (first | lia | omega))
    · exact ho
theorem OnW.up {vs : List α} {p : Nat} (h : OnW lt vs p) (h0 : 0 < p) : OnW lt vs ((p - 1) / 2) ∧ p = kid lt vs ((p - 1) / 2) ∧ 2 * ((p - 1) / 2) + 1 < vs.length := by
  cases h with
  | zero => (first | lia | omega)
  | step h1 h2 =>
    have e := kid_par lt vs ‹Nat›
    rw [e]
    exact ⟨h1, rfl, h2⟩
/-- the row as the walk up from the leaf rebuilds it -/
noncomputable def dueAt (lt : α → α → Bool) (vs : List α) (q : Nat) (x : α) (p : Nat) : List α := (down lt vs p).1.set q x
theorem due_up {vs : List α} {q p : Nat} {x : α} (hq : (down lt vs p).2 = q) (h0 : 0 < p) (ho : p = kid lt vs ((p - 1) / 2)) (hl : 2 * ((p - 1) / 2) + 1 < vs.length) (hp : p < vs.length) :
    (down lt vs ((p - 1) / 2)).2 = q ∧ dueAt lt vs q x ((p - 1) / 2) = (dueAt lt vs q x p).set ((p - 1) / 2) (nth vs p) := by
  have e : down lt vs ((p - 1) / 2) = ((down lt vs p).1.set ((p - 1) / 2) (nth vs p), (down lt vs p).2) := by
    conv => lhs; rw [down]
    rw [dif_pos hl, ← ho]
    exact down_set_lt _ _ _ _ _ (Nat.le_refl _) (by (first | lia | omega))
  have hge := down_gt (lt := lt) _ vs p (Nat.le_refl _)
  unfold dueAt
  rw [e]
  refine ⟨hq, ?_⟩
  dsimp only
  exact List.set_comm _ _ (by (first | lia | omega))
end

/-! ### the strange item goes to a leaf -/
noncomputable def lostL (hs : List V) (x : V) : List V := (down ltK hs 0).1.set (down ltK hs 0).2 x
noncomputable def lostQ (hs : List V) : Nat := (down ltK hs 0).2
section
variable {b : Bool} {hs : List V} {x : V}
theorem lost_length : (lostL hs x).length = hs.length := by unfold lostL; rw [List.length_set, down_length ltK _ _ _ (Nat.le_refl _)]
theorem lostQ_lt (h : 0 < hs.length) : lostQ hs < hs.length := down_pos_lt ltK _ hs 0 (Nat.le_refl _) h
theorem lostQ_pos (h : 1 < hs.length) : 0 < lostQ hs := by
  have := down_leaf (lt := ltK) _ hs 0 (Nat.le_refl _)
  unfold lostQ; (first | lia | omega)
theorem lost_perm (h : 0 < hs.length) : (lostL hs x).Perm (x :: hs.tail) := by
  refine (down_perm ltK x _ hs 0 (Nat.le_refl _) h).trans ?_
  exact (set0_perm h).trans (List.perm_append_singleton x hs.tail)
theorem lost_at (h : 0 < hs.length) : nth (lostL hs x) (lostQ hs) = x := by
  unfold lostL lostQ; rw [nth_set_self (by rw [down_length ltK _ _ _ (Nat.le_refl _)]; exact lostQ_lt h)]
theorem lost_kd (hk : ∀ v ∈ hs, Kd b v) {j : Nat} (hj : j < hs.length) (hne : j ≠ lostQ hs) : Kd b (nth (lostL hs x) j) := by
  unfold lostQ at hne
  unfold lostL
  rw [nth_set_ne (Ne.symm hne)]
  exact down_P (P := Kd b) _ hs 0 (Nat.le_refl _) (fun i hi _ => hk _ (nth_mem hi)) j hj hne
theorem strange_su (hk : ∀ v ∈ hs, Kd b v) (hx : isS x ≠ b) (h : 1 < hs.length) : ∃ p, suE ltK badK (hs.set 0 x) 0 = (lostL hs x, some (x, p)) ∧ isS p = b := by
  have h0 : 0 < hs.length := by (first | lia | omega)
  have e1 : downE ltK badK (hs.set 0 x) 0 = (down ltK hs 0, none) := by
    rw [downE_none _ _ 0 (Nat.le_refl _) fun i j h1 h2 h3 h4 => ?_, down_set0 h]
    rw [List.length_set] at h2 h4
    rw [nth_set_ne (by (first | lia | omega)), nth_set_ne (by (first | lia | omega))]
    unfold badK
    rw [(hk _ (nth_mem h2)).2, (hk _ (nth_mem h4)).2]; simp
  have e2 : nth (hs.set 0 x) 0 = x := nth_set_self h0
  have hq := lostQ_pos h
  have hql := lostQ_lt h0
  refine ⟨nth (lostL hs x) ((lostQ hs - 1) / 2), ?_, (lost_kd (x := x) hk (by (first | lia | omega)) (by (first | lia | omega))).2⟩
  unfold suE
  rw [e1, e2]
  show sdE ltK badK x 0 (lostL hs x) (lostQ hs) = _
  rw [sdE, dif_pos hq, if_pos]
  unfold badK
  rw [(lost_kd (x := x) hk (by (first | lia | omega) : (lostQ hs - 1) / 2 < hs.length) (by (first | lia | omega))).2]
  simpa using hx
end
theorem te_eq {a c p p' : V} (h : isS p = isS p') (h2 : isS a = isS c) : teK a p = teK c p' := by unfold teK nm; rw [h, h2]
noncomputable def meetM (a c : V) : Str := Str.ofString (ltWords (nm a) (nm c))
noncomputable def Str1 (b : Bool) (x : V) : Prop := It x ∧ isS x ≠ b
section
variable {b : Bool} {hs : List V} {x : V} {st : Store} {l : Nat}
theorem call3_strange (hl : st[l]? = some (.lst hs)) (h0 : 0 < hs.length) (hk : ∀ v ∈ hs, Kd b v) (hx : Str1 b x) : f_law_call [.obj l, .int 3, x] st = .ok (kinds (meetM (nth hs 0) x)) st := by
  refine call_te ?_
  unfold fnR
  rw [if_neg (by decide), if_pos rfl]
  refine heappushpopE_exc hl h0 (fun a ha => (hk a ha).1) hx.1 (cmpK st l) ?_
  unfold badK
  rw [(hk _ (nth_mem h0)).2]
  simpa using Ne.symm hx.2
theorem push_strange (hk : ∀ v ∈ hs, Kd b v) (hx : isS x ≠ b) (h0 : 0 < hs.length) : hpushE ltK badK hs x = (hs ++ [x], some (x, nth hs ((hs.length - 1) / 2))) := by
  unfold hpushE
  rw [sdE, dif_pos h0, nth_append_left (by (first | lia | omega)), if_pos]
  unfold badK
  rw [(hk _ (nth_mem (by (first | lia | omega)))).2]
  simpa using hx
theorem callP_strange {c : Int} (hl : st[l]? = some (.lst hs)) (hl0 : l ≠ 0) (hn : hs.length ≤ 3000) (h0 : 0 < hs.length) (hk : ∀ v ∈ hs, Kd b v) (hx : Str1 b x) (h2 : c ≠ 2) (h3 : c ≠ 3) (h4 : c ≠ 4) :
    f_law_call [.obj l, .int c, x] st = .ok (kinds (meetM x (nth hs 0))) (st.set l (.lst (hs ++ [x]))) := by
  refine call_te ?_
  unfold fnR
  rw [if_neg h2, if_neg h3, if_neg h4, heappushE_spec hl hl0 (by (first | lia | omega)) (fun a ha => (hk a ha).1) hx.1 (cmpK st l), push_strange hk hx.2 h0]
  show Res.exc _ _ = _
  rw [te_eq (p' := nth hs 0) (c := x) ?_ rfl]
  · rfl
  · rw [(hk _ (nth_mem (by (first | lia | omega)))).2, (hk _ (nth_mem h0)).2]
theorem erase_append {vs : List V} {x : V} : (vs ++ [x]).eraseIdx ((vs ++ [x]).length - 1) = vs := by
  rw [List.eraseIdx_append_of_length_le (by simp)]
  simp
theorem call2_strange1 {a : V} (hl : st[l]? = some (.lst [a, x])) (hl0 : l ≠ 0) (ha : It a) (hx : It x) (y : V) : f_law_call [.obj l, .int 2, y] st = .ok (told a) (st.set l (.lst [x])) := by
  refine call_ok ?_
  unfold fnR
  have hP : ∀ v ∈ ([a, x].eraseIdx ([a, x].length - 1)).set 0 (nth [a, x] ([a, x].length - 1)), It v := by
    intro v hv
    have : v = x := by
      have h2 : ([a, x].eraseIdx ([a, x].length - 1)).set 0 (nth [a, x] ([a, x].length - 1)) = [x] := rfl
      rw [h2] at hv
      exact List.mem_singleton.mp hv
    rw [this]; exact hx
  rw [if_pos rfl, heappopE_spec (P := It) (lt := ltK) (bad := badK) (te := teK) hl hl0 (by simp) (by simp) hP (cmpK st l)]
  have : hpopE ltK badK [a, x] = ([x], none) := by
    unfold hpopE
    rw [if_neg (by simp)]
    show suE ltK badK [x] 0 = _
    rw [suE_none (by simp) (by intro p hp q hq; rw [List.mem_singleton.mp hp, List.mem_singleton.mp hq]; unfold badK; simp), su_one]
  rw [this]
  rfl
theorem call2_strange (hl : st[l]? = some (.lst (hs ++ [x]))) (hl0 : l ≠ 0) (hn : hs.length ≤ 3000) (h1 : 1 < hs.length) (hk : ∀ v ∈ hs, Kd b v) (hx : Str1 b x) (y : V) :
    f_law_call [.obj l, .int 2, y] st = .ok (kinds (meetM x (nth hs 0))) (st.set l (.lst (lostL hs x))) := by
  refine call_te ?_
  obtain ⟨p, e, hp⟩ := strange_su hk hx.2 h1
  have hlast : nth (hs ++ [x]) ((hs ++ [x]).length - 1) = x := by rw [List.length_append]; exact nth_last
  unfold fnR
  rw [if_pos rfl, heappopE_spec (P := It) (lt := ltK) (bad := badK) (te := teK) hl hl0 (by simp) (by rw [List.length_append, List.length_singleton]; (first | lia | omega)) (by
    rw [erase_append, hlast]
    exact all_set (fun a ha => (hk a ha).1) hx.1) (cmpK st l)]
  have : hpopE ltK badK (hs ++ [x]) = (lostL hs x, some (x, p)) := by
    unfold hpopE
    rw [if_neg (by rw [List.length_append, List.length_singleton]; (first | lia | omega)), erase_append, hlast, e]
  rw [this]
  show Res.exc _ _ = _
  rw [te_eq (p' := nth hs 0) (c := x) ?_ rfl]
  · rfl
  · rw [hp, (hk _ (nth_mem (by (first | lia | omega)))).2]
theorem call4_strange (hl : st[l]? = some (.lst hs)) (hl0 : l ≠ 0) (hn : hs.length ≤ 3000) (h1 : 1 < hs.length) (hk : ∀ v ∈ hs, Kd b v) (hx : Str1 b x) :
    f_law_call [.obj l, .int 4, x] st = .ok (kinds (meetM x (nth hs 0))) (st.set l (.lst (lostL hs x))) := by
  refine call_te ?_
  obtain ⟨p, e, hp⟩ := strange_su hk hx.2 h1
  unfold fnR
  rw [if_neg (by decide), if_neg (by decide), if_pos rfl, heapreplaceE_spec hl hl0 (by (first | lia | omega)) (by (first | lia | omega)) (all_set (fun a ha => (hk a ha).1) hx.1) (cmpK st l), e]
  show Res.exc _ _ = _
  rw [te_eq (p' := nth hs 0) (c := x) ?_ rfl]
  · rfl
  · rw [hp, (hk _ (nth_mem (by (first | lia | omega)))).2]
end
end

/-! part L05f -/
set_option autoImplicit false
set_option maxRecDepth 100000
set_option linter.unusedVariables false
set_option linter.unusedSimpArgs false
open PySem PySem.W PyProof.Rows
section
theorem MW_addS {x y : Str} {σ : S} {Q : V → S → Prop} (h : x.length + y.length ≤ 1000000) : MW (addS (.str x) (.str y)) σ Q ↔ Q (.str (x ++ y)) σ := by
  refine MW_fun_ok ?_
  simp only [addS, if_pos h]
theorem e_addI {σ : S} {a b : Int} {Q : V → S → Prop} (k : Q (.int (a + b)) σ) : MW (addS (.int a) (.int b)) σ Q := ⟨_, σ, rfl, k⟩
theorem nxt_tup {vs : List V} (σ : S) (i : Nat) : nxtOf (.tup vs) σ i = some vs[i]? := rfl

theorem meet_ok {a c : V} {st : Store} (ha : It a) (hc : It c) (h0 : 0 < st.length) : ∃ st', f_law_meet [a, c] st = .ok (kinds (meetM a c)) st' ∧ Pres [] st st' := by
  have key : ∃ v st', f_law_meet [a, c] st = .ok v st' ∧ v = kinds (meetM a c) ∧ Pres [] st st' := by
    refine funM_ex rfl ?_
    unfold law_meet_m
    apply w_seq
    walk_at "mx"
    refine (MW_mkT (by simp)).mpr ?_
    walk_at "mx"
    refine MW_compPure (us := [a, c]) (n := 4096) (t := law_meet_c1_t) (c := law_meet_c1_i) (e := (do if (← (do let v ← (do let v ← (getv "x"); isStrV v); truV v)) = true then (pure (V.str (Str.ofString "str")) : M V) else (pure (V.str (Str.ofString "int")) : M V)))
      (fun v => some (.str (Str.ofString (nm v)))) (fun _ _ => rfl) rfl h0 (fun σ' i _ => nxt_tup σ' i) (by simp) (by simp) ?_ ?_
    · intro v hv σ' hag hlo
      have hI : It v := by
        rcases List.mem_cons.mp hv with rfl | hv
        · exact ha
        · rw [List.mem_singleton.mp hv]; exact hc
      unfold law_meet_c1_t law_meet_c1_i
      walk_at "mx"
      refine ⟨rfl, by simp, ?_⟩
      walk_at "mx"
      refine ⟨rfl, rfl, ?_⟩
      walk_at "mx"
      refine (MW_isStr hI).mpr ?_
      walk_at "mx"
      unfold nm
      cases isS v with
      | true => walk_at "mx"; exact ⟨rfl, rfl⟩
      | false => walk_at "mx"; exact ⟨rfl, rfl⟩
    · intro k st1 p f g
      walk_at "mx"
      unfold law_meet_s2
      have hg : st1[k]? = some (.lst [.str (Str.ofString (nm a)), .str (Str.ofString (nm c))]) := g
      have fin : ∀ n1 n2 : String, (n1 = "str" ∨ n1 = "int") → (n2 = "str" ∨ n2 = "int") →
          ((Str.ofString "'<' not supported between instances of '").length + (Str.ofString n1).length ≤ 1000000) ∧ ((Str.ofString "'<' not supported between instances of '" ++ Str.ofString n1).length + (Str.ofString "' and '").length ≤ 1000000) ∧
          ((Str.ofString "'<' not supported between instances of '" ++ Str.ofString n1 ++ Str.ofString "' and '").length + (Str.ofString n2).length ≤ 1000000) ∧
          ((Str.ofString "'<' not supported between instances of '" ++ Str.ofString n1 ++ Str.ofString "' and '" ++ Str.ofString n2).length + (Str.ofString "'").length ≤ 1000000) ∧
          (Str.ofString "'<' not supported between instances of '" ++ Str.ofString n1 ++ Str.ofString "' and '" ++ Str.ofString n2 ++ Str.ofString "'" = Str.ofString (ltWords n1 n2)) := by
        rintro n1 n2 (rfl | rfl) (rfl | rfl) <;> decide +kernel
      have hnm : ∀ v, nm v = "str" ∨ nm v = "int" := fun v => by unfold nm; split <;> simp
      obtain ⟨f1, f2, f3, f4, f5⟩ := fin (nm a) (nm c) (hnm a) (hnm c)
      walk_at "mx"
      refine (MW_getN (j := 0) (by exact hg) rfl (by simp)).mpr ?_
      refine w_end ((MW_addS f1).mpr ?_)
      walk_at "mx"
      refine (MW_addS f2).mpr ?_
      walk_at "mx"
      refine (MW_getN (j := 1) (by exact hg) rfl (by simp)).mpr ?_
      walk_at "mx"
      refine (MW_addS f3).mpr ?_
      walk_at "mx"
      refine (MW_addS f4).mpr ?_
      walk_at "mx"
      refine (MW_mkT (by simp)).mpr ?_
      walk_at "mx"
      refine ⟨?_, p⟩
      rw [f5]; rfl
  obtain ⟨v, st', h1, rfl, h2⟩ := key
  exact ⟨st', h1, h2⟩
end

/-! part L05g -/
set_option autoImplicit false
set_option maxRecDepth 100000
set_option linter.unusedVariables false
set_option linter.unusedSimpArgs false
open PySem PySem.W PyProof.Rows
section
theorem range_single {α : Type} (f : Nat → α) (q : Nat) : ∀ n : Nat, (List.range n).filterMap (fun j => if j = q then some (f j) else none) = if q < n then [f q] else []
  | 0 => by simp
  | n + 1 => by
    rw [List.range_succ, List.filterMap_append, range_single f q n]
    by_cases h1 : q < n
    · rw [if_pos h1, if_pos (by (first | lia | omega))]
      have : ¬ n = q := by (first | lia | omega)
      simp [this]
    · rw [if_neg h1]
      by_cases h2 : n = q
      · subst h2; simp
      · rw [if_neg (by (first | lia | omega))]; simp [h2]
theorem filterMap_cong {α β : Type} {f g : α → Option β} : ∀ {l : List α}, (∀ a ∈ l, f a = g a) → l.filterMap f = l.filterMap g
  | [], _ => rfl
  | a :: l, h => by
    rw [List.filterMap_cons, List.filterMap_cons, h a List.mem_cons_self, filterMap_cong fun b hb => h b (List.mem_cons_of_mem _ hb)]
structure LoI (lb lh ld : Nat) (x : V) (hs : List V) (st3 : Store) (p : Nat) (σ : S) : Prop where
  h1 : σ.lo "before" = some (.obj lb)
  h2 : σ.lo "heap" = some (.obj lh)
  h3 : σ.lo "item" = some x
  h4 : σ.lo "due" = some (.obj ld)
  h5 : σ.lo "place" = some (.int (p : Nat))
  h6 : σ.st = st3.set ld (.lst (dueAt ltK hs (lostQ hs) x p))
  h7 : OnW ltK hs p
  h8 : (down ltK hs p).2 = lostQ hs
  h9 : p < hs.length
theorem lost_ok {st : Store} {lb lh : Nat} {b : Bool} {hs : List V} {x : V} (hb : st[lb]? = some (.lst hs)) (hh : st[lh]? = some (.lst (lostL hs x))) (hn : hs.length ≤ 3000) (h1 : 1 < hs.length) (hk : ∀ v ∈ hs, Kd b v) (hx : Str1 b x) (h0 : 0 < st.length) :
    ∃ st', f_law_lost [.obj lb, .obj lh, x] st = .ok (.bool true) st' ∧ Pres [] st st' := by
  have hL : (lostL hs x).length = hs.length := lost_length
  have hq := lostQ_lt (hs := hs) (by (first | lia | omega))
  have hleaf : ¬ 2 * lostQ hs + 1 < hs.length := down_leaf (lt := ltK) _ hs 0 (Nat.le_refl _)
  have hItL : ∀ j, j < hs.length → It (nth (lostL hs x) j) := fun j hj => by
    by_cases e : j = lostQ hs
    · rw [e, lost_at (by (first | lia | omega))]; exact hx.1
    · exact (lost_kd hk hj e).1
  have hIs : ∀ j, j < hs.length → (isS (nth (lostL hs x) j) = isS x ↔ j = lostQ hs) := fun j hj => by
    constructor
    · intro e
      by_cases e2 : j = lostQ hs
      · exact e2
      · rw [(lost_kd hk hj e2).2] at e; exact absurd e.symm hx.2
    · rintro rfl; rw [lost_at (by (first | lia | omega))]
  have key : ∃ v st', f_law_lost [.obj lb, .obj lh, x] st = .ok v st' ∧ v = .bool true ∧ Pres [] st st' := by
    refine funM_ex rfl ?_
    unfold law_lost_m
    apply w_seq
    walk_at "mx"
    refine (MW_len (by exact hh)).mpr ?_
    walk_at "mx"
    rw [hL]
    refine (MW_fun_ok (a := V.rng 0 hs.length 1) (σ' := ⟨st, bindP ["before", "heap", "item"] [.obj lb, .obj lh, x]⟩) rfl).mpr ?_
    walk_at "mx"
    refine MW_compPure (us := (List.range hs.length).map fun (j : Nat) => V.int (0 + j)) (n := 4096) (t := law_lost_c11_t) (c := law_lost_c11_i) (e := getv "k")
      (fun v => match v with | .int k => if isS (nth (lostL hs x) k.toNat) = isS x then some v else none | _ => none) (fun _ _ => rfl) (ok_rng (rngU_small (by (first | lia | omega)) (by (first | lia | omega)) (by (first | lia | omega)))) h0 (fun σ' i _ => nxt_rngU σ' i (by (first | lia | omega))) (by simp; (first | lia | omega)) (by simp; (first | lia | omega)) ?_ ?_
    · intro v hv σ' hag hlo
      obtain ⟨j, hj, rfl⟩ := List.mem_map.mp hv
      have hj' : j < hs.length := by simpa using hj
      have hg : σ'.st[lh]? = some (.lst (lostL hs x)) := (hag lh (lt_of_get hh)).trans hh
      have e1 : σ'.lo "heap" = some (.obj lh) := (hlo "heap" (by simp)).trans rfl
      have e2 : σ'.lo "item" = some x := (hlo "item" (by simp)).trans rfl
      have ej : ((0 : Int) + (j : Nat)).toNat = j := by (first | lia | omega)
      unfold law_lost_c11_t law_lost_c11_i
      walk_at "mx"
      refine ⟨rfl, ?_, ?_⟩
      · intro y hy
        simp only [List.mem_cons, List.not_mem_nil, or_false] at hy
        rcases hy with rfl | rfl <;> simp [S.put]
      walk_at "mx"
      refine (MW_getN (j := j) (by exact hg) (by (first | lia | omega)) (by (first | lia | omega))).mpr ?_
      walk_at "mx"
      refine (MW_isStr (hItL j hj')).mpr ?_
      walk_at "mx"
      refine (MW_isStr hx.1).mpr ?_
      walk_at "mx"
      refine MW_eqB.mpr ?_
      walk_at "mx"
      refine ⟨rfl, ?_⟩
      dsimp only
      rw [ej]
      by_cases hc : isS (nth (lostL hs x) j) = isS x
      · rw [if_pos hc]
        refine ⟨by simp [hc], ?_⟩
        walk_at "mx"
        exact ⟨rfl, rfl⟩
      · rw [if_neg hc]
        simpa using hc
    · intro k st1 p1 f1 g1
      have hpl : st1[k]? = some (.lst [.int (lostQ hs)]) := by
        rw [g1]
        have e : ((List.range hs.length).map fun (j : Nat) => V.int (0 + j)).filterMap (fun v => match v with | .int k => if isS (nth (lostL hs x) k.toNat) = isS x then some v else none | _ => none) = (List.range hs.length).filterMap (fun j => if j = lostQ hs then some (V.int j) else none) := by
          rw [List.filterMap_map]
          refine filterMap_cong fun j hj => ?_
          have hj' : j < hs.length := by simpa using hj
          simp only [Function.comp, Int.zero_add, Int.toNat_natCast, hIs j hj']
        rw [e, range_single, if_pos hq]
      walk_at "mx"
      unfold law_lost_s12
      apply w_seq
      walk_at "mx"
      refine (MW_len (by exact p1.get0 hh)).mpr ?_
      walk_at "mx"
      refine (MW_len (by exact p1.get0 hb)).mpr ?_
      walk_at "mx"
      rw [hL, show (!decide ((hs.length : Int) = hs.length)) = false by simp]
      walk_at "mx"
      refine (MW_len (by exact hpl)).mpr ?_
      walk_at "mx"
      rw [show (!decide ((([V.int (lostQ hs)] : List V).length : Int) = 1)) = false by simp]
      walk_at "mx"
      refine (MW_getN (j := 0) (by exact hpl) rfl (by simp)).mpr ?_
      walk_at "mx"
      refine MW_mul.mpr ⟨by (first | lia | omega), ?_⟩
      walk_at "mx"
      refine e_addI ?_
      walk_at "mx"
      refine (MW_len (by exact p1.get0 hh)).mpr ?_
      walk_at "mx"
      rw [hL, show decide (2 * (lostQ hs : Int) + 1 < hs.length) = false from decide_eq_false (by (first | lia | omega))]
      walk_at "mx"
      unfold law_lost_s10
      apply w_seq
      walk_at "mx"
      refine (MW_getN (j := 0) (by exact hpl) rfl (by simp)).mpr ?_
      walk_at "mx"
      unfold law_lost_s9
      apply w_seq
      walk_at "mx"
      refine MW_list' (by exact p1.get0 hb) fun ld st3 p3 f3 g3 => ?_
      have p13 : Pres [] st st3 := p1.trans p3
      have hld0 : ld ≠ 0 := by have : st1.length ≤ ld := f3; have := p1.1; have : 0 < st.length := h0; intro e; subst e; have h2 : st.length ≤ st1.length := p1.1; (first | lia | omega)
      have hlb : lb ≠ ld := by have h2 : st.length ≤ st1.length := p1.1; have : st1.length ≤ ld := f3; have := lt_of_get hb; (first | lia | omega)
      have hlh : lh ≠ ld := by have h2 : st.length ≤ st1.length := p1.1; have : st1.length ≤ ld := f3; have := lt_of_get hh; (first | lia | omega)
      walk_at "mx"
      unfold law_lost_s8
      apply w_seq
      walk_at "mx"
      refine (MW_setI (by exact g3) hld0 rfl hq).mpr ?_
      walk_at "mx"
      unfold law_lost_s7
      apply w_seq
      have hb3 : st3[lb]? = some (.lst hs) := p13.get0 hb
      have hh3 : st3[lh]? = some (.lst (lostL hs x)) := p13.get0 hh
      refine MW_while (fun k σ => ∃ p, k = p ∧ LoI lb lh ld x hs st3 p σ) ?_ 4096 (lostQ hs) _ (by (first | lia | omega)) ⟨lostQ hs, rfl, rfl, rfl, rfl, rfl, rfl, ?_, ?_, ?_, hq⟩
      · rintro k σ ⟨p, rfl, a1, a2, a3, a4, a5, a6, a7, a8, a9⟩
        have gb : σ.st[lb]? = some (.lst hs) := by rw [a6, List.getElem?_set_ne (Ne.symm hlb)]; exact hb3
        have gh : σ.st[lh]? = some (.lst (lostL hs x)) := by rw [a6, List.getElem?_set_ne (Ne.symm hlh)]; exact hh3
        have gd : σ.st[ld]? = some (.lst (dueAt ltK hs (lostQ hs) x k)) := by rw [a6]; exact set_get' g3
        have hdl : (dueAt ltK hs (lostQ hs) x k).length = hs.length := by unfold dueAt; rw [List.length_set, down_length ltK _ _ _ (Nat.le_refl _)]
        unfold law_lost_w5_c law_lost_w5_b
        walk_at "mx"
        by_cases hp : 0 < k
        · rw [if_pos (decide_eq_true (by (first | lia | omega)))]
          obtain ⟨u1, u2, u3⟩ := a7.up hp
          obtain ⟨d1, d2⟩ := due_up (x := x) a8 hp u2 u3 a9
          have eo : ((k : Int) - 1) / 2 = (((k - 1) / 2 : Nat) : Int) := by (first | lia | omega)
          apply w_seq
          walk_at "mx"
          refine MW_fdiv.mpr ⟨by (first | lia | omega), ?_⟩
          rw [eo]
          walk_at "mx"
          unfold law_lost_s4
          apply w_seq
          walk_at "mx"
          refine (MW_getN (by exact gb) rfl a9).mpr ?_
          walk_at "mx"
          refine (MW_setI (j := (k - 1) / 2) (by exact gd) hld0 rfl (by rw [hdl]; (first | lia | omega))).mpr ?_
          walk_at "mx"
          have gb2 : (σ.st.set ld (.lst ((dueAt ltK hs (lostQ hs) x k).set ((k - 1) / 2) (nth hs k))))[lb]? = some (.lst hs) := by rw [List.getElem?_set_ne (Ne.symm hlb)]; exact gb
          unfold law_lost_s3
          apply w_seq
          walk_at "mx"
          refine MW_mul.mpr ⟨by (first | lia | omega), ?_⟩
          walk_at "mx"
          refine e_addI ?_
          walk_at "mx"
          unfold law_lost_s2
          apply w_seq
          walk_at "mx"
          refine e_addI ?_
          walk_at "mx"
          refine (MW_len (by exact gb2)).mpr ?_
          walk_at "mx"
          have fin : LoI lb lh ld x hs st3 ((k - 1) / 2) ⟨σ.st.set ld (.lst ((dueAt ltK hs (lostQ hs) x k).set ((k - 1) / 2) (nth hs k))), fun y => if y = "place" then some (.int (((k - 1) / 2 : Nat) : Int)) else if y = "left" then some (.int (2 * (((k - 1) / 2 : Nat) : Int) + 1)) else if y = "over" then some (.int (((k - 1) / 2 : Nat) : Int)) else σ.lo y⟩ :=
            ⟨a1, a2, a3, a4, rfl, by show σ.st.set ld _ = _; rw [d2, a6, List.set_set], u1, d1, by (first | lia | omega)⟩
          have rest : MW law_lost_s1 ⟨σ.st.set ld (.lst ((dueAt ltK hs (lostQ hs) x k).set ((k - 1) / 2) (nth hs k))), fun y => if y = "left" then some (.int (2 * (((k - 1) / 2 : Nat) : Int) + 1)) else if y = "over" then some (.int (((k - 1) / 2 : Nat) : Int)) else σ.lo y⟩ (fun f σ₂ => match f with | .next => ∃ j, j < k ∧ ∃ p, j = p ∧ LoI lb lh ld x hs st3 p σ₂ | .cont => ∃ j, j < k ∧ ∃ p, j = p ∧ LoI lb lh ld x hs st3 p σ₂ | .brk => False | .ret v => False) := by
            unfold law_lost_s1
            walk_at "mx"
            exact ⟨_, by (first | lia | omega), _, rfl, fin⟩
          split
          · rename_i hr
            have hr' : 2 * ((k - 1) / 2) + 2 < hs.length := by have := of_decide_eq_true hr; (first | lia | omega)
            walk_at "mx"
            refine (MW_getN (j := 2 * ((k - 1) / 2) + 1) (by exact gb2) (by (first | lia | omega)) (by (first | lia | omega))).mpr ?_
            walk_at "mx"
            refine e_addI ?_
            walk_at "mx"
            refine (MW_getN (j := 2 * ((k - 1) / 2) + 2) (by exact gb2) (by (first | lia | omega)) hr').mpr ?_
            walk_at "mx"
            refine (MW_ltIt (hk _ (nth_mem u3)).1 (hk _ (nth_mem hr')).1 (by rw [(hk _ (nth_mem u3)).2, (hk _ (nth_mem hr')).2])).mpr ?_
            walk_at "mx"
            refine MW_neB.mpr ?_
            have hkid : (ltK (nth hs (2 * ((k - 1) / 2) + 1)) (nth hs (2 * ((k - 1) / 2) + 2)) != decide ((k : Int) = 2 * (((k - 1) / 2 : Nat) : Int) + 1)) = false := by
              unfold kid at u2
              cases hl : ltK (nth hs (2 * ((k - 1) / 2) + 1)) (nth hs (2 * ((k - 1) / 2) + 2)) with
              | true =>
                rw [hl, if_neg (by simp)] at u2
                rw [decide_eq_true (by (first | lia | omega))]; rfl
              | false =>
                rw [hl, if_pos ⟨hr', rfl⟩] at u2
                rw [decide_eq_false (by (first | lia | omega))]; rfl
            rw [hkid]
            walk_at "mx"
            exact rest.mono fun f σ₂ h => by cases f <;> first | exact h | exact h.elim
          · walk_at "mx"
            exact rest.mono fun f σ₂ h => by cases f <;> first | exact h | exact h.elim
        · have hp0 : k = 0 := by (first | lia | omega)
          subst hp0
          rw [if_neg (by simp)]
          walk_at "mx"
          unfold law_lost_s6
          walk_at "mx"
          have hdue : dueAt ltK hs (lostQ hs) x 0 = lostL hs x := rfl
          rw [hdue] at gd
          refine (MW_eqLL (vs := lostL hs x) (by exact gh) (by exact gd) fun v hv => ?_).mpr ?_
          · obtain ⟨i, hi, rfl⟩ := List.mem_iff_getElem.mp hv
            rw [← nth_getElem hi]
            exact (hItL i (by (first | lia | omega))).sm
          · walk_at "mx"
            refine ⟨rfl, ?_⟩
            rw [a6]
            refine ⟨by rw [List.length_set]; exact p13.1, fun i hi hm => ?_⟩
            have hne : ld ≠ i := by have h2 : st.length ≤ st1.length := p1.1; have : st1.length ≤ ld := f3; (first | lia | omega)
            rw [List.getElem?_set_ne hne]
            exact p13.2 i hi hm
      · show st3.set ld _ = st3.set ld _
        have : dueAt ltK hs (lostQ hs) x (lostQ hs) = hs.set (lostQ hs) x := by unfold dueAt; rw [down_at_leaf hleaf]
        rw [this]
      · exact down_on _ hs 0 rfl (Nat.le_refl _) (fun _ _ => rfl) OnW.zero
      · rw [down_at_leaf hleaf]
  obtain ⟨v, st', e1, rfl, e2⟩ := key
  exact ⟨st', e1, e2⟩
end

/-! part L05h -/
set_option autoImplicit false
set_option maxRecDepth 100000
set_option linter.unusedVariables false
set_option linter.unusedSimpArgs false
open PySem PySem.W PyProof.Rows
section
theorem strOk_of (s : String) : PyData.strOk (Str.ofString s) = true := by
  unfold PyData.strOk
  rw [Str.ofString_eq_toList]
  rw [List.all_toArray, List.all_map, List.all_eq_true]
  intro c _
  have := c.valid
  simp only [Function.comp, decide_eq_true_eq]
  have e : c.toNat = c.val.toNat := rfl
  rcases this with h | h
  · rw [e]; (first | lia | omega)
  · rw [e]; exact h.2
theorem it_str (s : String) : It (.str (Str.ofString s)) := .inr ⟨_, rfl, strOk_of s⟩
theorem told_sm {v : V} (h : Sm v) : ∀ u ∈ [V.str (Str.ofString "told"), v], Sm u := by
  intro u hu
  rcases List.mem_cons.mp hu with rfl | hu
  · exact (it_str _).sm
  · rw [List.mem_singleton.mp hu]; exact h
theorem pair_sm (a b : String) : ∀ u ∈ [V.str (Str.ofString a), V.str (Str.ofString b)], Sm u := by
  intro u hu
  rcases List.mem_cons.mp hu with rfl | hu
  · exact (it_str _).sm
  · rw [List.mem_singleton.mp hu]; exact (it_str _).sm
theorem srt_sm {c : Int} {x : V} {kp : List V} (hx : Sm x) (hk : ∀ v ∈ kp, Sm v) : ∃ vs, (srt c x kp).1 = .tup vs ∧ ∀ v ∈ vs, Sm v := by
  unfold srt
  split
  · cases kp with
    | nil => exact ⟨_, rfl, pair_sm _ _⟩
    | cons m r => exact ⟨_, rfl, told_sm (hk m List.mem_cons_self)⟩
  · split
    · cases kp with
      | nil => exact ⟨_, rfl, pair_sm _ _⟩
      | cons m r => exact ⟨_, rfl, told_sm (hk m List.mem_cons_self)⟩
    · split
      · have hs : ∀ v ∈ sortK (kp ++ [x]), Sm v := fun v hv => by
          rcases List.mem_append.mp ((sortK_perm _).mem_iff.mp hv) with h | h
          · exact hk v h
          · rw [List.mem_singleton.mp h]; exact hx
        cases e : sortK (kp ++ [x]) with
        | nil => exact ⟨_, rfl, told_sm (.inr rfl)⟩
        | cons m r => exact ⟨_, rfl, told_sm (hs m (by rw [e]; exact List.mem_cons_self))⟩
      · exact ⟨_, rfl, told_sm (.inr rfl)⟩

/-! ### the law's loop -/
structure Jv (ln : Nat) (nums : List V) (lh lk : Nat) (hs : List V) (σ : S) : Prop where
  a1 : σ.lo "heap" = some (.obj lh)
  a2 : σ.lo "kept" = some (.obj lk)
  a3 : σ.st[lh]? = some (.lst hs)
  a4 : σ.st[lk]? = some (.lst (sortK hs))
  a5 : lh ≠ lk ∧ lh ≠ 0 ∧ lk ≠ 0 ∧ lh ≠ ln ∧ lk ≠ ln
  a6 : σ.st[ln]? = some (.lst nums)
  a7 : ∃ b, Hp b hs
noncomputable def JP (ln : Nat) (nums : List V) (n : Nat) (f : Fl) (σ : S) : Prop := (f = .next ∨ f = .cont) ∧ ∃ lh lk hs, Jv ln nums lh lk hs σ ∧ hs.length ≤ n
variable {ln : Nat} {nums : List V} {n : Nat}

/-- the check that the row is a heap, and on -/
theorem heap_check {lh lk : Nat} {hs : List V} {σ : S} (J : Jv ln nums lh lk hs σ) (hl : hs.length ≤ n) (hn : n ≤ 3000) : MW law_s19 σ (fun f σ' => f = .cont ∧ JP ln nums n f σ') := by
  obtain ⟨a1, a2, a3, a4, a5, a6, b, a7⟩ := J
  unfold law_s19
  apply w_seq
  walk_at "mx"
  refine (MW_len (by exact a3)).mpr ?_
  walk_at "mx"
  refine (MW_fun_ok (a := V.rng 1 hs.length 1) (σ' := σ) rfl).mpr ?_
  walk_at "mx"
  refine MW_compPure (us := (List.range (hs.length - 1)).map fun (j : Nat) => V.int (1 + j)) (n := 4096) (t := law_c17_t) (c := law_c17_i) (e := getv "k")
    (fun _ => none) (fun _ _ => rfl) (ok_rng (rngU_small (by (first | lia | omega)) (by (first | lia | omega)) (by (first | lia | omega)))) (by have := lt_of_get a3; (first | lia | omega)) (fun σ' i _ => nxt_rngU σ' i (by (first | lia | omega))) (by simp; (first | lia | omega)) (by simp; (first | lia | omega)) ?_ ?_
  · intro v hv σ' hag hlo
    obtain ⟨j, hj, rfl⟩ := List.mem_map.mp hv
    have hj' : j < hs.length - 1 := by simpa using hj
    have hg : σ'.st[lh]? = some (.lst hs) := (hag lh (lt_of_get a3)).trans a3
    have e1 : σ'.lo "heap" = some (.obj lh) := (hlo "heap" (by simp)).trans a1
    unfold law_c17_t law_c17_i
    walk_at "mx"
    refine ⟨rfl, ?_, ?_⟩
    · intro y hy
      rw [List.mem_singleton.mp hy]; simp [S.put]
    walk_at "mx"
    refine (MW_getN (j := 1 + j) (by exact hg) (by (first | lia | omega)) (by (first | lia | omega))).mpr ?_
    walk_at "mx"
    refine MW_fdiv.mpr ⟨by (first | lia | omega), ?_⟩
    walk_at "mx"
    refine (MW_getN (j := (1 + j - 1) / 2) (by exact hg) (by (first | lia | omega)) (by (first | lia | omega))).mpr ?_
    walk_at "mx"
    have k1 := a7.kd _ (nth_mem (vs := hs) (i := 1 + j) (by (first | lia | omega)))
    have k2 := a7.kd _ (nth_mem (vs := hs) (i := (1 + j - 1) / 2) (by (first | lia | omega)))
    refine (MW_ltIt k1.1 k2.1 (k1.2.trans k2.2.symm)).mpr ?_
    walk_at "mx"
    exact ⟨rfl, a7.heap (1 + j) (by (first | lia | omega)) (by (first | lia | omega)) (by (first | lia | omega))⟩
  · intro k st1 p1 f1 g1
    have g1' : st1[k]? = some (.lst []) := by rw [g1]; simp
    walk_at "mx"
    refine MW_newL' (by simp) fun k2 st2 p2 f2 g2 => ?_
    walk_at "mx"
    refine (MW_neNil (vs := []) (by exact p2.get0 g1') (by exact g2) (by simp)).mpr ?_
    simp only [List.isEmpty_nil, Bool.not_true]
    walk_at "mx"
    unfold law_s18
    walk_at "mx"
    have p := p1.trans p2
    exact ⟨rfl, .inr rfl, lh, lk, hs, ⟨a1, a2, p.get0 a3, p.get0 a4, a5, p.get0 a6, b, a7⟩, hl⟩

/-- what the lost top leaves: the others, as a heap -/
theorem lost_end {lh lk lb : Nat} {b : Bool} {hs : List V} {x : V} {σ : S} (h1 : σ.lo "heap" = some (.obj lh)) (h2 : σ.lo "kept" = some (.obj lk)) (h3 : σ.lo "before" = some (.obj lb)) (h4 : σ.lo "item" = some x)
    (g1 : σ.st[lh]? = some (.lst (lostL hs x))) (g2 : σ.st[lk]? = some (.lst (sortK hs))) (g3 : σ.st[lb]? = some (.lst hs)) (a5 : lh ≠ lk ∧ lh ≠ 0 ∧ lk ≠ 0 ∧ lh ≠ ln ∧ lk ≠ ln) (a6 : σ.st[ln]? = some (.lst nums))
    (H : Hp b hs) (hx : Str1 b x) (hl : 1 < hs.length) (hln : hs.length ≤ n) (hn : n ≤ 3000) : MW law_s13 σ (JP ln nums n) := by
  have hst : 0 < σ.st.length := by have := lt_of_get g1; (first | lia | omega)
  unfold law_s13
  apply w_seq
  walk_at "mx"
  obtain ⟨st1, e1, p1⟩ := lost_ok g3 g1 (by (first | lia | omega)) hl H.kd hx hst
  refine MW_callF' (by exact e1) ?_
  walk_at "mx"
  simp only [Bool.not_true]
  walk_at "mx"
  unfold law_s5
  apply w_seq
  walk_at "mx"
  have hL : (lostL hs x).length = hs.length := lost_length
  have hp := lost_perm (x := x) (show 0 < hs.length by (first | lia | omega))
  have hIt : ∀ v ∈ lostL hs x, It v := fun v hv => by
    rcases List.mem_cons.mp (hp.mem_iff.mp hv) with rfl | h
    · exact hx.1
    · exact (H.kd v (List.mem_of_mem_tail h)).1
  have g1' : st1[lh]? = some (.lst (lostL hs x)) := p1.get0 g1
  refine MW_compPure (us := lostL hs x) (n := 4096) (t := law_c3_t) (c := law_c3_i) (e := getv "one")
    (fun v => if isS v = isS x then none else some v) (fun _ _ => rfl) (ok_obj (by exact g1')) (by have := p1.1; show 0 < st1.length; (first | lia | omega)) (fun σ' i hag => nxt_obj (by exact g1') σ' i hag) (by (first | lia | omega)) (by (first | lia | omega)) ?_ ?_
  · intro v hv σ' hag hlo
    have e4 : σ'.lo "item" = some x := (hlo "item" (by simp)).trans h4
    unfold law_c3_t law_c3_i
    walk_at "mx"
    refine ⟨rfl, ?_, ?_⟩
    · intro y hy
      rw [List.mem_singleton.mp hy]; simp [S.put]
    walk_at "mx"
    refine (MW_isStr (hIt v hv)).mpr ?_
    walk_at "mx"
    refine (MW_isStr hx.1).mpr ?_
    walk_at "mx"
    refine MW_neB.mpr ?_
    walk_at "mx"
    refine ⟨rfl, ?_⟩
    by_cases hc : isS v = isS x
    · rw [if_pos hc]
      simpa using hc
    · rw [if_neg hc]
      refine ⟨by simpa using hc, ?_⟩
      walk_at "mx"
      exact ⟨rfl, rfl⟩
  · intro k st2 p2 f2 gk
    have f2 : st1.length ≤ k := f2
    have p2 : Pres [] st1 st2 := p2
    have gk : st2[k]? = some (.lst ((lostL hs x).filterMap fun v => if isS v = isS x then none else some v)) := gk
    have p12 := p1.trans p2
    have hfp : ((lostL hs x).filterMap fun v => if isS v = isS x then none else some v).Perm hs.tail := by
      refine (hp.filterMap _).trans ?_
      rw [List.filterMap_cons]
      simp only [if_true]
      have e : hs.tail.filterMap (fun v => if isS v = isS x then none else some v) = hs.tail.filterMap some := filterMap_cong fun v hv => by
        have := (H.kd v (List.mem_of_mem_tail hv)).2
        rw [if_neg (by rw [this]; exact fun e => hx.2 e.symm)]
      rw [e, List.filterMap_some]
    generalize hfs : (lostL hs x).filterMap (fun v => if isS v = isS x then none else some v) = fs at gk hfp
    have hfl : fs.length + 1 = hs.length := by
      have := hfp.length_eq
      rw [List.length_tail] at this; (first | lia | omega)
    have hfk : ∀ v ∈ fs, Kd b v := fun v hv => H.kd v (List.mem_of_mem_tail (hfp.mem_iff.mp hv))
    have hk0 : k ≠ 0 := by have := p1.1; (first | lia | omega)
    walk_at "mx"
    unfold law_s4
    apply w_seq
    walk_at "mx"
    have hfy := heapifyN (P := Kd b) (lt := ltK) gk hk0 (by (first | lia | omega)) hfk (ltAtK st2 k b)
    refine MW_callF' (by exact hfy) ?_
    walk_at "mx"
    unfold law_s2
    walk_at "mx"
    have hlk : lk < σ.st.length := lt_of_get g2
    have hlnn : ln < σ.st.length := lt_of_get a6
    have hks : σ.st.length ≤ k := by have h1 : σ.st.length ≤ st1.length := p1.1; (first | lia | omega)
    have hsrt := H.sort (by (first | lia | omega) : 0 < hs.length)
    rw [hsrt] at g2
    have g2' : (st2.set k (.lst (hpfy ltK (fs.length / 2) fs)))[lk]? = some (.lst (nth hs 0 :: sortK hs.tail)) := by
      rw [List.getElem?_set_ne (by (first | lia | omega))]; exact p12.get0 g2
    refine (MW_chkL (by exact g2')).mpr ?_
    walk_at "mx"
    refine (MW_pop0 (by exact g2') a5.2.2.1).mpr ?_
    walk_at "mx"
    have hpm := hpfy_perm ltK (fs.length / 2) fs (by (first | lia | omega))
    refine ⟨.inl rfl, k, lk, hpfy ltK (fs.length / 2) fs, ⟨rfl, h2, ?_, ?_, ⟨by (first | lia | omega), hk0, a5.2.2.1, by (first | lia | omega), a5.2.2.2.2⟩, ?_, b, ⟨fun v hv => hfk v (hpm.mem_iff.mp hv), hpfy_heap (swoK (Kd b)) _ _ (by (first | lia | omega)) hfk (heapFrom_half _ _)⟩⟩, ?_⟩
    · show ((st2.set k _).set lk _)[k]? = _
      rw [List.getElem?_set_ne (by (first | lia | omega))]
      exact set_get' gk
    · show ((st2.set k _).set lk _)[lk]? = _
      rw [set_get' g2', sortK_congr (okK_kd (b := b) fun v hv => H.kd v (List.mem_of_mem_tail hv)) (hpm.trans hfp)]
    · show ((st2.set k _).set lk _)[ln]? = _
      rw [List.getElem?_set_ne a5.2.2.2.2, List.getElem?_set_ne (by (first | lia | omega))]
      exact p12.get0 a6
    · rw [hpm.length_eq]; (first | lia | omega)
end

/-! part L05i -/
set_option autoImplicit false
set_option maxRecDepth 100000
set_option linter.unusedVariables false
set_option linter.unusedSimpArgs false
open PySem PySem.W PyProof.Rows
section
variable {ln : Nat} {nums : List V} {n : Nat}

theorem Hp.sm {b : Bool} {hs : List V} (h : Hp b hs) : ∀ v ∈ hs, Sm v := fun v hv => (h.kd v hv).1.sm
theorem sortK_sm {hs : List V} (h : ∀ v ∈ hs, Sm v) : ∀ v ∈ sortK hs, Sm v := fun v hv => h v ((sortK_perm hs).mem_iff.mp hv)
theorem own_okK {b : Bool} {c : Int} {x : V} {hs : List V} (h : Hp b hs) (hx : It x) (ho : Own c x hs) : (c ≠ 2 → c ≠ 4 → okK (sortK hs ++ [x]) = true) ∧ (c = 4 → okK ((sortK hs).tail ++ [x]) = true) := by
  have one : okK [x] = true := okK_kd (b := isS x) (by intro v hv; rw [List.mem_singleton.mp hv]; exact ⟨hx, rfl⟩)
  have all : (hs = [] ∨ isS x = isS (nth hs 0)) → ∀ v ∈ sortK hs, Kd (isS x) v := by
    intro e v hv
    have hv' := (sortK_perm hs).mem_iff.mp hv
    rcases e with rfl | e
    · cases hv'
    · have h0 : 0 < hs.length := List.length_pos_of_mem hv'
      rw [e, (h.kd _ (nth_mem h0)).2]
      exact h.kd v hv'
  have snoc : ∀ vs : List V, (∀ v ∈ vs, Kd (isS x) v) → okK (vs ++ [x]) = true := fun vs hv => okK_kd (b := isS x) fun v hm => by
    rcases List.mem_append.mp hm with hm | hm
    · exact hv v hm
    · rw [List.mem_singleton.mp hm]; exact ⟨hx, rfl⟩
  refine ⟨fun h2 h4 => ?_, fun h4 => ?_⟩
  · rcases ho with e | e | e | e
    · exact absurd e h2
    · exact snoc _ (all (.inl e))
    · exact snoc _ (all (.inr e))
    · exact absurd e.1 h4
  · rcases ho with e | e | e | e
    · rw [e] at h4; cases h4
    · exact snoc _ fun v hv => all (.inl e) v (List.mem_of_mem_tail hv)
    · exact snoc _ fun v hv => all (.inr e) v (List.mem_of_mem_tail hv)
    · have : (sortK hs).tail = [] := List.eq_nil_of_length_eq_zero (by rw [List.length_tail, sortK_length, e.2])
      rw [this]; exact one

structure Bv (ln : Nat) (nums : List V) (lh lk lb : Nat) (c own : Int) (x T : V) (hs hs' : List V) (σ : S) : Prop where
  a1 : σ.lo "heap" = some (.obj lh)
  a2 : σ.lo "kept" = some (.obj lk)
  a3 : σ.lo "before" = some (.obj lb)
  a4 : σ.lo "call" = some (.int c)
  a5 : σ.lo "item" = some x
  a6 : σ.lo "told" = some T
  a7 : σ.lo "own" = some (.int own)
  b1 : σ.st[lh]? = some (.lst hs')
  b2 : σ.st[lk]? = some (.lst (sortK hs))
  b3 : σ.st[lb]? = some (.lst hs)
  b4 : σ.st[ln]? = some (.lst nums)
  c1 : lh ≠ lk ∧ lh ≠ 0 ∧ lk ≠ 0 ∧ lh ≠ ln ∧ lk ≠ ln
  c2 : lb ≠ lh ∧ lb ≠ lk

theorem s21_own {lh lk lb : Nat} {c own : Int} {x : V} {hs : List V} {b : Bool} {σ : S} (B : Bv ln nums lh lk lb c own x (hst c x hs).1 hs (hst c x hs).2 σ) (h : Hp b hs) (hx : It x) (ho : Own c x hs) (hn : hs.length + 1 ≤ n) (hn2 : n ≤ 100) : MW law_s21 σ (JP ln nums n) := by
  obtain ⟨a1, a2, a3, a4, a5, a6, a7, b1, b2, b3, b4, c1, c2⟩ := B
  obtain ⟨e1, e2, ⟨b', e3⟩, e4⟩ := own_ok h hx ho
  obtain ⟨k1, k2⟩ := own_okK h hx ho
  unfold law_s21
  apply w_seq
  refine w_end (MW.mono (Q := fun t σ' => t = true ∧ σ'.lo = σ.lo ∧ Pres [] σ.st σ'.st) ?_ ?_)
  · walk_at "mx"
    by_cases h2 : c = 2
    · rw [if_pos (decide_eq_true h2)]
      walk_at "mx"
      exact ⟨rfl, rfl, Pres.refl _ _⟩
    rw [if_neg (by simpa using h2)]
    walk_at "mx"
    refine MW_newL' (by simp) fun k st1 p1 f1 g1 => ?_
    walk_at "mx"
    refine (MW_eqNil (vs := hs) (by exact p1.get0 b3) (by exact g1) h.sm).mpr ?_
    cases hs with
    | nil =>
      simp only [List.isEmpty_nil]
      walk_at "mx"
      exact ⟨rfl, rfl, p1⟩
    | cons y ys =>
      simp only [List.isEmpty_cons]
      walk_at "mx"
      refine (MW_isStr hx).mpr ?_
      walk_at "mx"
      refine (MW_getN (j := 0) (by exact p1.get0 b3) rfl (by simp)).mpr ?_
      walk_at "mx"
      refine (MW_isStr (h.kd _ (nth_mem (by simp))).1).mpr ?_
      walk_at "mx"
      refine MW_eqB.mpr ?_
      walk_at "mx"
      by_cases h3 : isS x = isS (nth (y :: ys) 0)
      · rw [if_pos (by simpa using h3)]
        walk_at "mx"
        exact ⟨rfl, rfl, p1⟩
      rw [if_neg (by simpa using h3)]
      have h4 : c = 4 ∧ (y :: ys).length = 1 := by
        rcases ho with e | e | e | e
        · exact absurd e h2
        · cases e
        · exact absurd e h3
        · exact e
      walk_at "mx"
      rw [if_pos (decide_eq_true h4.1)]
      walk_at "mx"
      refine (MW_len (by exact p1.get0 b3)).mpr ?_
      walk_at "mx"
      rw [if_pos (decide_eq_true (by rw [h4.2]; rfl))]
      walk_at "mx"
      exact ⟨rfl, rfl, p1⟩
  · rintro t ⟨st1, lo1⟩ ⟨rfl, hlo, p1⟩
    dsimp only at hlo p1
    subst hlo
    rw [if_pos rfl]
    apply w_seq
    walk_at "mx"
    have hs1 : st1[lk]? = some (.lst (sortK hs)) := p1.get0 b2
    obtain ⟨st2, f1, p2, f3⟩ := sorted_own (x := x) (c := c) hs1 c1.2.2.1 (by rw [sortK_length]; (first | lia | omega)) (sortK_sm h.sm) k1 k2
    refine MW_callF' (by exact f1) ?_
    walk_at "mx"
    obtain ⟨vs, ev, hv⟩ := srt_sm (c := c) hx.sm (sortK_sm h.sm)
    rw [e1, ev]
    refine (MW_neTT hv).mpr ?_
    walk_at "mx"
    have hh2 : st2[lh]? = some (.lst (hst c x hs).2) := p2.get (p1.get0 b1) (by simp; exact c1.1)
    refine MW_sortedN' (by exact hh2) e3.ok (by (first | lia | omega)) fun k st3 p3 g3 q3 => ?_
    walk_at "mx"
    rw [e2] at q3
    refine (MW_neLL (vs := (srt c x (sortK hs)).2) (by exact q3) (by exact p3.get0 f3) (by rw [← e2]; exact sortK_sm e3.sm)).mpr ?_
    walk_at "mx"
    have J : Jv ln nums lh lk (hst c x hs).2 ⟨st3, σ.lo⟩ := ⟨a1, a2, p3.get0 hh2, by rw [e2]; exact p3.get0 f3, c1, p3.get0 (p2.get (p1.get0 b4) (by simp; exact Ne.symm c1.2.2.2.2)), b', e3⟩
    exact (heap_check (n := n) J (by (first | lia | omega)) (by (first | lia | omega))).mono (by rintro f σ' ⟨rfl, h⟩; exact h)

theorem kinds_sm (m : String) : ∀ u ∈ [V.str (Str.ofString "kinds"), V.str (Str.ofString m)], Sm u := pair_sm _ _
theorem MW_neK {a c : V} {σ : S} {Q : V → S → Prop} : MW (neV (kinds (meetM a c)) (kinds (meetM a c))) σ Q ↔ Q (.bool false) σ := MW_neTT (kinds_sm _)
theorem MW_addSL {l k : Nat} {as bs : List V} {σ : S} {Q : V → S → Prop} (h1 : σ.st[l]? = some (.lst as)) (h2 : σ.st[k]? = some (.lst bs)) (hn : (as ++ bs).length ≤ 1000000)
    (q : ∀ k st', Pres [] σ.st st' → σ.st.length ≤ k → st'[k]? = some (.lst (as ++ bs)) → Q (.obj k) ⟨st', σ.lo⟩) : MW (addS (.obj l) (.obj k)) σ Q := MW_addL' h1 h2 hn q

/-- what the heap is behind a refused call -/
noncomputable def strH (c : Int) (x : V) (hs : List V) : List V := if c = 3 then hs else if c = 4 then lostL hs x else hs ++ [x]
noncomputable def strT (c : Int) (x : V) (hs : List V) : V := if c = 3 then kinds (meetM (nth hs 0) x) else kinds (meetM x (nth hs 0))
theorem call_strange {st : Store} {l : Nat} {c : Int} {hs : List V} {x : V} {b : Bool} (hl : st[l]? = some (.lst hs)) (hl0 : l ≠ 0) (hn : hs.length ≤ 3000) (h : Hp b hs) (hx : It x) (ho : ¬ Own c x hs) :
    f_law_call [.obj l, .int c, x] st = .ok (strT c x hs) (st.set l (.lst (strH c x hs))) ∧ Str1 b x ∧ 0 < hs.length ∧ c ≠ 2 ∧ (c = 4 → 1 < hs.length) := by
  have h2 : c ≠ 2 := fun e => ho (.inl e)
  have h0 : 0 < hs.length := List.length_pos_iff.mpr fun e => ho (.inr (.inl e))
  have hs1 : Str1 b x := ⟨hx, fun e => ho (.inr (.inr (.inl (by rw [(h.kd _ (nth_mem h0)).2]; exact e))))⟩
  have h41 : c = 4 → 1 < hs.length := fun e => by
    by_cases e1 : hs.length = 1
    · exact absurd (.inr (.inr (.inr ⟨e, e1⟩))) ho
    · (first | lia | omega)
  refine ⟨?_, hs1, h0, h2, h41⟩
  by_cases h3 : c = 3
  · subst h3
    show _ = Res.ok (kinds (meetM (nth hs 0) x)) (st.set l (.lst hs))
    rw [set_id hl]
    exact call3_strange hl h0 h.kd hs1
  by_cases h4 : c = 4
  · subst h4
    exact call4_strange hl hl0 hn (h41 rfl) h.kd hs1
  · have e : strH c x hs = hs ++ [x] := by unfold strH; rw [if_neg h3, if_neg h4]
    have e2 : strT c x hs = kinds (meetM x (nth hs 0)) := by unfold strT; rw [if_neg h3]
    rw [e, e2]
    exact callP_strange hl hl0 hn h0 h.kd hs1 h2 h3 h4

theorem s21_str {lh lk lb : Nat} {c own : Int} {x : V} {hs : List V} {b : Bool} {σ : S} (B : Bv ln nums lh lk lb c own x (strT c x hs) hs (strH c x hs) σ) (h : Hp b hs) (hx : It x) (ho : ¬ Own c x hs) (hc : 0 ≤ c ∧ c < 5) (hn : hs.length + 1 ≤ n) (hn2 : n ≤ 100) : MW law_s21 σ (JP ln nums n) := by
  obtain ⟨a1, a2, a3, a4, a5, a6, a7, b1, b2, b3, b4, c1, c2⟩ := B
  have h2 : c ≠ 2 := fun e => ho (.inl e)
  have h0 : 0 < hs.length := List.length_pos_iff.mpr fun e => ho (.inr (.inl e))
  have hs1 : Str1 b x := ⟨hx, fun e => ho (.inr (.inr (.inl (by rw [(h.kd _ (nth_mem h0)).2]; exact e))))⟩
  have h41 : c = 4 → 1 < hs.length := fun e => by
    by_cases e1 : hs.length = 1
    · exact absurd (.inr (.inr (.inr ⟨e, e1⟩))) ho
    · (first | lia | omega)
  have hkb := h.kd _ (nth_mem h0)
  have hst : 0 < σ.st.length := by have := lt_of_get b1; (first | lia | omega)
  unfold law_s21
  apply w_seq
  refine w_end (MW.mono (Q := fun t σ' => t = false ∧ σ'.lo = σ.lo ∧ Pres [] σ.st σ'.st) ?_ ?_)
  · walk_at "mx"
    rw [if_neg (by simpa using h2)]
    walk_at "mx"
    refine MW_newL' (by simp) fun k st1 p1 f1 g1 => ?_
    walk_at "mx"
    refine (MW_eqNil (vs := hs) (by exact p1.get0 b3) (by exact g1) h.sm).mpr ?_
    have he : hs.isEmpty = false := by cases hs with | nil => simp at h0 | cons a b => rfl
    rw [he]
    walk_at "mx"
    refine (MW_isStr hx).mpr ?_
    walk_at "mx"
    refine (MW_getN (j := 0) (by exact p1.get0 b3) rfl h0).mpr ?_
    walk_at "mx"
    refine (MW_isStr hkb.1).mpr ?_
    walk_at "mx"
    refine MW_eqB.mpr ?_
    walk_at "mx"
    rw [if_neg (by rw [hkb.2]; simpa using hs1.2)]
    walk_at "mx"
    by_cases h4 : c = 4
    · rw [if_pos (decide_eq_true h4)]
      walk_at "mx"
      refine (MW_len (by exact p1.get0 b3)).mpr ?_
      walk_at "mx"
      rw [if_neg (by have := h41 h4; simp; (first | lia | omega))]
      walk_at "mx"
      exact ⟨rfl, rfl, p1⟩
    · rw [if_neg (by simpa using h4)]
      walk_at "mx"
      exact ⟨rfl, rfl, p1⟩
  · rintro t ⟨st1, lo1⟩ ⟨rfl, hlo, p1⟩
    dsimp only at hlo p1
    subst hlo
    rw [if_neg (by decide)]
    have st1l : 0 < st1.length := by have := p1.1; (first | lia | omega)
    walk_at "mx"
    unfold law_s20
    apply w_seq
    -- the words of the fault
    refine w_end (MW.mono (Q := fun t σ' => t = false ∧ σ'.lo = σ.lo ∧ Pres [] st1 σ'.st) ?_ ?_)
    · walk_at "mx"
      by_cases h3 : c = 3
      · subst h3
        rw [if_pos (decide_eq_true rfl)]
        walk_at "mx"
        refine (MW_getN (j := 0) (by exact p1.get0 b3) rfl h0).mpr ?_
        walk_at "mx"
        obtain ⟨st2, m1, m2⟩ := meet_ok (st := st1) hkb.1 hx st1l
        refine MW_callF' (by exact m1) ?_
        walk_at "mx"
        refine MW_neK.mpr ?_
        walk_at "mx"
        exact ⟨rfl, rfl, m2⟩
      · rw [if_neg (by simpa using h3)]
        walk_at "mx"
        refine (MW_getN (j := 0) (by exact p1.get0 b3) rfl h0).mpr ?_
        walk_at "mx"
        obtain ⟨st2, m1, m2⟩ := meet_ok (st := st1) hx hkb.1 st1l
        refine MW_callF' (by exact m1) ?_
        walk_at "mx"
        have e2 : strT c x hs = kinds (meetM x (nth hs 0)) := by unfold strT; rw [if_neg h3]
        rw [e2]
        refine MW_neK.mpr ?_
        walk_at "mx"
        exact ⟨rfl, rfl, m2⟩
    · rintro t ⟨st2, lo1⟩ ⟨rfl, hlo, p2⟩
      dsimp only at hlo p2
      subst hlo
      have p12 := p1.trans p2
      rw [if_neg (by decide)]
      walk_at "mx"
      unfold law_s16
      apply w_seq
      walk_at "mx"
      by_cases h3 : c = 3
      · subst h3
        rw [if_pos (decide_eq_true rfl)]
        apply w_seq
        walk_at "mx"
        have b1' : st2[lh]? = some (.lst hs) := p12.get0 b1
        refine (MW_neLL (vs := hs) (by exact b1') (by exact p12.get0 b3) h.sm).mpr ?_
        walk_at "mx"
        unfold law_s14
        walk_at "mx"
        exact ⟨.inr rfl, lh, lk, hs, ⟨a1, a2, b1', p12.get0 b2, c1, p12.get0 b4, b, h⟩, by (first | lia | omega)⟩
      rw [if_neg (by simpa using h3)]
      walk_at "mx"
      unfold law_s15
      apply w_seq
      walk_at "mx"
      by_cases h4 : c = 4
      · subst h4
        rw [if_neg (by decide)]
        walk_at "mx"
        exact lost_end (lb := lb) a1 a2 a3 a5 (p12.get0 b1) (p12.get0 b2) (p12.get0 b3) c1 (p12.get0 b4) h hs1 (h41 rfl) (by (first | lia | omega)) (by (first | lia | omega))
      rw [if_pos (decide_eq_true (by (first | lia | omega)))]
      have e1 : strH c x hs = hs ++ [x] := by unfold strH; rw [if_neg h3, if_neg h4]
      rw [e1] at b1
      have hsx : ∀ v ∈ hs ++ [x], Sm v := fun v hv => by
        rcases List.mem_append.mp hv with hv | hv
        · exact h.sm v hv
        · rw [List.mem_singleton.mp hv]; exact hx.sm
      apply w_seq
      walk_at "mx"
      refine MW_newL' (by simp) fun k st3 p3 f3 g3 => ?_
      walk_at "mx"
      refine MW_addSL (by exact (p12.trans p3).get0 b3) (by exact g3) (by simp; (first | lia | omega)) fun k2 st4 p4 f4 g4 => ?_
      have p14 := (p12.trans p3).trans p4
      walk_at "mx"
      refine (MW_neLL (vs := hs ++ [x]) (by exact p14.get0 b1) (by exact g4) hsx).mpr ?_
      walk_at "mx"
      have g1 : st4[lh]? = some (.lst (hs ++ [x])) := p14.get0 b1
      unfold law_s12
      apply w_seq
      walk_at "mx"
      refine MW_fmod.mpr ⟨by (first | lia | omega), ?_⟩
      walk_at "mx"
      by_cases hev : own % 2 = 0
      · rw [if_pos (decide_eq_true hev)]
        apply w_seq
        walk_at "mx"
        refine (MW_chkL (by exact g1)).mpr ?_
        walk_at "mx"
        have hlast : (hs ++ [x])[(hs ++ [x]).length - 1]? = some x := by simp
        refine (MW_pop (by exact g1) c1.2.1 hlast).mpr ?_
        rw [erase_append]
        walk_at "mx"
        unfold law_s10
        walk_at "mx"
        refine ⟨.inr rfl, lh, lk, hs, ⟨a1, a2, set_get' g1, ?_, c1, ?_, b, h⟩, by (first | lia | omega)⟩
        · show (st4.set lh _)[lk]? = _
          rw [List.getElem?_set_ne c1.1]; exact p14.get0 b2
        · show (st4.set lh _)[ln]? = _
          rw [List.getElem?_set_ne c1.2.2.2.1]; exact p14.get0 b4
      rw [if_neg (by simpa using hev)]
      walk_at "mx"
      unfold law_s11
      apply w_seq
      walk_at "mx"
      by_cases h1 : hs.length = 1
      · obtain ⟨a, rfl⟩ : ∃ a, hs = [a] := by
          match hs, h1 with
          | [a], _ => exact ⟨a, rfl⟩
        refine MW_callF' (by exact call2_strange1 g1 c1.2.1 (h.kd a (by simp)).1 hx x) ?_
        walk_at "mx"
        unfold law_s9
        apply w_seq
        walk_at "mx"
        have gb : (st4.set lh (.lst [x]))[lb]? = some (.lst [a]) := by rw [List.getElem?_set_ne (Ne.symm c2.1)]; exact p14.get0 b3
        refine (MW_len (by exact gb)).mpr ?_
        walk_at "mx"
        rw [if_pos (show decide (([a].length : Int) = 1) = true from rfl)]
        apply w_seq
        walk_at "mx"
        refine (MW_getN (j := 0) (by exact gb) rfl (by simp)).mpr ?_
        walk_at "mx"
        refine (MW_mkT (by simp)).mpr ?_
        walk_at "mx"
        refine (MW_neTT (told_sm (h.sm a (by simp)))).mpr ?_
        walk_at "mx"
        refine MW_newL' (by simp) fun k5 st5 p5 f5 g5 => ?_
        walk_at "mx"
        have p5 : Pres [] (st4.set lh (.lst [x])) st5 := p5
        have gh : st5[lh]? = some (.lst [x]) := p5.get0 (set_get' g1)
        refine (MW_neLL (vs := [x]) (by exact gh) (by exact g5) (by intro v hv; rw [List.mem_singleton.mp hv]; exact hx.sm)).mpr ?_
        walk_at "mx"
        unfold law_s7
        apply w_seq
        walk_at "mx"
        refine MW_newL' (by simp) fun k6 st6 p6 f6 g6 => ?_
        walk_at "mx"
        unfold law_s6
        walk_at "mx"
        have p6 : Pres [] st5 st6 := p6
        have f6 : st5.length ≤ k6 := f6
        have hlh : lh < st5.length := lt_of_get gh
        have hlnn : ln < st5.length := lt_of_get (p5.get0 (by rw [List.getElem?_set_ne c1.2.2.2.1]; exact p14.get0 b4))
        refine ⟨.inr rfl, lh, k6, [x], ⟨a1, rfl, p6.get0 gh, ?_, ⟨by (first | lia | omega), c1.2.1, by (first | lia | omega), c1.2.2.2.1, by (first | lia | omega)⟩, p6.get0 (p5.get0 (by rw [List.getElem?_set_ne c1.2.2.2.1]; exact p14.get0 b4)), isS x, Hp.one ⟨hx, rfl⟩⟩, by simp at hn ⊢; (first | lia | omega)⟩
        rw [sortK_short (by simp)]; exact g6
      · have h1' : 1 < hs.length := by (first | lia | omega)
        refine MW_callF' (by exact call2_strange g1 c1.2.1 (by (first | lia | omega)) h1' h.kd hs1 x) ?_
        walk_at "mx"
        unfold law_s9
        apply w_seq
        walk_at "mx"
        have gb : (st4.set lh (.lst (lostL hs x)))[lb]? = some (.lst hs) := by rw [List.getElem?_set_ne (Ne.symm c2.1)]; exact p14.get0 b3
        refine (MW_len (by exact gb)).mpr ?_
        walk_at "mx"
        rw [if_neg (by simp; (first | lia | omega))]
        walk_at "mx"
        unfold law_s8
        walk_at "mx"
        refine (MW_getN (j := 0) (by exact gb) rfl h0).mpr ?_
        walk_at "mx"
        obtain ⟨st5, m1, m2⟩ := meet_ok (st := st4.set lh (.lst (lostL hs x))) hx hkb.1 (by have := lt_of_get g1; rw [List.length_set]; (first | lia | omega))
        refine MW_callF' (by exact m1) ?_
        walk_at "mx"
        refine MW_neK.mpr ?_
        walk_at "mx"
        refine lost_end (lh := lh) (lk := lk) (lb := lb) a1 a2 a3 a5 (m2.get0 (set_get' g1)) (m2.get0 ?_) (m2.get0 gb) c1 (m2.get0 ?_) h hs1 h1' (by (first | lia | omega)) (by (first | lia | omega))
        · rw [List.getElem?_set_ne c1.1]; exact p14.get0 b2
        · rw [List.getElem?_set_ne c1.2.2.2.1]; exact p14.get0 b4
end

/-! part L05 -/
set_option autoImplicit false
set_option maxRecDepth 100000
set_option linter.unusedVariables false
set_option linter.unusedSimpArgs false
open PySem PySem.W PyProof.Rows
section
variable {ln : Nat} {nums : List V} {n : Nat}

theorem log_small {i : Int} (h0 : 0 ≤ i) (h1 : i < 100) : i.natAbs.log2 < 1920 := by
  by_cases e : i.natAbs = 0
  · rw [e]; decide
  · have : i.natAbs.log2 < 7 := (Nat.log2_lt e).mpr (by (first | lia | omega))
    (first | lia | omega)
theorem body_ok {lh lk : Nat} {hs : List V} {σ : S} {z : Int} (J : Jv ln nums lh lk hs σ) (hx : σ.lo "x" = some (.int z)) (hn : hs.length + 1 ≤ n) (hn2 : n ≤ 100) : MW law_l26_b σ (JP ln nums n) := by
  obtain ⟨a1, a2, a3, a4, a5, a6, b, a7⟩ := J
  unfold law_l26_b
  apply w_seq
  walk_at "mx"
  refine MW_fdiv.mpr ⟨by (first | lia | omega), ?_⟩
  walk_at "mx"
  unfold law_s25
  apply w_seq
  refine w_end (MW.mono (Q := fun v σ' => It v ∧ σ' = σ.put "own" (.int (z / 10))) ?_ ?_)
  · walk_at "mx"
    refine MW_fmod.mpr ⟨by (first | lia | omega), ?_⟩
    walk_at "mx"
    split
    · walk_at "mx"
      exact ⟨.inl ⟨_, rfl⟩, rfl⟩
    · walk_at "mx"
      refine MW_fmod.mpr ⟨by (first | lia | omega), ?_⟩
      walk_at "mx"
      refine (MW_fun_ok (a := V.str (Str.ofString (toString (z / 10 % 100)))) (σ' := σ.put "own" (.int (z / 10))) ?_).mpr ⟨it_str _, rfl⟩
      show (if (z / 10 % 100).natAbs.log2 < 1920 then _ else _) = _
      rw [if_pos (log_small (by (first | lia | omega)) (by (first | lia | omega)))]
  rintro x σ' ⟨hI, rfl⟩
  walk_at "mx"
  unfold law_s24
  apply w_seq
  walk_at "mx"
  refine MW_fmod.mpr ⟨by (first | lia | omega), ?_⟩
  walk_at "mx"
  unfold law_s23
  apply w_seq
  walk_at "mx"
  refine MW_list' (by exact a3) fun lb st1 p1 f1 g1 => ?_
  walk_at "mx"
  have p1 : Pres [] σ.st st1 := p1
  have f1 : σ.st.length ≤ lb := f1
  have hlh := lt_of_get a3
  have hlk := lt_of_get a4
  unfold law_s22
  apply w_seq
  walk_at "mx"
  by_cases ho : Own (z % 5) x hs
  · refine MW_callF' (by exact call_own (p1.get0 a3) a5.2.1 (by (first | lia | omega)) a7 hI ho) ?_
    walk_at "mx"
    refine s21_own (lh := lh) (lk := lk) (lb := lb) (c := z % 5) (own := z / 10) (x := x) (hs := hs) ⟨a1, a2, rfl, rfl, rfl, rfl, rfl, set_get' (p1.get0 a3), ?_, ?_, ?_, a5, by (first | lia | omega), by (first | lia | omega)⟩ a7 hI ho hn hn2
    · show (st1.set lh _)[lk]? = _
      rw [List.getElem?_set_ne a5.1]; exact p1.get0 a4
    · show (st1.set lh _)[lb]? = _
      rw [List.getElem?_set_ne (by (first | lia | omega))]; exact g1
    · show (st1.set lh _)[ln]? = _
      rw [List.getElem?_set_ne a5.2.2.2.1]; exact p1.get0 a6
  · refine MW_callF' (by exact (call_strange (p1.get0 a3) a5.2.1 (by (first | lia | omega)) a7 hI ho).1) ?_
    walk_at "mx"
    refine s21_str (lh := lh) (lk := lk) (lb := lb) (c := z % 5) (own := z / 10) (x := x) (hs := hs) ⟨a1, a2, rfl, rfl, rfl, rfl, rfl, set_get' (p1.get0 a3), ?_, ?_, ?_, a5, by (first | lia | omega), by (first | lia | omega)⟩ a7 hI ho (by (first | lia | omega)) hn hn2
    · show (st1.set lh _)[lk]? = _
      rw [List.getElem?_set_ne a5.1]; exact p1.get0 a4
    · show (st1.set lh _)[lb]? = _
      rw [List.getElem?_set_ne (by (first | lia | omega))]; exact g1
    · show (st1.set lh _)[ln]? = _
      rw [List.getElem?_set_ne a5.2.2.2.1]; exact p1.get0 a6

/-- what is left comes in order -/
theorem last_ok {lh lk : Nat} {hs : List V} {σ : S} (J : Jv ln nums lh lk hs σ) (hn : hs.length ≤ 100) : MW law_s27 σ (fun f σ' => f = .ret (.bool true)) := by
  obtain ⟨a1, a2, a3, a4, a5, a6, b, a7⟩ := J
  have hlh := lt_of_get a3
  have hlk := lt_of_get a4
  have hsl : (sortK hs).length = hs.length := sortK_length hs
  unfold law_s27
  walk_at "mx"
  refine MW_list' (by exact a4) fun k1 st1 p1 f1 g1 => ?_
  have p1 : Pres [] σ.st st1 := p1
  have f1 : σ.st.length ≤ k1 := f1
  have hk1 := lt_of_get g1
  walk_at "mx"
  refine MW_compTail (ok_obj (by exact g1)) ?_
  unfold law_c1
  have ag : (st1 ++ [Cel.lst []])[lh]? = some (.lst hs) := by rw [List.getElem?_append_left (lt_of_get (p1.get0 a3))]; exact p1.get0 a3
  have hl1 : σ.st.length ≤ st1.length := p1.1
  refine MW_loopC (sortK hs).length (fun i σ' => ∃ hs' b', Hp b' hs' ∧ σ'.lo "heap" = some (.obj lh) ∧ σ'.st[lh]? = some (.lst hs') ∧ σ'.st[lk]? = some (.lst (sortK hs)) ∧ σ'.st[k1]? = some (.lst (sortK hs)) ∧ σ'.st[st1.length]? = some (.lst ((sortK hs).take i)) ∧ sortK hs' = (sortK hs).drop i) ?_ ?_ 4096 _ (by (first | lia | omega)) ⟨hs, b, a7, ?_, ag, ?_, ?_, by simp, rfl⟩
  · rintro σ' ⟨hs', b', q1, q2, q3, q4, q5, q6, q7⟩
    refine ⟨?_, ?_⟩
    · rw [nxt_objI q5]; simp
    · dsimp only
      walk_at "mx"
      rw [List.take_length] at q6
      refine (MW_eqLL (vs := sortK hs) (by exact q6) (by exact q4) (sortK_sm a7.sm)).mpr ?_
      walk_at "mx"
      rfl
  · rintro i σ' hi ⟨hs', b', q1, q2, q3, q4, q5, q6, q7⟩
    refine ⟨(sortK hs)[i], by rw [nxt_objI q5, List.getElem?_eq_getElem hi], ?_⟩
    unfold law_c1_t law_c1_i law_c1_e
    walk_at "mx"
    rw [if_pos rfl]
    have h0 : 0 < hs'.length := by
      have := congrArg List.length q7
      rw [sortK_length, List.length_drop] at this; (first | lia | omega)
    have hl' : hs'.length ≤ 100 := by
      have := congrArg List.length q7
      rw [sortK_length, List.length_drop] at this; (first | lia | omega)
    walk_at "mx"
    obtain ⟨r1, r2, r3⟩ := q1.pop h0
    refine MW_callF' (by exact heappopN q3 a5.2.1 h0 (by (first | lia | omega)) q1.kd (ltAtK _ lh b')) ?_
    walk_at "mx"
    rw [r2, List.drop_eq_getElem_cons hi] at q7
    injection q7 with q8 q9
    have gk : (σ'.st.set lh (.lst (hpop ltK hs').2))[st1.length]? = some (.lst ((sortK hs).take i)) := by rw [List.getElem?_set_ne (by (first | lia | omega))]; exact q6
    refine MW_appendAt (l := st1.length) (by exact gk) (by (first | lia | omega)) (by rw [List.length_take]; (first | lia | omega)) ⟨(hpop ltK hs').2, b', r1, q2, ?_, ?_, ?_, ?_, q9⟩
    · show ((σ'.st.set lh _).set st1.length _)[lh]? = _
      rw [List.getElem?_set_ne (by (first | lia | omega))]; exact set_get' q3
    · show ((σ'.st.set lh _).set st1.length _)[lk]? = _
      rw [List.getElem?_set_ne (by (first | lia | omega)), List.getElem?_set_ne a5.1]; exact q4
    · show ((σ'.st.set lh _).set st1.length _)[k1]? = _
      rw [List.getElem?_set_ne (by (first | lia | omega)), List.getElem?_set_ne (by (first | lia | omega))]; exact q5
    · show ((σ'.st.set lh _).set st1.length _)[st1.length]? = _
      rw [set_get' gk, List.take_add_one, List.getElem?_eq_getElem hi, q8]; rfl
  · show restr ["heap"] σ.lo "heap" = _
    simp only [restr, List.mem_singleton, if_true]; exact a1
  · show (st1 ++ [Cel.lst []])[lk]? = _
    rw [List.getElem?_append_left (lt_of_get (p1.get0 a4))]; exact p1.get0 a4
  · show (st1 ++ [Cel.lst []])[k1]? = _
    rw [List.getElem?_append_left hk1]; exact g1

theorem law_true (ns : List Int) (hns : ns.length ≤ 63) : ∃ st', f_law [.obj 0] [.lst (ns.map .int)] = .ok (.bool true) st' := by
  suffices h : ∃ v st', f_law [.obj 0] [.lst (ns.map .int)] = .ok v st' ∧ v = .bool true by
    obtain ⟨v, st', e, rfl⟩ := h; exact ⟨st', e⟩
  unfold f_law
  refine funM_ex (params := ["script"]) (vs := [.obj 0]) (R := fun v _ => v = .bool true) (by rfl) ?_
  unfold law_m
  apply w_seq
  walk_at "mx"
  refine MW_newL' (by simp) fun lh st1 p1 f1 g1 => ?_
  have p1 : Pres [] [Cel.lst (ns.map V.int)] st1 := p1
  have f1 : 1 ≤ lh := f1
  have g0 : st1[0]? = some (.lst (ns.map V.int)) := p1.get0 rfl
  have hlh := lt_of_get g1
  walk_at "mx"
  unfold law_s29
  apply w_seq
  walk_at "mx"
  refine MW_newL' (by simp) fun lk st2 p2 f2 g2 => ?_
  have p2 : Pres [] st1 st2 := p2
  have f2 : st1.length ≤ lk := f2
  have hlk := lt_of_get g2
  walk_at "mx"
  unfold law_s28
  apply w_seq
  walk_at "mx"
  refine MW_newL' (by simp) fun l3 st3 p3 f3 g3 => ?_
  have p3 : Pres [] st2 st3 := p3
  walk_at "mx"
  refine MW_addSL (by exact g3) (by exact p3.get0 (p2.get0 g0)) (by simp; (first | lia | omega)) fun ln st4 p4 f4 g4 => ?_
  have p4 : Pres [] st3 st4 := p4
  have f4 : st3.length ≤ ln := f4
  have h23 : st2.length ≤ st3.length := p3.1
  walk_at "mx"
  refine (MW_okL (by exact g4)).mpr ?_
  have e4 : [V.int 30, V.int 20, V.int 10, V.int 59] ++ ns.map V.int = ([30, 20, 10, 59] ++ ns).map V.int := by simp
  rw [e4] at g4
  have hnl : ([30, 20, 10, 59] ++ ns).length ≤ 67 := by simp; (first | lia | omega)
  generalize [30, 20, 10, 59] ++ ns = nums at g4 hnl
  have p34 := p3.trans p4
  have sK0 : sortK [] = [] := sortK_short (by simp)
  refine MW_for nums.length (fun i σ => ∃ lh lk hs, Jv ln (nums.map V.int) lh lk hs σ ∧ hs.length ≤ i) ?_ ?_ 4096 0 _ (Nat.zero_le _) (by (first | lia | omega)) ⟨lh, lk, [], ⟨rfl, rfl, p34.get0 (p2.get0 g1), by rw [sK0]; exact p34.get0 g2, ⟨by (first | lia | omega), by (first | lia | omega), by (first | lia | omega), by (first | lia | omega), by (first | lia | omega)⟩, g4, true, Hp.nil true⟩, by simp⟩
  · rintro σ ⟨lh, lk, hs, J, hl⟩
    refine ⟨by rw [nxt_objI J.a6]; simp, ?_⟩
    refine (last_ok J (by (first | lia | omega))).mono ?_
    rintro f σ' rfl
    rfl
  · rintro i σ hi ⟨lh, lk, hs, J, hl⟩
    have hi' : i < (nums.map V.int).length := by rw [List.length_map]; exact hi
    refine ⟨.int nums[i], by rw [nxt_objI J.a6, List.getElem?_eq_getElem hi', List.getElem_map], ?_⟩
    unfold law_l26_t
    walk_at "mx"
    refine (body_ok (σ := σ.put "x" (.int nums[i])) (n := i + 1) (lh := lh) (lk := lk) (hs := hs) (z := nums[i]) ⟨J.a1, J.a2, J.a3, J.a4, J.a5, J.a6, J.a7⟩ rfl (by (first | lia | omega)) (by (first | lia | omega))).mono ?_
    rintro f σ' ⟨hf, h⟩
    rcases hf with rfl | rfl <;> exact h
end

/-! part J05 -/
open PySem PySem.W PyProof.Rows
set_option Elab.async false
set_option maxRecDepth 100000
set_option maxHeartbeats 8000000
section
noncomputable def vw : Program := view PySem.Challenge.pw_dm0136_05 [1, 2, 3, 4, 5, 6, 7, 9, 10, 11, 12, 13]
theorem left : LeftO PySem.Challenge.pw_dm0136_05 vw [] (fun s => xlAt vw [] s && recOk (PySem.Challenge.rw_dm0136_05.row.toRowW.records) s) (Hook.obs Hook.none) (Hook.val Hook.none) 3000 := fun w => by
  kernel_rfl
theorem recs_of {p q : Program} (e : recsOf p = recsOf q) : ∀ d ∈ recsOf p, d ∈ recsOf q := e ▸ fun _ h => h
end
end Mine
open PySem PySem.W PyProof.Rows
set_option Elab.async false
set_option maxRecDepth 100000
set_option maxHeartbeats 8000000

theorem PySem.Challenge.cw_dm0136_05_holds : PySem.Challenge.rw_dm0136_05.Holds := by
  refine holds_law (by kernel_rfl) fun said => ?_
  refine holds_open (q := Mine.vw) (loose := []) (Xt := fun s => xlAt Mine.vw [] s && recOk (RowW.records PySem.Challenge.rw_dm0136_05.row.toRowW) s) (XP := XL Mine.vw []) (Yf := Hook.obs Hook.none) (Ya := Hook.val Hook.none) (YP := Hook.says Hook.none) (N := 3000) Mine.left (Hook.of Hook.none) (Hook.keeps Hook.none) (fun s e => xl_of s (Bool.and_eq_true_iff.mp e).1) XL.keeps (by rfl) (by rfl) (by rfl) (fun s e => recFacts_of (Bool.and_eq_true_iff.mp e).2) (by rfl) (by first | assumption | decide +kernel) (by decide +kernel) ⟨rfl, rfl, rfl, rfl, rfl, by decide +kernel⟩ ?hw ?hc
  case hw => w_witness2
  intro w s₀ s₁ mg mb G Y fa o pm cd doc dV kV ho hd hcd hD hmg hg args vals as hpre hlay hrd hwl hlo
  refine Ground.open G ?_
  intro T B D TE TW
  wrow_args hpre hlay hrd hwl hlo
  rename_i ns _ _ _ _ _ _ _ l _ _ _ _ w1 _ _ _ hn _
  have hmg' : mg (Str.ofString "law") = some (.ref fa) := hmg
  clear hD hcd hd ho hmg B D TE TW G Y
  refine enter_call ?_
  refine codeAny_mono ?_ (fun _ _ g => GoodW.toG g)
  obtain ⟨vs, hL, hI⟩ := Mine.well_script w1
  have hn' : ns.length ≤ 63 := by omega
  obtain ⟨st', hlaw⟩ := Mine.law_true ns hn'
  refine Mine.top_law T hg (Mine.has_all (Mine.recs_of (by kernel_rfl)) ?_) (by decide) hmg' hL hI hn' hlaw ?_ ?_
  · intro x hx
    show mg (Str.ofString x) = none
    simp only [Mine.bltNames, List.mem_cons, List.not_mem_nil, or_false] at hx
    rcases hx with rfl | rfl | rfl | rfl | rfl | rfl | rfl | rfl | rfl <;> exact T.free _ (by decide +kernel) (by decide +kernel) (by decide +kernel) (by decide +kernel) (by decide +kernel)
  · exact raisesW_false (by wrow_none_raised)
  · wrow_post
