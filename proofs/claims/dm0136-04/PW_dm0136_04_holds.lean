import PyProof.Rows.All
import Wide.All
import OpenK.AllK
import Wide.FinOn
import Lean
import PySem.Challenge.RW_dm0136_04
set_option Elab.async false
set_option maxHeartbeats 8000000
namespace Mine

/-! part N0 -/
section
/-! small facts of naturals, by hand: their proofs are far shorter than a decision procedure's -/
theorem n_pred {a n : Nat} (h : 1 ≤ n) : a + n - 1 - (n - 1) = a := by rw [Nat.add_sub_assoc h, Nat.add_sub_cancel]
theorem n_flip {a n i j : Nat} (h : i < j) (hj : j < n) : a + n - 1 - j < a + n - 1 - i :=
  Nat.sub_lt_sub_left (Nat.lt_of_lt_of_le h (Nat.le_trans (Nat.le_sub_one_of_lt hj) (Nat.sub_le_sub_right (Nat.le_add_left n a) 1))) h
theorem n_back {a n j : Nat} (h : a ≤ j) (hj : j < n) : a + n - 1 - j < n := by
  have h1 : 1 ≤ n := Nat.lt_of_le_of_lt (Nat.zero_le _) hj
  rw [Nat.add_sub_assoc h1]
  exact Nat.lt_of_le_of_lt (Nat.le_trans (Nat.sub_le_sub_left h _) (by rw [Nat.add_sub_cancel_left]; exact Nat.le_refl _)) (Nat.sub_lt h1 Nat.one_pos)
theorem n_less {a i j : Nat} (h : i ≤ j) (ne : ¬ a - j = a - i) : a - j < a - i := Nat.lt_of_le_of_ne (Nat.sub_le_sub_left h a) ne
theorem n_next {a i k : Nat} (h : a - i = k + 1) : a - (i + 1) = k := by rw [Nat.sub_add_eq, h, Nat.add_sub_cancel]
theorem n_lt_l {a b i k : Nat} (h : min a b - i = k + 1) : i < a := Nat.lt_of_lt_of_le (Nat.lt_of_sub_eq_succ h) (Nat.min_le_left ..)
theorem n_lt_r {a b i k : Nat} (h : min a b - i = k + 1) : i < b := Nat.lt_of_lt_of_le (Nat.lt_of_sub_eq_succ h) (Nat.min_le_right ..)
theorem n_min_sub {x m a c : Nat} (h : a < c) (h2 : a < m + 1) (hx : x = m + 1 - min c (m + 1)) : x ≤ m - a := by
  have : a + 1 ≤ min c (m + 1) := Nat.le_min.mpr ⟨h, h2⟩
  rw [hx]
  exact Nat.le_trans (Nat.sub_le_sub_left this _) (by rw [Nat.add_sub_add_right]; exact Nat.le_refl _)
theorem n_min_add {m a c d : Nat} (h : a < c) (h2 : a < m - d) : d + a + 1 ≤ d + min c (m - d) := Nat.add_le_add_left (Nat.le_min.mpr ⟨h, h2⟩) d
theorem n_min_or {a b : Nat} {P : Prop} (h : a = 0 ∨ (a < b ∧ P)) (hb : 0 < b) : a < b := h.elim (fun e => e ▸ hb) (·.1)
theorem n_min_lt {c m i : Nat} (h : i < m + 1 - min c (m + 1)) (ne : ¬ i = m - c) : i < m - c := by
  have e : i < m + 1 - c := by
    rcases Nat.le_total c (m + 1) with q | q
    · rwa [Nat.min_eq_left q] at h
    · rw [Nat.min_eq_right q, Nat.sub_self] at h; exact absurd h (Nat.not_lt_zero _)
  have hc : c ≤ m := Nat.le_of_lt_succ (Nat.lt_of_sub_pos (Nat.lt_of_le_of_lt (Nat.zero_le _) e))
  rw [Nat.succ_sub hc] at e
  exact Nat.lt_of_le_of_ne (Nat.le_of_lt_succ e) ne
theorem n_pred2 {a : Nat} (h : ¬ (a + 2 - 1 == 1) = true) : a + 1 = a - 1 + 2 := by
  cases a with
  | zero => exact absurd rfl h
  | succ a => rfl
theorem n_sub_len {i lo n : Nat} (h : lo ≤ n) : i - lo = i - min lo n := by rw [Nat.min_eq_left h]
theorem n_drop {i lo n k : Nat} (h : lo ≤ n) (hi : ¬ i < lo + k) : i = lo + k + (i - (min lo n + k)) := by rw [Nat.min_eq_left h, Nat.add_sub_of_le (Nat.not_lt.mp hi)]
theorem n_half {m i : Nat} (h : i < m / 2) : m / 2 - i - 1 < m := Nat.lt_of_le_of_lt (Nat.le_trans (Nat.sub_le _ _) (Nat.sub_le _ _)) (Nat.div_lt_self (Nat.pos_of_ne_zero fun e => by rw [e] at h; exact Nat.not_lt_zero _ h) (Nat.lt_succ_self 1))
theorem n_par {s p : Nat} (h : s < p) : (p - 1) / 2 < p := Nat.lt_of_le_of_lt (Nat.div_le_self _ _) (Nat.sub_lt (Nat.lt_of_le_of_lt (Nat.zero_le _) h) Nat.one_pos)
theorem n_parl {p n : Nat} (h : p < n) : (p - 1) / 2 < n := Nat.lt_of_le_of_lt (Nat.le_trans (Nat.div_le_self _ _) (Nat.sub_le _ _)) h
theorem n_pne {s p : Nat} (h : s < p) : ¬ p = (p - 1) / 2 := Nat.ne_of_gt (n_par h)
theorem n_ppne {s p : Nat} (h : s < p) : ¬ p = ((p - 1) / 2 - 1) / 2 := Nat.ne_of_gt (Nat.lt_of_le_of_lt (Nat.le_trans (Nat.div_le_self _ _) (Nat.sub_le _ _)) (n_par h))
theorem n_2p {j p : Nat} (h0 : 0 < j) (h : (j - 1) / 2 = p) : j = 2 * p + 1 ∨ j = 2 * p + 2 := by
  obtain ⟨k, rfl⟩ := Nat.exists_eq_succ_of_ne_zero (Nat.ne_of_gt h0)
  rw [Nat.succ_sub_one] at h
  subst h
  rcases Nat.mod_two_eq_zero_or_one k with e | e
  · left; have := Nat.div_add_mod k 2; rw [e] at this; exact congrArg Nat.succ this.symm
  · right; have := Nat.div_add_mod k 2; rw [e] at this; exact congrArg Nat.succ this.symm
theorem n_clip {k n : Nat} : (max 0 (min (k : Int) n)).toNat = min k n := by
  rcases Nat.le_total k n with h | h
  · rw [Nat.min_eq_left h, Int.min_eq_left (Int.ofNat_le.mpr h), Int.max_eq_right (Int.natCast_nonneg k), Int.toNat_natCast]
  · rw [Nat.min_eq_right h, Int.min_eq_right (Int.ofNat_le.mpr h), Int.max_eq_right (Int.natCast_nonneg n), Int.toNat_natCast]
end

/-! part F1 -/
set_option autoImplicit false
set_option maxRecDepth 100000
open PySem PySem.W PyProof.Rows
section
/-- plain values: what a program's value is, without tokens and addresses; a list is a place in the store -/
inductive V where
  | none
  | bool (b : Bool)
  | int (i : Int)
  | str (x : Str)
  | tup (vs : List V)
  | obj (l : Nat)
  | fn (x : String)
  | rng (a b c : Int)
  deriving Inhabited

inductive Cel where
  | lst (vs : List V)
  | set (ns : List Int)
  | itr (l i : Nat) (d : Bool)
  deriving Inhabited

noncomputable abbrev Store := List Cel

structure Exc where
  cls : String
  msg : Str

/-- the state that a frame's code sees: the store and the frame's names -/
structure S where
  st : Store
  lo : String → Option V

inductive Res (σ α : Type) where
  | ok (a : α) (s : σ)
  | exc (e : Exc) (s : σ)
  | stuck

noncomputable abbrev M (α : Type) := S → Res S α

namespace M
variable {α β : Type}
@[simp] noncomputable def pure (a : α) : M α := fun σ => .ok a σ
@[simp] noncomputable def bind (m : M α) (f : α → M β) : M β := fun σ => match m σ with
  | .ok a σ' => f a σ'
  | .exc e σ' => .exc e σ'
  | .stuck => .stuck
noncomputable instance : Monad M where
  pure := M.pure
  bind := M.bind
theorem bind_def (m : M α) (f : α → M β) (σ : S) : (m >>= f) σ = (match m σ with
  | .ok a σ' => f a σ'
  | .exc e σ' => .exc e σ'
  | .stuck => .stuck) := rfl
theorem bind_ok {m : M α} {f : α → M β} {σ σ' : S} {a : α} (h : m σ = .ok a σ') : (m >>= f) σ = f a σ' := by rw [bind_def, h]
end M
noncomputable def stuck {α : Type} : M α := fun _ => .stuck

/-- what stands around all frames -/
structure Glo where
  prog : Program
  w : World
  p : Program
  loose : List Str
  mean : ExcName → Option Value
  mg : Str → Option Value
  mb : Str → Option Value
  base : Heap
  os : OsState
  top : Top p loose mean mg mb base

mutual
noncomputable def Rep (K : Glo) (h : Heap) (ρ : List Addr) : V → Value → Prop
  | .none, w => w = .none
  | .bool b, w => w = .bool b
  | .int i, w => ∃ t, w = .int i t
  | .str x, w => ∃ t, w = .str x t
  | .tup vs, w => vs.length ≤ 1000000 ∧ ∃ a ws, w = .ref a ∧ IsTup h a ws.toArray ∧ RepL K h ρ vs ws
  | .obj l, w => ∃ a, ρ[l]? = some a ∧ w = .ref a
  | .fn x, w => K.mg (Str.ofString x) = some w ∧ ∃ a, w = .ref a
  | .rng a b c, w => ∃ r t u v, w = .ref r ∧ IsRange h r a b c t u v
noncomputable def RepL (K : Glo) (h : Heap) (ρ : List Addr) : List V → List Value → Prop
  | [], ws => ws = []
  | v :: vs, ws => ∃ x r, ws = x :: r ∧ Rep K h ρ v x ∧ RepL K h ρ vs r
end

noncomputable def CelRep (K : Glo) (h : Heap) (ρ : List Addr) : Cel → Addr → Prop
  | .lst vs, a => vs.length ≤ 1000000 ∧ ∃ ws n, IsL h a ws.toArray n ∧ RepL K h ρ vs ws
  | .set ns, a => ns.Nodup ∧ h.SetOf (intKind K.prog K.w) a (fun k => decide (k ∈ ns)) ns.length
  | .itr l i d, a => ∃ o, h.get? a = some o ∧ o.cls = .type "list_iterator" ∧ ∃ vs, o.data = .fields vs ∧ if d = true then vs[0]? = some .none else ∃ b, ρ[l]? = some b ∧ vs = #[.ref b, .int i 0]

structure GRel (K : Glo) (st : Store) (ρ : List Addr) (s : Shared) : Prop where
  gens : s.gens = #[]
  os : s.os = K.os
  base : ∀ b o, K.base.get? b = some o → s.heap.get? b = some o
  len : ρ.length = st.length
  cell : ∀ (l : Nat) (a : Addr) (c : Cel), ρ[l]? = some a → st[l]? = some c → CelRep K s.heap ρ c a
  nodup : ρ.Nodup
  above : ∀ (l : Nat) (a : Addr), ρ[l]? = some a → l ≠ 0 → K.base.get? a = none

/-- what a frame's object may become: a namespace (a frame) may get slots, nothing else turns -/
noncomputable def Like (o o' : Obj) : Prop := o' = o ∨ (∃ es n, o.data = .dict es n) ∧ ∃ sl, o' = { o with slots := sl }
theorem Like.refl (o : Obj) : Like o o := .inl rfl
theorem Like.trans {o o₁ o₂ : Obj} (x : Like o o₁) (y : Like o₁ o₂) : Like o o₂ := by
  rcases x with rfl | ⟨d, sl, rfl⟩
  · exact y
  · rcases y with rfl | ⟨_, sl', rfl⟩
    · exact .inr ⟨d, sl, rfl⟩
    · exact .inr ⟨d, sl', rfl⟩
theorem Like.same {o o' : Obj} (x : Like o o') (hd : ∀ es n, o.data ≠ .dict es n) : o' = o := by
  rcases x with rfl | ⟨⟨es, n, d⟩, _⟩
  · rfl
  · exact absurd d (hd es n)
theorem Like.data {o o' : Obj} (x : Like o o') : o'.data = o.data ∧ o'.cls = o.cls ∧ o'.dict = o.dict := by
  rcases x with rfl | ⟨_, sl, rfl⟩ <;> exact ⟨rfl, rfl, rfl⟩
noncomputable def Froz (o : Obj) : Prop := (o.cls = .type "tuple" ∧ ∃ xs n, o.data = .seq xs n) ∨ (o.cls = .type "range" ∧ ∃ vs, o.data = .fields vs)

structure Ext (mine ρ ρ' : List Addr) (h h' : Heap) : Prop where
  pre : ρ <+: ρ'
  alive : ∀ b o, h.get? b = some o → ∃ o', h'.get? b = some o'
  new : ∀ a ∈ ρ', a ∈ ρ ∨ h.get? a = none
  keep : ∀ b o, h.get? b = some o → b ∉ ρ → b ∉ mine → ∃ o', h'.get? b = some o' ∧ Like o o'
  froz : ∀ b o, h.get? b = some o → Froz o → h'.get? b = some o

structure Frm where
  env : Env
  A : Around
  mine : List Addr
  nh : Bool := true

noncomputable def VarAt (env : Env) (h : Heap) (x : Str) (w : Value) : Prop :=
  (env.kindOf x = some .local ∧ ∃ m, h.Ns env.locals m ∧ m x = some w) ∨
  ((env.kindOf x = some .cell ∨ env.kindOf x = some .free) ∧ ∃ c, env.cells.lookup x = some c ∧ h.IsCell c (some w))

/-- the frames on the stack lie in the heap -/
noncomputable def FramesOk (K : Glo) (h : Heap) (l : List Env) : Prop := ∀ env ∈ l, env.scope.kind ≠ .module ∧ ∃ L o es n, env.frame = some L ∧ K.base.get? L = none ∧ h.get? L = some o ∧ o.data = .dict es n
noncomputable def FrsOk (K : Glo) (F : Frm) (h : Heap) : Prop := ∃ env₀ outer, F.A.frames = some (env₀ :: outer) ∧ env₀.frame = F.env.frame ∧ FramesOk K h (env₀ :: outer)
theorem FramesOk.next {K : Glo} {h h' : Heap} {l : List Env} (x : FramesOk K h l) (d : ∀ b o es n, (∃ env ∈ l, env.frame = some b) → h.get? b = some o → o.data = .dict es n → ∃ o' es' n', h'.get? b = some o' ∧ o'.data = .dict es' n') : FramesOk K h' l := by
  intro env he
  obtain ⟨k, L, o, es, n, f, b, g, dd⟩ := x env he
  obtain ⟨o', es', n', g', d'⟩ := d L o es n ⟨env, he, f⟩ g dd
  exact ⟨k, L, o', es', n', f, b, g', d'⟩
theorem FrsOk.next {K : Glo} {F : Frm} {h h' : Heap} (x : FrsOk K F h) (d : ∀ b o es n, h.get? b = some o → o.data = .dict es n → ∃ o' es' n', h'.get? b = some o' ∧ o'.data = .dict es' n') : FrsOk K F h' := by
  obtain ⟨e, l, a1, a2, a3⟩ := x
  exact ⟨e, l, a1, a2, a3.next fun b o es n _ => d b o es n⟩
theorem FrsOk.kept {K : Glo} {F : Frm} {h h' : Heap} (x : FrsOk K F h) (hk : ∀ b o, h.get? b = some o → h'.get? b = some o) : FrsOk K F h' := x.next fun b o es n g d => ⟨o, es, n, hk b o g, d⟩

structure Rel (K : Glo) (F : Frm) (σ : S) (ρ : List Addr) (s : Shared) : Prop extends GRel K σ.st ρ s where
  vars : ∀ x v, σ.lo x = some v → ∃ w, VarAt F.env s.heap (Str.ofString x) w ∧ Rep K s.heap ρ v w
  loc : ∃ m, s.heap.Ns F.env.locals m
  cels : ∀ x c, F.env.cells.lookup x = some c → ∃ v, s.heap.IsCell c v
  mineAbove : ∀ a ∈ F.mine, K.base.get? a = none ∧ ∃ o, s.heap.get? a = some o
  mineApart : ∀ a ∈ F.mine, a ∉ ρ
  mineLoc : F.env.locals ∈ F.mine
  frs : FrsOk K F s.heap

/-- an exception's own objects: itself, the head of its trace; n: a frame has noted it; P: what its flight mark may be -/
noncomputable def XObj (n : Bool) (P : Value → Prop) (e : Exc) (X : List Addr) (v : Value) (h : Heap) : Prop := (e.cls ≠ "range" ∧ e.cls ≠ "list_iterator") ∧ ∃ a t tok oe vs, v = .ref a ∧ a ∈ X ∧ IsTup h t #[.str e.msg tok] ∧
  h.get? a = some oe ∧ oe.cls = .type e.cls ∧ oe.data = .fields vs ∧ vs[0]? = some (.ref t) ∧
  ((n = false ∧ vs[1]? = some .none) ∨ ∃ T oT ts fl, T ∈ X ∧ T ≠ a ∧ vs[1]? = some (.ref T) ∧ h.get? T = some oT ∧ oT.data = .fields ts ∧ oT.cls = .type "traceback" ∧ ts[3]? = some fl ∧ P fl)
noncomputable def FlF (F : Frm) (fl : Value) : Prop := fl = .none ∨ ∃ L, F.env.frame = some L ∧ fl = rawInt L
/-- an exception on its way, seen from frame F, made since h₀ -/
noncomputable def XRepB (n : Bool) (K : Glo) (F : Frm) (e : Exc) (h₀ : Heap) (v : Value) (s : Shared) : Prop := ∃ X, (∀ b ∈ X, h₀.get? b = none) ∧ (∀ b ∈ X, K.base.get? b = none ∧ b ∉ F.mine) ∧ XObj n (FlF F) e X v s.heap
noncomputable abbrev XRep (K : Glo) (F : Frm) (e : Exc) (h₀ : Heap) (v : Value) (s : Shared) : Prop := XRepB false K F e h₀ v s
noncomputable abbrev XRepN (K : Glo) (F : Frm) (e : Exc) (h₀ : Heap) (v : Value) (s : Shared) : Prop := XRepB true K F e h₀ v s
theorem XRepB.x {n : Bool} {K : Glo} {F : Frm} {e : Exc} {h₀ : Heap} {v : Value} {s : Shared} (x : XRepB n K F e h₀ v s) : XRep K F e h₀ v s := by
  obtain ⟨X, f, g, h0, a, t, tok, oe, vs, h1, h2, h4, h5, h6, h7, h8, h9⟩ := x
  refine ⟨X, f, g, h0, a, t, tok, oe, vs, h1, h2, h4, h5, h6, h7, h8, ?_⟩
  rcases h9 with ⟨_, h⟩ | h
  · exact .inl ⟨rfl, h⟩
  · exact .inr h

/-- from s, t does what the outcome tells -/
noncomputable def Run {α β : Type} (K : Glo) (F : Frm) (t : Sem α) (R : Heap → List Addr → β → α → Prop) (out : Res S β) (ρ : List Addr) (s : Shared) : Prop :=
  match out with
  | .stuck => True
  | .ok b σ' => wpAny (model K.prog K.w) F.A t (fun a s' => ∃ ρ', Rel K F σ' ρ' s' ∧ Ext F.mine ρ ρ' s.heap s'.heap ∧ R s'.heap ρ' b a) (fun _ _ => False) s
  | .exc e σ' => wpAny (model K.prog K.w) F.A t (fun _ _ => False) (fun v s' => ∃ ρ', Rel K F σ' ρ' s' ∧ Ext F.mine ρ ρ' s.heap s'.heap ∧ XRep K F e s.heap v s') s

/-! ### Rep and Ext -/

theorem Ext.refl (mine ρ : List Addr) (h : Heap) : Ext mine ρ ρ h h :=
  ⟨List.prefix_refl _, fun _ o e => ⟨o, e⟩, fun _ ha => .inl ha, fun _ o e _ _ => ⟨o, e, .refl _⟩, fun _ _ e _ => e⟩

theorem Ext.trans {mine ρ ρ₁ ρ₂ : List Addr} {h h₁ h₂ : Heap} (x : Ext mine ρ ρ₁ h h₁) (y : Ext mine ρ₁ ρ₂ h₁ h₂) : Ext mine ρ ρ₂ h h₂ where
  pre := x.pre.trans y.pre
  alive := fun b o e => by
    obtain ⟨o1, e1⟩ := x.alive b o e
    exact y.alive b o1 e1
  new := fun a ha => by
    rcases y.new a ha with h1 | h1
    · exact x.new a h1
    · refine .inr ?_
      cases e : h.get? a with
      | none => rfl
      | some o =>
        obtain ⟨o1, e1⟩ := x.alive a o e
        rw [h1] at e1; cases e1
  keep := fun b o e n1 n2 => by
    obtain ⟨o1, e1, l1⟩ := x.keep b o e n1 n2
    have hn : b ∉ ρ₁ := fun hb => by
      rcases x.new b hb with h1 | h1
      · exact n1 h1
      · rw [e] at h1; cases h1
    obtain ⟨o2, e2, l2⟩ := y.keep b _ e1 hn n2
    exact ⟨o2, e2, l1.trans l2⟩
  froz := fun b o e f => y.froz b o (x.froz b o e f) f

theorem XRepB.up {n : Bool} {K : Glo} {F : Frm} {e : Exc} {mine ρ ρ₁ : List Addr} {h h₁ : Heap} {v : Value} {s : Shared} (q : XRepB n K F e h₁ v s) (x : Ext mine ρ ρ₁ h h₁) : XRepB n K F e h v s := by
  obtain ⟨X, f, g⟩ := q
  refine ⟨X, fun b hb => ?_, g⟩
  cases e : h.get? b with
  | none => rfl
  | some o => obtain ⟨o', e'⟩ := x.alive b o e; rw [f b hb] at e'; cases e'

theorem getElem?_prefix {α : Type} {l l' : List α} {i : Nat} {a : α} (h : l <+: l') (e : l[i]? = some a) : l'[i]? = some a := by
  obtain ⟨t, rfl⟩ := h
  rw [List.getElem?_append_left]
  · exact e
  · exact (List.getElem?_eq_some_iff.mp e).1

mutual
theorem Rep.mono' {K : Glo} {ρ ρ' : List Addr} {h h' : Heap} (hp : ρ <+: ρ') (ht : ∀ b o, h.get? b = some o → Froz o → h'.get? b = some o) : ∀ {v : V} {w : Value}, Rep K h ρ v w → Rep K h' ρ' v w
  | .none, _, r => by simpa only [Rep] using r
  | .bool _, _, r => by simpa only [Rep] using r
  | .int _, _, r => by simpa only [Rep] using r
  | .str _, _, r => by simpa only [Rep] using r
  | .tup vs, w, r => by
    simp only [Rep] at r ⊢
    obtain ⟨hl, a, ws, e, t, r⟩ := r
    obtain ⟨o, e1, c, n, d⟩ := t
    exact ⟨hl, a, ws, e, ⟨o, ht _ _ e1 (.inl ⟨c, _, n, d⟩), c, n, d⟩, RepL.mono' hp ht r⟩
  | .obj l, w, r => by
    simp only [Rep] at r ⊢
    obtain ⟨a, e, e2⟩ := r
    exact ⟨a, getElem?_prefix hp e, e2⟩
  | .fn _, _, r => by simpa only [Rep] using r
  | .rng _ _ _, _, r => by
    simp only [Rep] at r ⊢
    obtain ⟨a, t, u, v, e, i⟩ := r
    exact ⟨a, t, u, v, e, ht _ _ i (.inr ⟨rfl, _, rfl⟩)⟩
theorem RepL.mono' {K : Glo} {ρ ρ' : List Addr} {h h' : Heap} (hp : ρ <+: ρ') (ht : ∀ b o, h.get? b = some o → Froz o → h'.get? b = some o) : ∀ {vs : List V} {ws : List Value}, RepL K h ρ vs ws → RepL K h' ρ' vs ws
  | [], _, r => by simpa only [RepL] using r
  | v :: vs, ws, r => by
    simp only [RepL] at r ⊢
    obtain ⟨x, r', e, r1, r2⟩ := r
    exact ⟨x, r', e, Rep.mono' hp ht r1, RepL.mono' hp ht r2⟩
end
theorem Rep.mono {K : Glo} {mine ρ ρ' : List Addr} {h h' : Heap} {v : V} {w : Value} (r : Rep K h ρ v w) (x : Ext mine ρ ρ' h h') : Rep K h' ρ' v w := Rep.mono' x.pre x.froz r
theorem RepL.mono {K : Glo} {mine ρ ρ' : List Addr} {h h' : Heap} {vs : List V} {ws : List Value} (r : RepL K h ρ vs ws) (x : Ext mine ρ ρ' h h') : RepL K h' ρ' vs ws := RepL.mono' x.pre x.froz r

section
variable {K : Glo} {h : Heap} {ρ : List Addr}
theorem Rep.none_iff {w : Value} : Rep K h ρ .none w ↔ w = .none := by simp only [Rep]
theorem Rep.bool_iff {b : Bool} {w : Value} : Rep K h ρ (.bool b) w ↔ w = .bool b := by simp only [Rep]
theorem Rep.int_iff {i : Int} {w : Value} : Rep K h ρ (.int i) w ↔ ∃ t, w = .int i t := by simp only [Rep]
theorem Rep.str_iff {x : Str} {w : Value} : Rep K h ρ (.str x) w ↔ ∃ t, w = .str x t := by simp only [Rep]
theorem Rep.tup_iff {vs : List V} {w : Value} : Rep K h ρ (.tup vs) w ↔ vs.length ≤ 1000000 ∧ ∃ a ws, w = .ref a ∧ IsTup h a ws.toArray ∧ RepL K h ρ vs ws := by simp only [Rep]
theorem Rep.obj_iff {l : Nat} {w : Value} : Rep K h ρ (.obj l) w ↔ ∃ a, ρ[l]? = some a ∧ w = .ref a := by simp only [Rep]
theorem Rep.rng_iff {a b c : Int} {w : Value} : Rep K h ρ (.rng a b c) w ↔ ∃ r t u v, w = .ref r ∧ IsRange h r a b c t u v := by simp only [Rep]
theorem Rep.int (i : Int) (t : Tok) : Rep K h ρ (.int i) (.int i t) := Rep.int_iff.mpr ⟨t, rfl⟩
theorem Rep.str (x : Str) (t : Tok) : Rep K h ρ (.str x) (.str x t) := Rep.str_iff.mpr ⟨t, rfl⟩
theorem Rep.bool (b : Bool) : Rep K h ρ (.bool b) (.bool b) := Rep.bool_iff.mpr rfl
theorem Rep.none : Rep K h ρ .none .none := Rep.none_iff.mpr rfl
theorem RepL.nil_iff {ws : List Value} : RepL K h ρ [] ws ↔ ws = [] := by simp only [RepL]
theorem RepL.cons_iff {v : V} {vs : List V} {ws : List Value} : RepL K h ρ (v :: vs) ws ↔ ∃ x r, ws = x :: r ∧ Rep K h ρ v x ∧ RepL K h ρ vs r := by simp only [RepL]
theorem RepL.nil : RepL K h ρ [] [] := RepL.nil_iff.mpr rfl
theorem RepL.cons {v : V} {vs : List V} {w : Value} {ws : List Value} (r1 : Rep K h ρ v w) (r2 : RepL K h ρ vs ws) : RepL K h ρ (v :: vs) (w :: ws) := RepL.cons_iff.mpr ⟨w, ws, rfl, r1, r2⟩
theorem RepL.length : ∀ {vs : List V} {ws : List Value}, RepL K h ρ vs ws → ws.length = vs.length
  | [], _, r => by rw [RepL.nil_iff.mp r]; rfl
  | v :: vs, ws, r => by
    obtain ⟨x, r', rfl, _, r2⟩ := RepL.cons_iff.mp r
    simp [RepL.length r2]
theorem RepL.append : ∀ {vs us : List V} {ws xs : List Value}, RepL K h ρ vs ws → RepL K h ρ us xs → RepL K h ρ (vs ++ us) (ws ++ xs)
  | [], _, _, _, r, q => by rw [RepL.nil_iff.mp r]; exact q
  | v :: vs, us, ws, xs, r, q => by
    obtain ⟨x, r', rfl, r1, r2⟩ := RepL.cons_iff.mp r
    exact RepL.cons r1 (RepL.append r2 q)
theorem RepL.get? : ∀ {vs : List V} {ws : List Value}, RepL K h ρ vs ws → ∀ {i : Nat} {v : V}, vs[i]? = some v → ∃ w, ws[i]? = some w ∧ Rep K h ρ v w
  | [], _, _, i, v, e => by simp at e
  | u :: vs, ws, r, i, v, e => by
    obtain ⟨x, r', rfl, r1, r2⟩ := RepL.cons_iff.mp r
    cases i with
    | zero => simp only [List.getElem?_cons_zero, Option.some.injEq] at e; subst e; exact ⟨x, by simp, r1⟩
    | succ i => simp only [List.getElem?_cons_succ] at e ⊢; exact RepL.get? r2 e
theorem RepL.getW : ∀ {vs : List V} {ws : List Value}, RepL K h ρ vs ws → ∀ {i : Nat} {w : Value}, ws[i]? = some w → ∃ v, vs[i]? = some v ∧ Rep K h ρ v w
  | [], ws, r, i, w, e => by rw [RepL.nil_iff.mp r] at e; simp at e
  | u :: vs, ws, r, i, w, e => by
    obtain ⟨x, r', rfl, r1, r2⟩ := RepL.cons_iff.mp r
    cases i with
    | zero => simp only [List.getElem?_cons_zero, Option.some.injEq] at e; subst e; exact ⟨u, by simp, r1⟩
    | succ i => simp only [List.getElem?_cons_succ] at e ⊢; exact RepL.getW r2 e
theorem RepL.set : ∀ {vs : List V} {ws : List Value}, RepL K h ρ vs ws → ∀ (i : Nat) {v : V} {w : Value}, Rep K h ρ v w → RepL K h ρ (vs.set i v) (ws.set i w)
  | [], _, r, i, v, w, _ => by rw [RepL.nil_iff.mp r]; exact RepL.nil
  | u :: vs, ws, r, i, v, w, q => by
    obtain ⟨x, r', rfl, r1, r2⟩ := RepL.cons_iff.mp r
    cases i with
    | zero => exact RepL.cons q r2
    | succ i => exact RepL.cons r1 (RepL.set r2 i q)
theorem RepL.eraseIdx : ∀ {vs : List V} {ws : List Value}, RepL K h ρ vs ws → ∀ (i : Nat), RepL K h ρ (vs.eraseIdx i) (ws.eraseIdx i)
  | [], _, r, i => by rw [RepL.nil_iff.mp r]; simp [RepL.nil]
  | u :: vs, ws, r, i => by
    obtain ⟨x, r', rfl, r1, r2⟩ := RepL.cons_iff.mp r
    cases i with
    | zero => exact r2
    | succ i => exact RepL.cons r1 (RepL.eraseIdx r2 i)
end

/-! ### Run -/
section
variable {K : Glo} {F : Frm} {α β γ δ : Type}

theorem Run.stuck {t : Sem α} {R : Heap → List Addr → β → α → Prop} {ρ : List Addr} {s : Shared} : Run K F t R (.stuck : Res S β) ρ s := trivial

theorem Run.pure {a : α} {b : β} {σ : S} {R : Heap → List Addr → β → α → Prop} {ρ : List Addr} {s : Shared} (rel : Rel K F σ ρ s) (r : R s.heap ρ b a) :
    Run K F (Pure.pure a) R (.ok b σ) ρ s := wpAny_pure ⟨ρ, rel, Ext.refl .., r⟩

theorem Run.bind {t : Sem α} {f : α → Sem γ} {R : Heap → List Addr → β → α → Prop} {R' : Heap → List Addr → δ → γ → Prop} {m : M β} {k : β → M δ} {σ : S} {ρ : List Addr} {s : Shared}
    (h1 : Run K F t R (m σ) ρ s)
    (h2 : ∀ b σ' ρ' s' a, m σ = .ok b σ' → Rel K F σ' ρ' s' → Ext F.mine ρ ρ' s.heap s'.heap → R s'.heap ρ' b a → Run K F (f a) R' (k b σ') ρ' s') :
    Run K F (t >>= f) R' ((m >>= k) σ) ρ s := by
  rw [M.bind_def]
  cases e : m σ with
  | stuck => trivial
  | exc x σ' =>
    rw [e] at h1
    exact wpAny_bind (wpAny_mono h1 (fun _ _ h => h.elim) fun _ _ h => h)
  | ok b σ' =>
    rw [e] at h1
    dsimp only
    have key : ∀ {P : Prop} {b' : Res S δ}, k b σ' = b' → P → P := fun _ p => p
    cases e2 : k b σ' with
    | stuck => trivial
    | ok d σ'' =>
      refine wpAny_bind (wpAny_mono h1 (fun a s' h => ?_) fun _ _ h => h.elim)
      obtain ⟨ρ', rel, x, r⟩ := h
      have := h2 b σ' ρ' s' a e rel x r
      rw [e2] at this
      exact wpAny_mono this (fun c s'' h => by obtain ⟨ρ'', rel', x', r'⟩ := h; exact ⟨ρ'', rel', x.trans x', r'⟩) fun _ _ h => h
    | exc y σ'' =>
      refine wpAny_bind (wpAny_mono h1 (fun a s' h => ?_) fun _ _ h => h.elim)
      obtain ⟨ρ', rel, x, r⟩ := h
      have := h2 b σ' ρ' s' a e rel x r
      rw [e2] at this
      exact wpAny_mono this (fun _ _ h => h) fun c s'' h => by obtain ⟨ρ'', rel', x', r'⟩ := h; exact ⟨ρ'', rel', x.trans x', r'.up x⟩

/-- the same with the first part's outcome told by a plain command that leaves the frame's state as it is -/
theorem Run.step {t : Sem α} {f : α → Sem γ} {R' : Heap → List Addr → δ → γ → Prop} {out : Res S δ} {ρ : List Addr} {s : Shared}
    (h : ∀ (Q : α → Shared → Prop) (E : Value → Shared → Prop), (∀ a, Q a s) → wpAny (model K.prog K.w) F.A t Q E s)
    (h2 : ∀ a, Run K F (f a) R' out ρ s) : Run K F (t >>= f) R' out ρ s := by
  cases out with
  | stuck => trivial
  | ok d σ' => exact wpAny_bind (h _ _ fun a => h2 a)
  | exc y σ' => exact wpAny_bind (h _ _ fun a => h2 a)

theorem Run.standAt {p : Pos} {f : Unit → Sem γ} {R' : Heap → List Addr → δ → γ → Prop} {out : Res S δ} {ρ : List Addr} {s : Shared} (h2 : Run K F (f ()) R' out ρ s) :
    Run K F (PySem.standAt p >>= f) R' out ρ s := Run.step (fun _ _ h => wpAny_standAt (h ())) fun _ => h2

theorem Run.holding {vs : List Value} {t : Sem α} {R : Heap → List Addr → β → α → Prop} {out : Res S β} {ρ : List Addr} {s : Shared} (h : Run K F t R out ρ s) : Run K F (PySem.holding vs t) R out ρ s := by
  cases out with
  | stuck => trivial
  | ok d σ' => exact wpAny_holding h
  | exc y σ' => exact wpAny_holding h

theorem Run.operate {vs : List Value} {t : Sem Value} {R : Heap → List Addr → β → Value → Prop} {out : Res S β} {ρ : List Addr} {s : Shared} (h : Run K F t R out ρ s) : Run K F (PySem.operate vs t) R out ρ s := by
  cases out with
  | stuck => trivial
  | ok d σ' => exact wpAny_operating h
  | exc y σ' => exact wpAny_operating h
end

end

/-! part F2 -/
set_option autoImplicit false
set_option maxRecDepth 100000
open PySem PySem.W PyProof.Rows
section
theorem ofString_inj {a b : String} (h : Str.ofString a = Str.ofString b) : a = b := by
  have h1 : (cpsOfBytes 0 0 a.toByteArray.data.toList).toArray = (cpsOfBytes 0 0 b.toByteArray.data.toList).toArray := congrArg Str.cps h
  have h2 := congrArg Array.toList h1
  rw [cpsOfBytes_string, cpsOfBytes_string] at h2
  have h3 : a.toList.map Char.toNat = b.toList.map Char.toNat := by simpa using h2
  have h4 : a.toList = b.toList := List.map_inj_right (fun x y e => Char.toNat_inj.mp e) |>.mp h3
  exact String.toList_inj.mp h4

/-- what a cell's object may be -/
noncomputable def CelObj (o : Obj) : Prop := (o.cls = .type "list" ∧ ∃ xs n, o.data = .seq xs n) ∨ (o.cls = .type "set" ∧ ∃ es n t, o.data = .set es n t) ∨ (o.cls = .type "list_iterator" ∧ ∃ vs, o.data = .fields vs)
noncomputable def CelAt (h : Heap) (a : Addr) : Prop := ∃ o, h.get? a = some o ∧ CelObj o
theorem CelRep.mono {K : Glo} {h h' : Heap} {ρ ρ' : List Addr} {c : Cel} {a : Addr} (x : CelRep K h ρ c a) (hp : ρ <+: ρ') (ht : ∀ b o, h.get? b = some o → Froz o → h'.get? b = some o)
    (hl : ∀ o, h.get? a = some o → CelObj o → h'.get? a = some o) : CelRep K h' ρ' c a := by
  cases c with
  | lst vs => obtain ⟨h0, ws, n, h1, h2⟩ := x; exact ⟨h0, ws, n, hl _ h1 (.inl ⟨rfl, _, _, rfl⟩), RepL.mono' hp ht h2⟩
  | set ns => obtain ⟨h0, o, es, ep, t, e, c, d, r⟩ := x; exact ⟨h0, o, es, ep, t, hl _ e (.inr (.inl ⟨c.1, _, _, _, d⟩)), c, d, r⟩
  | itr l i d =>
    obtain ⟨o, e, c, vs, dd, r⟩ := x
    refine ⟨o, hl _ e (.inr (.inr ⟨c, _, dd⟩)), c, vs, dd, ?_⟩
    cases d with
    | true => exact r
    | false => obtain ⟨b, q, r⟩ := r; exact ⟨b, getElem?_prefix hp q, r⟩

theorem VarAt.mono {env : Env} {h h' : Heap} {x : Str} {w : Value} (v : VarAt env h x w) (hn : ∀ m, h.Ns env.locals m → h'.Ns env.locals m)
    (hc : ∀ c u, env.cells.lookup x = some c → h.IsCell c (some u) → h'.IsCell c (some u)) : VarAt env h' x w := by
  rcases v with ⟨k, m, n, e⟩ | ⟨k, c, e, n⟩
  · exact .inl ⟨k, m, hn m n, e⟩
  · exact .inr ⟨k, c, e, hc c w e n⟩

section
variable {K : Glo} {F : Frm} {σ : S} {ρ ρ' : List Addr} {s s' : Shared} {mine : List Addr} {h h' : Heap}

theorem kept_tup (hk : ∀ b o, h.get? b = some o → h'.get? b = some o) : ∀ b o, h.get? b = some o → Froz o → h'.get? b = some o := fun _ _ e _ => hk _ _ e

theorem Ext.kept (hk : ∀ b o, h.get? b = some o → h'.get? b = some o) : Ext mine ρ ρ h h' :=
  ⟨List.prefix_refl _, fun _ o e => ⟨o, hk _ _ e⟩, fun _ ha => .inl ha, fun _ o e _ _ => ⟨o, hk _ _ e, .refl _⟩, kept_tup hk⟩

theorem GRel.kept {st : Store} (rel : GRel K st ρ s) (hk : ∀ b o, s.heap.get? b = some o → s'.heap.get? b = some o) (hg : s'.gens = s.gens) (ho : s'.os = s.os) : GRel K st ρ s' where
  gens := hg.trans rel.gens
  os := ho.trans rel.os
  base := fun b o e => hk _ _ (rel.base b o e)
  len := rel.len
  cell := fun l a c h1 h2 => (rel.cell l a c h1 h2).mono (List.prefix_refl _) (kept_tup hk) fun _ e _ => hk _ _ e
  nodup := rel.nodup
  above := rel.above

theorem Rel.kept (rel : Rel K F σ ρ s) (hk : ∀ b o, s.heap.get? b = some o → s'.heap.get? b = some o) (hg : s'.gens = s.gens) (ho : s'.os = s.os) : Rel K F σ ρ s' where
  toGRel := rel.toGRel.kept hk hg ho
  vars := fun x v e => by
    obtain ⟨w, h1, h2⟩ := rel.vars x v e
    exact ⟨w, h1.mono (fun m n => n.keeps hk) (fun c u _ n => n.keeps hk), Rep.mono' (List.prefix_refl _) (kept_tup hk) h2⟩
  loc := let ⟨m, n⟩ := rel.loc; ⟨m, n.keeps hk⟩
  cels := fun x c e => let ⟨v, n⟩ := rel.cels x c e; ⟨v, n.keeps hk⟩
  mineAbove := fun a ha => let ⟨h1, o, h2⟩ := rel.mineAbove a ha; ⟨h1, o, hk _ _ h2⟩
  mineApart := rel.mineApart
  mineLoc := rel.mineLoc
  frs := rel.frs.kept hk

theorem Rel.tok (rel : Rel K F σ ρ s) (t : Nat) : Rel K F σ ρ { s with toks := t } := rel.kept (fun _ _ e => e) rfl rfl
theorem Rel.push (rel : Rel K F σ ρ s) (o : Obj) (t : Nat) : Rel K F σ ρ { s with heap := s.heap.push o, toks := t } := rel.kept (fun _ _ e => Heap.get?_push_of_some o e) rfl rfl
theorem Ext.push (o : Obj) : Ext mine ρ ρ h (h.push o) := Ext.kept fun _ _ e => Heap.get?_push_of_some o e

theorem GRel.alive {st : Store} (rel : GRel K st ρ s) {a : Addr} (ha : a ∈ ρ) : CelAt s.heap a := by
  obtain ⟨l, hl⟩ := List.mem_iff_getElem?.mp ha
  have h1 : l < ρ.length := (List.getElem?_eq_some_iff.mp hl).1
  rw [rel.len] at h1
  have h2 : st[l]? = some st[l] := List.getElem?_eq_getElem h1
  have h3 := rel.cell l a _ hl h2
  cases hc : st[l] with
  | lst vs => rw [hc] at h3; obtain ⟨_, ws, n, h4, _⟩ := h3; exact ⟨_, h4, .inl ⟨rfl, _, _, rfl⟩⟩
  | set ns => rw [hc] at h3; obtain ⟨_, o, es, ep, t, e, c, d, _⟩ := h3; exact ⟨_, e, .inr (.inl ⟨c.1, _, _, _, d⟩)⟩
  | itr l i d => rw [hc] at h3; obtain ⟨o, e, c, vs, dd, _⟩ := h3; exact ⟨_, e, .inr (.inr ⟨c, _, dd⟩)⟩

theorem CelObj.froz {o : Obj} (c : CelObj o) (f : Froz o) : False := by
  rcases c with ⟨c, _⟩ | ⟨c, _⟩ | ⟨c, _⟩ <;> rcases f with ⟨f, _⟩ | ⟨f, _⟩ <;> (rw [c] at f; exact absurd f (by decide))
theorem CelObj.dict {o : Obj} (c : CelObj o) {es : Array DictEntry} {n : Nat} (f : o.data = .dict es n) : False := by
  rcases c with ⟨_, _, _, c⟩ | ⟨_, _, _, _, c⟩ | ⟨_, _, c⟩ <;> (rw [c] at f; cases f)
theorem CelObj.cell {o : Obj} (c : CelObj o) {v : Option Value} (f : o.data = .cell v) : False := by
  rcases c with ⟨_, _, _, c⟩ | ⟨_, _, _, _, c⟩ | ⟨_, _, c⟩ <;> (rw [c] at f; cases f)
theorem cel_ne_tup {a b : Addr} {o' : Obj} (h1 : CelAt h a) (e' : h.get? b = some o') (f : Froz o') : b ≠ a := by
  rintro rfl
  obtain ⟨o, e, c⟩ := h1
  rw [e] at e'; cases e'
  exact c.froz f
theorem froz_ne_dict {o : Obj} (f : Froz o) : ∀ es n, o.data ≠ .dict es n := by
  rintro es n d
  rcases f with ⟨_, _, _, f⟩ | ⟨_, _, f⟩ <;> (rw [d] at f; cases f)
theorem froz_ne_cell {o : Obj} (f : Froz o) : ∀ v, o.data ≠ .cell v := by
  rintro v d
  rcases f with ⟨_, _, _, f⟩ | ⟨_, _, f⟩ <;> (rw [d] at f; cases f)
theorem cel_ne_ns {a b : Addr} {m : Str → Option Value} (h1 : CelAt h a) (h2 : h.Ns b m) : b ≠ a := by
  rintro rfl
  obtain ⟨o, e, c⟩ := h1
  obtain ⟨o', es, ep, e', d', _⟩ := h2
  rw [e] at e'; cases e'; exact c.dict d'
theorem cel_ne_cell {a b : Addr} {v : Option Value} (h1 : CelAt h a) (h2 : h.IsCell b v) : b ≠ a := by
  rintro rfl
  obtain ⟨o, e, c⟩ := h1
  obtain ⟨o', e', d'⟩ := h2
  rw [e] at e'; cases e'; exact c.cell d'
theorem ns_ne_tup {a b : Addr} {o' : Obj} {m : Str → Option Value} (h1 : h.Ns a m) (e' : h.get? b = some o') (f : Froz o') : b ≠ a := by
  rintro rfl
  obtain ⟨o, es, ep, e, d', _⟩ := h1
  rw [e] at e'; cases e'; exact froz_ne_dict f _ _ d'
theorem cell_ne_tup {a b : Addr} {o' : Obj} {v : Option Value} (h1 : h.IsCell a v) (e' : h.get? b = some o') (f : Froz o') : b ≠ a := by
  rintro rfl
  obtain ⟨o, e, d'⟩ := h1
  rw [e] at e'; cases e'; exact froz_ne_cell f _ d'
theorem cell_ne_ns {a b : Addr} {v : Option Value} {m : Str → Option Value} (h1 : h.IsCell a v) (h2 : h.Ns b m) : b ≠ a := by
  rintro rfl
  obtain ⟨o', es, ep, e', d', _⟩ := h2
  obtain ⟨o, e, d⟩ := h1
  rw [e] at e'; cases e'; rw [d] at d'; cases d'

theorem nodup_get {α : Type} : ∀ {l : List α}, l.Nodup → ∀ {i j : Nat} {a : α}, l[i]? = some a → l[j]? = some a → i = j
  | [], _, i, j, a, h1, _ => by simp at h1
  | x :: l, n, i, j, a, h1, h2 => by
    obtain ⟨n1, n2⟩ := List.nodup_cons.mp n
    cases i with
    | zero =>
      cases j with
      | zero => rfl
      | succ j =>
        simp only [List.getElem?_cons_zero, Option.some.injEq] at h1; subst h1
        exact absurd (List.mem_of_getElem? (by simpa using h2)) n1
    | succ i =>
      cases j with
      | zero =>
        simp only [List.getElem?_cons_zero, Option.some.injEq] at h2; subst h2
        exact absurd (List.mem_of_getElem? (by simpa using h1)) n1
      | succ j => exact congrArg (· + 1) (nodup_get n2 (by simpa using h1) (by simpa using h2))

/-- a cell of the store is replaced -/
theorem GRel.updC {st : Store} {l : Nat} {a : Addr} {c : Cel} (rel : GRel K st ρ s) (hl : ρ[l]? = some a) (hl0 : l ≠ 0) (hs : Heap.SameBut a s.heap s'.heap)
    (hL : CelRep K s'.heap ρ c a) (hal : ∃ o, s'.heap.get? a = some o) (hg : s'.gens = s.gens) (ho : s'.os = s.os) :
    GRel K (st.set l c) ρ s' ∧ Ext mine ρ ρ s.heap s'.heap := by
  have ha : a ∈ ρ := List.mem_of_getElem? hl
  have hold := rel.alive ha
  have ht : ∀ b o, s.heap.get? b = some o → Froz o → s'.heap.get? b = some o := fun b o e f => (hs.2 b (cel_ne_tup hold e f)).trans e
  refine ⟨⟨hg.trans rel.gens, ho.trans rel.os, ?_, ?_, ?_, rel.nodup, rel.above⟩, ?_⟩
  · intro b o e
    have hne : b ≠ a := by rintro rfl; rw [rel.above l _ hl hl0] at e; cases e
    exact (hs.2 b hne).trans (rel.base b o e)
  · rw [rel.len, List.length_set]
  · intro k b c h1 h2
    by_cases hk : k = l
    · subst hk
      rw [hl] at h1; cases h1
      have h3 : k < st.length := by rw [← rel.len]; exact (List.getElem?_eq_some_iff.mp hl).1
      rw [List.getElem?_set_self h3] at h2; cases h2
      exact hL
    · rw [List.getElem?_set_ne (Ne.symm hk)] at h2
      have hne : b ≠ a := fun e => hk (nodup_get rel.nodup (e ▸ h1) hl)
      exact (rel.cell k b c h1 h2).mono (List.prefix_refl _) ht fun _ e _ => (hs.2 b hne).trans e
  · refine ⟨List.prefix_refl _, fun b o e => ?_, fun _ hb => .inl hb, fun b o e n1 _ => ⟨o, (hs.2 b (fun x => n1 (x ▸ ha))).trans e, .refl _⟩, ht⟩
    by_cases hb : b = a
    · subst hb; exact hal
    · exact ⟨o, (hs.2 b hb).trans e⟩

theorem Rel.updC {l : Nat} {a : Addr} {c : Cel} (rel : Rel K F σ ρ s) (hl : ρ[l]? = some a) (hl0 : l ≠ 0) (hs : Heap.SameBut a s.heap s'.heap)
    (hL : CelRep K s'.heap ρ c a) (hal : ∃ o, s'.heap.get? a = some o) (hg : s'.gens = s.gens) (ho : s'.os = s.os) :
    Rel K F { σ with st := σ.st.set l c } ρ s' ∧ Ext F.mine ρ ρ s.heap s'.heap := by
  obtain ⟨g, x⟩ := rel.toGRel.updC (mine := F.mine) hl hl0 hs hL hal hg ho
  have hold := rel.toGRel.alive (List.mem_of_getElem? hl)
  refine ⟨{ toGRel := g, vars := ?_, loc := ?_, cels := ?_, mineAbove := ?_, mineApart := rel.mineApart, mineLoc := rel.mineLoc, frs := rel.frs.next fun b o es n g d => ⟨o, es, n, (hs.2 b (by
      rintro rfl
      obtain ⟨o', g', c'⟩ := hold
      rw [g] at g'; cases g'; exact c'.dict d)).trans g, d⟩ }, x⟩
  · intro y v e
    obtain ⟨w, h1, h2⟩ := rel.vars y v e
    exact ⟨w, h1.mono (fun m n => n.sameBut hs (cel_ne_ns hold n)) (fun c u _ n => n.sameBut hs (cel_ne_cell hold n)), h2.mono x⟩
  · obtain ⟨m, n⟩ := rel.loc; exact ⟨m, n.sameBut hs (cel_ne_ns hold n)⟩
  · intro y c e
    obtain ⟨v, n⟩ := rel.cels y c e; exact ⟨v, n.sameBut hs (cel_ne_cell hold n)⟩
  · intro b hb
    obtain ⟨h1, o, h2⟩ := rel.mineAbove b hb
    obtain ⟨o', h3⟩ := x.alive b o h2
    exact ⟨h1, o', h3⟩

/-- a list of the store is replaced -/
theorem Rel.upd {l n : Nat} {a : Addr} {vs : List V} {ws : List Value} (rel : Rel K F σ ρ s) (hl : ρ[l]? = some a) (hl0 : l ≠ 0) (hs : Heap.SameBut a s.heap s'.heap)
    (hL : IsL s'.heap a ws.toArray n) (hr : RepL K s.heap ρ vs ws) (hln : vs.length ≤ 1000000) (hg : s'.gens = s.gens) (ho : s'.os = s.os) :
    Rel K F { σ with st := σ.st.set l (.lst vs) } ρ s' ∧ Ext F.mine ρ ρ s.heap s'.heap := by
  have hold := rel.toGRel.alive (List.mem_of_getElem? hl)
  exact rel.updC hl hl0 hs ⟨hln, ws, n, hL, RepL.mono' (List.prefix_refl _) (fun b o e f => (hs.2 b (cel_ne_tup hold e f)).trans e) hr⟩ ⟨_, hL⟩ hg ho

/-- a new cell that lies somewhere above -/
theorem Rel.newAtC {a : Addr} {c : Cel} (rel : Rel K F σ ρ s) (hk : ∀ b o, s.heap.get? b = some o → s'.heap.get? b = some o) (h0 : s.heap.get? a = none)
    (hL : CelRep K s'.heap ρ c a) (hg : s'.gens = s.gens) (ho : s'.os = s.os) :
    Rel K F { σ with st := σ.st ++ [c] } (ρ ++ [a]) s' ∧ Ext F.mine ρ (ρ ++ [a]) s.heap s'.heap := by
  have r := rel.kept hk hg ho
  have hpre : ρ <+: ρ ++ [a] := List.prefix_append _ _
  have hanρ : a ∉ ρ := fun h => by
    obtain ⟨o, e, _⟩ := rel.toGRel.alive h
    rw [h0] at e; cases e
  have x : Ext F.mine ρ (ρ ++ [a]) s.heap s'.heap := by
    refine ⟨hpre, fun b o' e => ⟨o', hk _ _ e⟩, fun b hb => ?_, fun b o' e _ _ => ⟨o', hk _ _ e, .refl _⟩, kept_tup hk⟩
    rcases List.mem_append.mp hb with hb | hb
    · exact .inl hb
    · simp only [List.mem_singleton] at hb; subst hb; exact .inr h0
  refine ⟨{ gens := r.gens, os := r.os, base := r.base, len := ?_, cell := ?_, nodup := ?_, above := ?_, vars := ?_, loc := r.loc, cels := r.cels, mineAbove := r.mineAbove, mineApart := ?_, mineLoc := r.mineLoc, frs := r.frs }, x⟩
  · simp [rel.len]
  · intro l b c' h1 h2
    dsimp only at h2
    by_cases hl : l < σ.st.length
    · rw [List.getElem?_append_left (by rw [rel.len]; exact hl)] at h1
      rw [List.getElem?_append_left hl] at h2
      exact (rel.cell l b c' h1 h2).mono hpre (kept_tup hk) fun _ e _ => hk _ _ e
    · have hl' : l = σ.st.length := by
        rcases List.getElem?_eq_some_iff.mp h2 with ⟨h3, _⟩
        simp at h3; (first | lia | omega)
      subst hl'
      rw [← rel.len, List.getElem?_concat_length] at h1; cases h1
      rw [List.getElem?_concat_length] at h2; cases h2
      exact hL.mono hpre (fun b o e _ => e) fun _ e _ => e
  · refine List.nodup_append.mpr ⟨rel.nodup, by simp, ?_⟩
    intro b hb c hc
    simp only [List.mem_singleton] at hc; subst hc
    rintro rfl
    exact hanρ hb
  · intro l b hlb hl0
    by_cases hlt : l < ρ.length
    · rw [List.getElem?_append_left hlt] at hlb
      exact rel.above l b hlb hl0
    · have hb : b = a := by
        rw [List.getElem?_append_right (by (first | lia | omega))] at hlb
        have := List.mem_of_getElem? hlb
        simpa using this
      subst hb
      cases e : K.base.get? b with
      | none => rfl
      | some o' => have := rel.base _ _ e; rw [h0] at this; cases this
  · intro y v e
    obtain ⟨w, h1, h2⟩ := r.vars y v e
    exact ⟨w, h1, Rep.mono' hpre (fun _ _ e _ => e) h2⟩
  · intro b hb hc
    rcases List.mem_append.mp hc with hc | hc
    · exact rel.mineApart b hb hc
    · simp only [List.mem_singleton] at hc; subst hc
      obtain ⟨_, o', e⟩ := rel.mineAbove _ hb
      rw [h0] at e; cases e

/-- a new list -/
theorem Rel.newList {vs : List V} {ws : List Value} {o : Obj} (rel : Rel K F σ ρ s) (ho : o = { cls := .type "list", data := .seq ws.toArray }) (hr : RepL K s.heap ρ vs ws) (hln : vs.length ≤ 1000000) (t : Nat) :
    Rel K F { σ with st := σ.st ++ [.lst vs] } (ρ ++ [s.heap.objs.size]) { s with heap := s.heap.push o, toks := t } ∧ Ext F.mine ρ (ρ ++ [s.heap.objs.size]) s.heap (s.heap.push o) := by
  subst ho
  have hk : ∀ b o', s.heap.get? b = some o' → (s.heap.push { cls := .type "list", data := .seq ws.toArray }).get? b = some o' := fun _ _ e => Heap.get?_push_of_some _ e
  exact rel.newAtC (s' := { s with heap := s.heap.push { cls := .type "list", data := .seq ws.toArray }, toks := t }) hk (Heap.get?_none_of_le (Nat.le_refl _)) ⟨hln, ws, 0, Heap.get?_push_size _ rfl, RepL.mono' (List.prefix_refl _) (kept_tup hk) hr⟩ rfl rfl

/-- a name is bound -/
noncomputable def S.put (σ : S) (x : String) (v : V) : S := { σ with lo := fun y => if y = x then some v else σ.lo y }

theorem Ext.mineBut {a : Addr} (ha : a ∈ mine) (hs : Heap.SameBut a h h') (hal : ∃ o, h'.get? a = some o) (ht : ∀ b o, h.get? b = some o → Froz o → b ≠ a) : Ext mine ρ ρ h h' where
  pre := List.prefix_refl _
  alive := fun b o e => by
    by_cases hb : b = a
    · subst hb; exact hal
    · exact ⟨o, (hs.2 b hb).trans e⟩
  new := fun _ hb => .inl hb
  keep := fun b o e _ n => ⟨o, (hs.2 b (fun x => n (x ▸ ha))).trans e, .refl _⟩
  froz := fun b o e f => (hs.2 b (ht b o e f)).trans e

theorem GRel.mineBut {st : Store} {a : Addr} (rel : GRel K st ρ s) (hb : K.base.get? a = none) (hnl : a ∉ ρ) (hs : Heap.SameBut a s.heap s'.heap) (ht : ∀ b o, s.heap.get? b = some o → Froz o → b ≠ a)
    (hg : s'.gens = s.gens) (ho : s'.os = s.os) : GRel K st ρ s' where
  gens := hg.trans rel.gens
  os := ho.trans rel.os
  base := fun b o e => (hs.2 b (by rintro rfl; rw [hb] at e; cases e)).trans (rel.base b o e)
  len := rel.len
  cell := fun l b c h1 h2 => by
    have hne : b ≠ a := fun e => hnl (e ▸ List.mem_of_getElem? h1)
    refine (rel.cell l b c h1 h2).mono (List.prefix_refl _) (fun d o e f => (hs.2 d (ht d o e f)).trans e) fun _ e _ => (hs.2 b hne).trans e
  nodup := rel.nodup
  above := rel.above

theorem Rel.setLocal {x : String} {v : V} {w : Value} {m : Str → Option Value} (rel : Rel K F σ ρ s) (hk : F.env.kindOf (Str.ofString x) = some .local) (hm : s.heap.Ns F.env.locals m)
    (hn : s'.heap.Ns F.env.locals (fun y => if y = Str.ofString x then some w else m y)) (hs : Heap.SameBut F.env.locals s.heap s'.heap) (hr : Rep K s.heap ρ v w)
    (hg : s'.gens = s.gens) (ho : s'.os = s.os) : Rel K F (σ.put x v) ρ s' ∧ Ext F.mine ρ ρ s.heap s'.heap := by
  have ht : ∀ b o, s.heap.get? b = some o → Froz o → b ≠ F.env.locals := fun b o e f => ns_ne_tup hm e f
  have hal : ∃ o, s'.heap.get? F.env.locals = some o := by obtain ⟨o, _, _, e, _⟩ := hn; exact ⟨o, e⟩
  have ext : Ext F.mine ρ ρ s.heap s'.heap := Ext.mineBut rel.mineLoc hs hal ht
  have hfr : FrsOk K F s'.heap := rel.frs.next fun b o es n g d => by
    by_cases hb : b = F.env.locals
    · subst hb
      obtain ⟨o', es', ep', g', d', _⟩ := hn
      exact ⟨o', _, _, g', d'⟩
    · exact ⟨o, es, n, (hs.2 b hb).trans g, d⟩
  refine ⟨{ toGRel := rel.toGRel.mineBut (rel.mineAbove _ rel.mineLoc).1 (rel.mineApart _ rel.mineLoc) hs ht hg ho, vars := ?_, loc := ⟨_, hn⟩, cels := ?_, mineAbove := ?_, mineApart := rel.mineApart, mineLoc := rel.mineLoc, frs := hfr }, ext⟩
  · intro y u e
    by_cases hy : y = x
    · subst hy
      simp only [S.put, if_true, Option.some.injEq] at e
      subst e
      exact ⟨w, .inl ⟨hk, _, hn, by simp⟩, hr.mono ext⟩
    · simp only [S.put, if_neg hy] at e
      obtain ⟨w', h1, h2⟩ := rel.vars y u e
      refine ⟨w', ?_, h2.mono ext⟩
      rcases h1 with ⟨k1, m1, n1, e1⟩ | ⟨k1, c, e1, n1⟩
      · refine .inl ⟨k1, _, hn, ?_⟩
        have hne : ¬ Str.ofString y = Str.ofString x := fun q => hy (ofString_inj q)
        rw [if_neg hne]
        obtain ⟨o1, es1, ep1, g1, d1, _, f1⟩ := n1
        obtain ⟨o2, es2, ep2, g2, d2, _, f2⟩ := hm
        rw [g1] at g2; cases g2; rw [d1] at d2; cases d2
        rw [← f2, f1]; exact e1
      · exact .inr ⟨k1, c, e1, n1.sameBut hs (fun q => cell_ne_ns n1 hm q.symm)⟩
  · intro y c e
    obtain ⟨v', n⟩ := rel.cels y c e
    exact ⟨v', n.sameBut hs (fun q => cell_ne_ns n hm q.symm)⟩
  · intro b hb
    obtain ⟨h1, o, h2⟩ := rel.mineAbove b hb
    obtain ⟨o', h3⟩ := ext.alive b o h2
    exact ⟨h1, o', h3⟩

theorem Rel.setCell {x : String} {v : V} {w : Value} {c : Addr} {v₀ : Option Value} (rel : Rel K F σ ρ s) (hk : F.env.kindOf (Str.ofString x) = some .cell) (hc : F.env.cells.lookup (Str.ofString x) = some c) (hmine : c ∈ F.mine)
    (hinj : ∀ y, F.env.cells.lookup y = some c → y = Str.ofString x) (h0 : s.heap.IsCell c v₀)
    (hn : s'.heap.IsCell c (some w)) (hs : Heap.SameBut c s.heap s'.heap) (hr : Rep K s.heap ρ v w)
    (hg : s'.gens = s.gens) (ho : s'.os = s.os) : Rel K F (σ.put x v) ρ s' ∧ Ext F.mine ρ ρ s.heap s'.heap := by
  have ht : ∀ b o, s.heap.get? b = some o → Froz o → b ≠ c := fun b o e f => cell_ne_tup h0 e f
  have hal : ∃ o, s'.heap.get? c = some o := by obtain ⟨o, e, _⟩ := hn; exact ⟨o, e⟩
  have ext : Ext F.mine ρ ρ s.heap s'.heap := Ext.mineBut hmine hs hal ht
  refine ⟨{ toGRel := rel.toGRel.mineBut (rel.mineAbove _ hmine).1 (rel.mineApart _ hmine) hs ht hg ho, vars := ?_, loc := ?_, cels := ?_, mineAbove := ?_, mineApart := rel.mineApart, mineLoc := rel.mineLoc, frs := rel.frs.next fun b o es n g d => ⟨o, es, n, (hs.2 b (by
      rintro rfl
      obtain ⟨o', g', d'⟩ := h0
      rw [g] at g'; cases g'; rw [d] at d'; cases d')).trans g, d⟩ }, ext⟩
  · intro y u e
    by_cases hy : y = x
    · subst hy
      simp only [S.put, if_true, Option.some.injEq] at e
      subst e
      exact ⟨w, .inr ⟨.inl hk, c, hc, hn⟩, hr.mono ext⟩
    · simp only [S.put, if_neg hy] at e
      obtain ⟨w', h1, h2⟩ := rel.vars y u e
      refine ⟨w', ?_, h2.mono ext⟩
      rcases h1 with ⟨k1, m1, n1, e1⟩ | ⟨k1, c', e1, n1⟩
      · exact .inl ⟨k1, m1, n1.sameBut hs (cell_ne_ns h0 n1), e1⟩
      · have hne : c' ≠ c := by rintro rfl; exact hy (ofString_inj (hinj _ e1))
        exact .inr ⟨k1, c', e1, n1.sameBut hs hne⟩
  · obtain ⟨m, n⟩ := rel.loc; exact ⟨m, n.sameBut hs (cell_ne_ns h0 n)⟩
  · intro y c' e
    obtain ⟨v', n⟩ := rel.cels y c' e
    by_cases hcc : c' = c
    · subst hcc; exact ⟨_, hn⟩
    · exact ⟨v', n.sameBut hs hcc⟩
  · intro b hb
    obtain ⟨h1, o, h2⟩ := rel.mineAbove b hb
    obtain ⟨o', h3⟩ := ext.alive b o h2
    exact ⟨h1, o', h3⟩
end

end

/-! part F3 -/
set_option autoImplicit false
set_option maxRecDepth 100000
open PySem PySem.W PyProof.Rows
section
inductive Fl where
  | next | brk | cont
  | ret (v : V)

noncomputable def FlRep (K : Glo) (h : Heap) (ρ : List Addr) : Fl → Flow → Prop
  | .next, f => f = .next
  | .brk, f => f = .brk
  | .cont, f => f = .cont
  | .ret v, f => ∃ w, f = .ret w ∧ Rep K h ρ v w

noncomputable def SimE (K : Glo) (F : Frm) (e : Expr) (m : M V) : Prop := ∀ σ ρ s, Rel K F σ ρ s → Run K F (eval e F.env) (Rep K) (m σ) ρ s
noncomputable def BRep (_ : Heap) (_ : List Addr) (b : Bool) (a : Bool) : Prop := a = b
noncomputable def SimB (K : Glo) (F : Frm) (e : Expr) (m : M Bool) : Prop := ∀ σ ρ s, Rel K F σ ρ s → Run K F (isTrue e F.env (eval e F.env)) BRep (m σ) ρ s
noncomputable def SimS (K : Glo) (F : Frm) (st : Stmt) (m : M Fl) : Prop := ∀ σ ρ s, Rel K F σ ρ s → Run K F (exec st F.env) (FlRep K) (m σ) ρ s
noncomputable def SimSs (K : Glo) (F : Frm) (st : List Stmt) (m : M Fl) : Prop := ∀ σ ρ s, Rel K F σ ρ s → Run K F (execs st F.env) (FlRep K) (m σ) ρ s
noncomputable def URep (_ : Heap) (_ : List Addr) (_ : Unit) (_ : Unit) : Prop := True
noncomputable def SimT (K : Glo) (F : Frm) (e : Expr) (m : V → M Unit) : Prop := ∀ σ ρ s v w, Rel K F σ ρ s → Rep K s.heap ρ v w → Run K F (assign e F.env w) URep (m v σ) ρ s

structure FOk (F : Frm) : Prop where
  kind : F.env.scope.kind = .function
  glob : F.env.globals = mainGlobals
  blt : F.env.builtins = builtinsNs
  hd : F.nh = true → F.A.handled = none
  units : F.A.units + 1000 < cLine

noncomputable def getv (x : String) : M V := fun σ => match σ.lo x with | some v => .ok v σ | none => .stuck
noncomputable def setv (x : String) (v : V) : M Unit := fun σ => .ok () (σ.put x v)

variable {K : Glo} {F : Frm}

theorem Run.ok {α β : Type} {t : Sem α} {R : Heap → List Addr → β → α → Prop} {b : β} {σ' : S} {ρ : List Addr} {s : Shared}
    (h : wpAny (model K.prog K.w) F.A t (fun a s' => ∃ ρ', Rel K F σ' ρ' s' ∧ Ext F.mine ρ ρ' s.heap s'.heap ∧ R s'.heap ρ' b a) (fun _ _ => False) s) : Run K F t R (.ok b σ') ρ s := h

/-! ### names and constants -/
theorem simE_name (fk : FOk F) (x : String) (pos : Pos) (hd : (Str.ofString x == ("__debug__" : Str)) = false := by decide) (hc : (Str.ofString x == ("__classdict__" : Str)) = false := by decide) :
    SimE K F (.Name (Str.ofString x) pos) (getv x) := by
  intro σ ρ s rel
  unfold getv
  cases e : σ.lo x with
  | none => exact Run.stuck
  | some v =>
    dsimp only
    obtain ⟨w, h1, h2⟩ := rel.vars x v e
    refine Run.ok (wpAny_Name ?_ hd)
    have fin : ∃ ρ', Rel K F σ ρ' s ∧ Ext F.mine ρ ρ' s.heap s.heap ∧ Rep K s.heap ρ' v w := ⟨ρ, rel, Ext.refl .., h2⟩
    rcases h1 with ⟨k, m, n, em⟩ | ⟨k | k, c, ec, n⟩
    · exact wpAny_loadName_local fk.kind k n em fin
    · exact wpAny_loadName_cell fk.kind k ec n fin
    · exact wpAny_loadName_free fk.kind k ec n fin hc

theorem simE_none (k : Nat) (pos : Pos) : SimE K F (.Constant .none k pos) (pure .none) := fun _ ρ _ rel => Run.ok (wpAny_Constant_none ⟨ρ, rel, Ext.refl .., Rep.none⟩)
theorem simE_bool (b : Bool) (k : Nat) (pos : Pos) : SimE K F (.Constant (.bool b) k pos) (pure (.bool b)) := fun _ ρ _ rel => Run.ok (wpAny_Constant_bool ⟨ρ, rel, Ext.refl .., Rep.bool b⟩)
theorem simE_int (i : Int) (k : Nat) (pos : Pos) : SimE K F (.Constant (.int i) k pos) (pure (.int i)) := fun _ ρ _ rel => Run.ok (wpAny_Constant_int ⟨ρ, rel.tok _, Ext.refl .., Rep.int ..⟩)
theorem simE_str (x : Str) (k : Nat) (pos : Pos) : SimE K F (.Constant (.str x) k pos) (pure (.str x)) := fun _ ρ _ rel => Run.ok (wpAny_Constant_str ⟨ρ, rel.tok _, Ext.refl .., Rep.str ..⟩)

/-! ### operators -/
noncomputable def BinOk (K : Glo) (op : Operator) (f : V → V → M V) : Prop :=
  ∀ F : Frm, FOk F → ∀ σ ρ s a b wa wb, Rel K F σ ρ s → Rep K s.heap ρ a wa → Rep K s.heap ρ b wb → Run K F (binaryOp op wa wb) (Rep K) (f a b σ) ρ s
noncomputable def CmpOk (K : Glo) (op : CmpOp) (f : V → V → M V) : Prop :=
  ∀ F : Frm, FOk F → ∀ σ ρ s a b wa wb, Rel K F σ ρ s → Rep K s.heap ρ a wa → Rep K s.heap ρ b wb → Run K F (compareOp op wa wb) (Rep K) (f a b σ) ρ s
noncomputable def TruOk (K : Glo) (f : V → M Bool) : Prop :=
  ∀ F : Frm, FOk F → ∀ σ ρ s a wa, Rel K F σ ρ s → Rep K s.heap ρ a wa → Run K F (truthy wa) BRep (f a σ) ρ s

theorem simE_bin (fk : FOk F) {op : Operator} {f : V → V → M V} (ho : BinOk K op f) {l r : Expr} {ml mr : M V} (pos : Pos) (hl : SimE K F l ml) (hr : SimE K F r mr) :
    SimE K F (.BinOp l op r pos) (do let a ← ml; let b ← mr; f a b) := by
  intro σ ρ s rel
  rw [eval_BinOp]
  refine Run.bind (hl σ ρ s rel) fun a σ₁ ρ₁ s₁ wa _ rel₁ x₁ ra => ?_
  refine Run.bind (Run.holding (hr σ₁ ρ₁ s₁ rel₁)) fun b σ₂ ρ₂ s₂ wb _ rel₂ x₂ rb => ?_
  exact Run.standAt (Run.operate (ho F fk σ₂ ρ₂ s₂ a b wa wb rel₂ (ra.mono x₂) rb))

theorem simB_cmp (fk : FOk F) {op : CmpOp} {f : V → V → M V} (ho : CmpOk K op f) {tr : V → M Bool} (ht : TruOk K tr) {l r : Expr} {ml mr : M V} (pos : Pos) (hl : SimE K F l ml) (hr : SimE K F r mr)
    (hm : behindInMarks op r = false := by rfl) :
    SimB K F (.Compare l [op] [r] pos) (do let a ← ml; let b ← mr; let c ← f a b; tr c) := by
  intro σ ρ s rel
  have e : isTrue (.Compare l [op] [r] pos) F.env (eval (.Compare l [op] [r] pos) F.env) = (do let left ← eval l F.env; let rv ← holding [left] (eval r F.env); standAt pos; let c ← operate [left, rv] (compareOp op left rv); holding [c] (truthy c)) := by
    rw [isTrue_Compare1]
    simp only [markedBehindIn_of_false hm]
  rw [e]
  refine Run.bind (hl σ ρ s rel) fun a σ₁ ρ₁ s₁ wa _ rel₁ x₁ ra => ?_
  refine Run.bind (Run.holding (hr σ₁ ρ₁ s₁ rel₁)) fun b σ₂ ρ₂ s₂ wb _ rel₂ x₂ rb => ?_
  refine Run.standAt (Run.bind (Run.operate (ho F fk σ₂ ρ₂ s₂ a b wa wb rel₂ (ra.mono x₂) rb)) fun c σ₃ ρ₃ s₃ wc _ rel₃ x₃ rc => ?_)
  exact Run.holding (ht F fk σ₃ ρ₃ s₃ c wc rel₃ rc)

theorem simB_val (fk : FOk F) {tr : V → M Bool} (ht : TruOk K tr) {e : Expr} {m : M V} (he : SimE K F e m)
    (hi : isTrue e F.env (eval e F.env) = (do let v ← eval e F.env; standAt e.pos; holding [v] (truthy v)) := by rfl) :
    SimB K F e (do let v ← m; tr v) := by
  intro σ ρ s rel
  rw [hi]
  refine Run.bind (he σ ρ s rel) fun a σ₁ ρ₁ s₁ wa _ rel₁ x₁ ra => ?_
  exact Run.standAt (Run.holding (ht F fk σ₁ ρ₁ s₁ a wa rel₁ ra))

theorem simB_not {e : Expr} {m : M Bool} (pos : Pos) (he : SimB K F e m) : SimB K F (.UnaryOp .Not e pos) (do let b ← m; pure (!b)) := by
  intro σ ρ s rel
  show Run K F (do return !(← isTrue e F.env (eval e F.env))) BRep _ ρ s
  refine Run.bind (he σ ρ s rel) fun b σ₁ ρ₁ s₁ wb _ rel₁ x₁ rb => ?_
  have : wb = b := rb
  subst this
  exact Run.pure rel₁ rfl

noncomputable def SimAll (K : Glo) (F : Frm) (op : BoolOp) (es : List Expr) (m : M Bool) : Prop := ∀ σ ρ s, Rel K F σ ρ s → Run K F (allTrue op es F.env) BRep (m σ) ρ s
theorem simAll_and_nil : SimAll K F .And [] (pure true) := fun _ _ _ rel => Run.pure rel rfl
theorem simAll_or_nil : SimAll K F .Or [] (pure false) := fun _ _ _ rel => Run.pure rel rfl
theorem simAll_and {e : Expr} {es : List Expr} {m ms : M Bool} (he : SimB K F e m) (hs : SimAll K F .And es ms) : SimAll K F .And (e :: es) (do if (← m) = true then ms else pure false) := by
  intro σ ρ s rel
  show Run K F (do match BoolOp.And, ← isTrue e F.env (eval e F.env) with
    | .And, false => pure false
    | .Or, true => pure true
    | _, _ => allTrue .And es F.env) BRep _ ρ s
  refine Run.bind (he σ ρ s rel) fun b σ₁ ρ₁ s₁ wb _ rel₁ x₁ rb => ?_
  have : wb = b := rb
  subst this
  cases wb with
  | false => simp only [Bool.false_eq_true, if_false]; exact Run.pure rel₁ rfl
  | true => simp only [if_true]; exact hs σ₁ ρ₁ s₁ rel₁
theorem simAll_or {e : Expr} {es : List Expr} {m ms : M Bool} (he : SimB K F e m) (hs : SimAll K F .Or es ms) : SimAll K F .Or (e :: es) (do if (← m) = true then pure true else ms) := by
  intro σ ρ s rel
  show Run K F (do match BoolOp.Or, ← isTrue e F.env (eval e F.env) with
    | .And, false => pure false
    | .Or, true => pure true
    | _, _ => allTrue .Or es F.env) BRep _ ρ s
  refine Run.bind (he σ ρ s rel) fun b σ₁ ρ₁ s₁ wb _ rel₁ x₁ rb => ?_
  have : wb = b := rb
  subst this
  cases wb with
  | false => simp only [Bool.false_eq_true, if_false]; exact hs σ₁ ρ₁ s₁ rel₁
  | true => simp only [if_true]; exact Run.pure rel₁ rfl
theorem simB_boolop {op : BoolOp} {es : List Expr} {m : M Bool} (pos : Pos) (h : SimAll K F op es m) : SimB K F (.BoolOp op es pos) m := fun σ ρ s rel => h σ ρ s rel

theorem simE_ite {test body orelse : Expr} {mt : M Bool} {mb mo : M V} (pos : Pos) (ht : SimB K F test mt) (hb : SimE K F body mb) (ho : SimE K F orelse mo) :
    SimE K F (.IfExp test body orelse pos) (do if (← mt) = true then mb else mo) := by
  intro σ ρ s rel
  show Run K F (do if ← isTrue test F.env (eval test F.env) then eval body F.env else eval orelse F.env) (Rep K) _ ρ s
  refine Run.bind (ht σ ρ s rel) fun b σ₁ ρ₁ s₁ wb _ rel₁ x₁ rb => ?_
  have : wb = b := rb
  subst this
  cases wb with
  | false => simp only [Bool.false_eq_true, if_false]; exact ho σ₁ ρ₁ s₁ rel₁
  | true => simp only [if_true]; exact hb σ₁ ρ₁ s₁ rel₁

/-! ### several expressions -/
noncomputable def SimEs (K : Glo) (F : Frm) (es : List Expr) (m : M (List V)) : Prop := ∀ (pos : Pos) σ ρ s, Rel K F σ ρ s → Run K F (spliced (backTo pos (starEach es F.env))) (RepL K) (m σ) ρ s
theorem simEs_nil : SimEs K F [] (pure []) := fun _ _ _ _ rel => Run.pure rel RepL.nil
theorem spliced_cons_eq (x : Sem Value) (rest : List (Bool × Sem Value)) : spliced ((false, x) :: rest) = (do let v ← x; let vs ← holding [v] (spliced rest); pure ([v] ++ vs)) := by
  rfl
theorem simEs_cons {e : Expr} {es : List Expr} {m : M V} {ms : M (List V)} (he : SimE K F e m) (hs : SimEs K F es ms)
    (hst : starEach (e :: es) F.env = (false, eval e F.env) :: starEach es F.env := by rfl) : SimEs K F (e :: es) (do let v ← m; let vs ← ms; pure (v :: vs)) := by
  intro pos σ ρ s rel
  rw [hst]
  show Run K F (spliced ((false, eval e F.env) :: backTo pos (starEach es F.env))) _ _ ρ s
  rw [spliced_cons_eq]
  refine Run.bind (he σ ρ s rel) fun a σ₁ ρ₁ s₁ wa _ rel₁ x₁ ra => ?_
  refine Run.bind (Run.holding (hs pos σ₁ ρ₁ s₁ rel₁)) fun b σ₂ ρ₂ s₂ wb _ rel₂ x₂ rb => ?_
  exact Run.pure rel₂ (RepL.cons (ra.mono x₂) rb)

/-! ### displays -/
noncomputable def newL (vs : List V) : M V := fun σ => if vs.length ≤ 1000000 then .ok (.obj σ.st.length) { σ with st := σ.st ++ [.lst vs] } else .stuck
theorem sizeLine_ge {n : Nat} (h : n ≤ 1000000) : n ≤ sizeLine := by rw [sizeLine_eq]; (first | lia | omega)

theorem run_newList {σ : S} {ρ : List Addr} {s : Shared} {vs : List V} {ws : List Value} (rel : Rel K F σ ρ s) (r : RepL K s.heap ρ vs ws) : Run K F (newList ws) (Rep K) (newL vs σ) ρ s := by
  unfold newL
  by_cases hn : vs.length ≤ 1000000
  · rw [if_pos hn]
    obtain ⟨rel', x⟩ := rel.newList (o := { cls := .type "list", data := .seq ws.toArray }) rfl r hn s.toks
    refine Run.ok (wpAny_newList ⟨_, rel', x, ?_⟩ (sizeLine_ge (by rw [r.length]; exact hn)))
    refine Rep.obj_iff.mpr ⟨_, ?_, rfl⟩
    rw [← rel.len, List.getElem?_concat_length]
  · rw [if_neg hn]; exact Run.stuck

theorem simE_list {es : List Expr} {ms : M (List V)} (pos : Pos) (hs : SimEs K F es ms) : SimE K F (.List es pos) (do let vs ← ms; newL vs) := by
  intro σ ρ s rel
  show Run K F (do standAt pos; newList (← spliced (backTo pos (starEach es F.env)))) (Rep K) _ ρ s
  refine Run.standAt (Run.bind (hs pos σ ρ s rel) fun a σ₁ ρ₁ s₁ wa _ rel₁ x₁ ra => ?_)
  exact run_newList rel₁ ra

theorem run_newTuple {σ : S} {ρ : List Addr} {s : Shared} {vs : List V} {ws : List Value} (rel : Rel K F σ ρ s) (r : RepL K s.heap ρ vs ws) (hn : vs.length ≤ 1000000) : Run K F (newTuple ws) (Rep K) (.ok (.tup vs) σ) ρ s := by
  have x : Ext F.mine ρ ρ s.heap (s.heap.push { cls := .type "tuple", data := .seq ws.toArray }) := Ext.push _
  refine Run.ok (wpAny_newTuple ⟨ρ, rel.push _ s.toks, x, ?_⟩ (sizeLine_ge (by rw [r.length]; exact hn)))
  exact Rep.tup_iff.mpr ⟨hn, _, ws, rfl, IsTup.new _ _, r.mono x⟩

noncomputable def mkT (vs : List V) : M V := fun σ => if vs.length ≤ 1000000 then .ok (.tup vs) σ else .stuck
theorem simE_tuple {es : List Expr} {ms : M (List V)} (k : Nat) (pos : Pos) (hs : SimEs K F es ms) : SimE K F (.Tuple es k pos) (do let vs ← ms; mkT vs) := by
  intro σ ρ s rel
  show Run K F (do standAt pos; newTuple (← spliced (backTo pos (starEach es F.env)))) (Rep K) _ ρ s
  refine Run.standAt (Run.bind (hs pos σ ρ s rel) fun a σ₁ ρ₁ s₁ wa _ rel₁ x₁ ra => ?_)
  unfold mkT
  split
  · exact run_newTuple rel₁ ra ‹_›
  · exact Run.stuck

/-! ### statements -/
theorem simSs_nil : SimSs K F [] (pure .next) := fun _ _ _ rel => Run.pure rel rfl
noncomputable def seqM (a b : M Fl) : M Fl := do
  match ← a with
  | .next => b
  | f => pure f
theorem simSs_cons {st : Stmt} {sts : List Stmt} {m ms : M Fl} (h : SimS K F st m) (hs : SimSs K F sts ms) : SimSs K F (st :: sts) (seqM m ms) := by
  intro σ ρ s rel
  show Run K F (do match ← exec st F.env with | .next => execs sts F.env | f => pure f) _ _ ρ s
  refine Run.bind (h σ ρ s rel) fun f σ₁ ρ₁ s₁ wf _ rel₁ x₁ rf => ?_
  cases f with
  | next => have : wf = .next := rf; subst this; exact hs σ₁ ρ₁ s₁ rel₁
  | brk => have : wf = .brk := rf; subst this; exact Run.pure rel₁ rfl
  | cont => have : wf = .cont := rf; subst this; exact Run.pure rel₁ rfl
  | ret v => obtain ⟨w, e, r⟩ := rf; subst e; exact Run.pure rel₁ ⟨w, rfl, r⟩
theorem simSs_one {st : Stmt} {m : M Fl} (h : SimS K F st m) : SimSs K F [st] m := by
  intro σ ρ s rel
  have := simSs_cons h simSs_nil σ ρ s rel
  have e : seqM m (pure .next) σ = m σ := by
    unfold seqM
    rw [M.bind_def]
    cases m σ with
    | stuck => rfl
    | exc x y => rfl
    | ok f y => cases f <;> rfl
  rw [e] at this; exact this

theorem simS_break (pos : Pos) : SimS K F (.Break pos) (pure .brk) := fun _ _ _ rel => Run.standAt (Run.pure rel rfl)
theorem simS_continue (pos : Pos) : SimS K F (.Continue pos) (pure .cont) := fun _ _ _ rel => Run.standAt (Run.pure rel rfl)
theorem simS_return {e : Expr} {m : M V} (pos : Pos) (h : SimE K F e m) : SimS K F (.Return (some e) pos) (do let v ← m; pure (.ret v)) := by
  intro σ ρ s rel
  rw [exec_Return_some]
  exact Run.standAt (Run.bind (h σ ρ s rel) fun v σ₁ ρ₁ s₁ w _ rel₁ x₁ r => Run.pure rel₁ ⟨w, rfl, r⟩)
theorem simS_if {test : Expr} {body orelse : List Stmt} {mt : M Bool} {mb mo : M Fl} (pos : Pos) (ht : SimB K F test mt) (hb : SimSs K F body mb) (ho : SimSs K F orelse mo) :
    SimS K F (.If test body orelse pos) (do if (← mt) = true then mb else mo) := by
  intro σ ρ s rel
  rw [exec_If]
  refine Run.standAt (Run.bind (ht σ ρ s rel) fun b σ₁ ρ₁ s₁ wb _ rel₁ x₁ rb => ?_)
  have : wb = b := rb
  subst this
  cases wb with
  | false => simp only [Bool.false_eq_true, if_false]; exact ho σ₁ ρ₁ s₁ rel₁
  | true => simp only [if_true]; exact hb σ₁ ρ₁ s₁ rel₁

theorem interactive_of (fk : FOk F) : interactive F.env = false := by
  unfold interactive; rw [fk.kind]; rfl
theorem run_dropValue {e : Expr} {pos : Pos} {v : Value} {σ : S} {ρ : List Addr} {s : Shared} (rel : Rel K F σ ρ s) : Run K F (dropValue e pos v) (FlRep K) (.ok .next σ) ρ s :=
  Run.ok (wpAny_dropValue ⟨ρ, rel, Ext.refl .., rfl⟩)
theorem simS_expr (fk : FOk F) {e : Expr} {m : M V} (pos : Pos) (h : SimE K F e m) (hs : swapsWith e none pos.line F.env = pure false := by rfl) :
    SimS K F (.Expr e pos) (do let _ ← m; pure .next) := by
  intro σ ρ s rel
  rw [exec_Expr F.env e pos (interactive_of fk) hs]
  exact Run.standAt (Run.bind (h σ ρ s rel) fun v σ₁ ρ₁ s₁ w _ rel₁ x₁ r => run_dropValue rel₁)

theorem simT_local (x : String) (pos : Pos) (fk : FOk F) (hk : F.env.kindOf (Str.ofString x) = some .local) : SimT K F (.Name (Str.ofString x) pos) (fun v => setv x v) := by
  intro σ ρ s v w rel r
  refine Run.ok (wpAny_assign_Name ?_)
  obtain ⟨m, hm⟩ := rel.loc
  refine wpAny_storeName_local hk hm (fun h' hn hs => ?_) (by rw [fk.kind]; rfl)
  obtain ⟨rel', x'⟩ := rel.setLocal (s' := { s with heap := h', toks := s.toks + 1 }) hk hm hn hs r rfl rfl
  exact ⟨ρ, rel', x', trivial⟩
theorem simT_cell (x : String) (pos : Pos) (fk : FOk F) {c : Addr} (hk : F.env.kindOf (Str.ofString x) = some .cell) (hc : F.env.cells.lookup (Str.ofString x) = some c) (hm : c ∈ F.mine)
    (hinj : ∀ y, F.env.cells.lookup y = some c → y = Str.ofString x) : SimT K F (.Name (Str.ofString x) pos) (fun v => setv x v) := by
  intro σ ρ s v w rel r
  refine Run.ok (wpAny_assign_Name ?_)
  obtain ⟨v₀, h0⟩ := rel.cels _ _ hc
  refine wpAny_storeName_cell fk.kind hk hc h0 (fun h' hn hs => ?_)
  obtain ⟨rel', x'⟩ := rel.setCell (s' := { s with heap := h' }) hk hc hm hinj h0 hn hs r rfl rfl
  exact ⟨ρ, rel', x', trivial⟩

theorem exec_Assign1 (env : Env) (targets : List Expr) (value : Expr) (pos : Pos) : exec (.Assign targets value pos) env = (do
    standAt pos
    if ← swapsWithSole targets value pos.line env then do
      evalThenUse value env fun v => assignAll v ((assignEach targets env).map (·.2))
      pure .next
    else do
      let v ← eval value env
      assignStores env v (← swappedStores targets value env) ((assignEach targets env).map (·.2))) := by rfl
theorem pureBind {α β : Type} (a : α) (f : α → Sem β) : (pure a >>= f) = f a := rfl

/-- target = value, the target no tuple -/
theorem simS_assign {t e : Expr} {mt : V → M Unit} {m : M V} (pos : Pos) (ht : SimT K F t mt) (h : SimE K F e m)
    (hs : swapsWith e (some t) pos.line F.env = pure false := by rfl) (hsw : swappedStores [t] e F.env = pure none := by rfl)
    (hst : assignEach [t] F.env = [(false, assign t F.env)] := by rfl) :
    SimS K F (.Assign [t] e pos) (do let v ← m; mt v; pure .next) := by
  intro σ ρ s rel
  rw [exec_Assign1]
  refine Run.standAt ?_
  rw [show swapsWithSole [t] e pos.line F.env = pure false from hs, pureBind, if_neg Bool.false_ne_true]
  refine Run.bind (h σ ρ s rel) fun v σ₁ ρ₁ s₁ w _ rel₁ x₁ r => ?_
  rw [hsw, hst, pureBind]
  show Run K F (do assign t F.env w; (pure Flow.next : Sem Flow)) _ _ ρ₁ s₁
  exact Run.bind (ht σ₁ ρ₁ s₁ v w rel₁ r) fun _ σ₂ ρ₂ s₂ _ _ rel₂ _ _ => Run.pure rel₂ rfl

end

/-! part F4 -/
set_option autoImplicit false
set_option maxRecDepth 100000
open PySem PySem.W PyProof.Rows
section
variable {K : Glo} {F : Frm}

noncomputable def QO {α β : Type} (K : Glo) (F : Frm) (R : Heap → List Addr → β → α → Prop) (out : Res S β) (ρ : List Addr) (h : Heap) : α → Shared → Prop :=
  fun a s' => ∃ b σ' ρ', out = .ok b σ' ∧ Rel K F σ' ρ' s' ∧ Ext F.mine ρ ρ' h s'.heap ∧ R s'.heap ρ' b a
noncomputable def EO {β : Type} (K : Glo) (F : Frm) (out : Res S β) (ρ : List Addr) (h : Heap) : Value → Shared → Prop :=
  fun v s' => ∃ e σ' ρ', out = .exc e σ' ∧ Rel K F σ' ρ' s' ∧ Ext F.mine ρ ρ' h s'.heap ∧ XRep K F e h v s'

theorem Run.wp {α β : Type} {t : Sem α} {R : Heap → List Addr → β → α → Prop} {out : Res S β} {ρ : List Addr} {s : Shared} (h : Run K F t R out ρ s) (hne : out ≠ .stuck) :
    wpAny (model K.prog K.w) F.A t (QO K F R out ρ s.heap) (EO K F out ρ s.heap) s := by
  cases out with
  | stuck => exact absurd rfl hne
  | ok b σ' => exact wpAny_mono h (fun a s' ⟨ρ', h1, h2, h3⟩ => ⟨b, σ', ρ', rfl, h1, h2, h3⟩) fun _ _ h => h.elim
  | exc e σ' => exact wpAny_mono h (fun _ _ h => h.elim) fun a s' ⟨ρ', h1, h2, h3⟩ => ⟨e, σ', ρ', rfl, h1, h2, h3⟩
theorem Run.of_wp {α β : Type} {t : Sem α} {R : Heap → List Addr → β → α → Prop} {out : Res S β} {ρ : List Addr} {s : Shared}
    (h : out ≠ .stuck → wpAny (model K.prog K.w) F.A t (QO K F R out ρ s.heap) (EO K F out ρ s.heap) s) : Run K F t R out ρ s := by
  cases out with
  | stuck => trivial
  | ok b σ' =>
    refine wpAny_mono (h (by simp)) (fun a s' hq => ?_) fun a s' he => ?_
    · obtain ⟨b', σ'', ρ', e, h1, h2, h3⟩ := hq; cases e; exact ⟨ρ', h1, h2, h3⟩
    · obtain ⟨_, _, _, e, _⟩ := he; cases e
  | exc x σ' =>
    refine wpAny_mono (h (by simp)) (fun a s' hq => ?_) fun a s' he => ?_
    · obtain ⟨_, _, _, e, _⟩ := hq; cases e
    · obtain ⟨b', σ'', ρ', e, h1, h2, h3⟩ := he; cases e; exact ⟨ρ', h1, h2, h3⟩

/-- a step of a loop: what the outcome does not tell is told by what comes after -/
theorem Run.stepW {α β γ : Type} {t : Sem α} {R : Heap → List Addr → β → α → Prop} {m : M β} {f : β → M γ} {σ : S} {out : Res S γ} {ρ ρ₀ : List Addr} {h₀ : Heap} {s : Shared} {Q : α → Shared → Prop} {E : Value → Shared → Prop}
    (r : Run K F t R (m σ) ρ s) (x : Ext F.mine ρ₀ ρ h₀ s.heap) (hne : out ≠ .stuck) (e : (m >>= f) σ = out) (hE : ∀ {v s'}, EO K F out ρ₀ h₀ v s' → E v s')
    (k : ∀ b σ' ρ' a s', f b σ' = out → Rel K F σ' ρ' s' → Ext F.mine ρ ρ' s.heap s'.heap → Ext F.mine ρ₀ ρ' h₀ s'.heap → R s'.heap ρ' b a → Q a s') : wpAny (model K.prog K.w) F.A t Q E s := by
  subst e
  rw [M.bind_def] at hne
  refine wpAny_mono (r.wp fun q => hne (by rw [q])) (fun a s' hq => ?_) fun v s' hq => hE ?_
  · obtain ⟨b, σ', ρ', e, rel, y, ra⟩ := hq
    exact k b σ' ρ' a s' (M.bind_ok e).symm rel y (x.trans y) ra
  · obtain ⟨b, σ', ρ', e, rel, y, ra⟩ := hq
    exact ⟨b, σ', ρ', by rw [M.bind_def, e], rel, x.trans y, ra.up x⟩


theorem noteFrame_congr {e : Value} {env env' : Env} (h : env.frame = env'.frame) : noteFrame e env = noteFrame e env' := by
  unfold noteFrame PySem.frameOf
  rw [h]
theorem FramesOk.fun_ {h : Heap} {l : List Env} (x : FramesOk K h l) : h.FunFrames K.base l := by
  induction l with
  | nil => trivial
  | cons env l ih =>
    obtain ⟨k, L, o, es, n, f, b, g, d⟩ := x env List.mem_cons_self
    exact ⟨k, ⟨L, o, f, b, g, fun vs q => by rw [d] at q; cases q⟩, ih fun e he => x e (List.mem_cons_of_mem _ he)⟩
theorem FramesOk.mem_frame {h : Heap} {l : List Env} (x : FramesOk K h l) {b : Addr} (hb : b ∈ l.filterMap (·.frame)) : K.base.get? b = none ∧ ∃ o es n, h.get? b = some o ∧ o.data = .dict es n := by
  obtain ⟨env, he, f⟩ := List.mem_filterMap.mp hb
  obtain ⟨k, L, o, es, n, f', bb, g, d⟩ := x env he
  rw [f'] at f; cases f
  exact ⟨bb, o, es, n, g, d⟩

/-- what noting changes: the exception's own objects X, and slots of frames -/
noncomputable def Hid0 (h : Heap) (b : Addr) : Prop := ∃ o vs, h.get? b = some o ∧ o.data = .fields vs ∧ o.cls ≠ .type "range" ∧ o.cls ≠ .type "list_iterator"
structure Noted (K : Glo) (F : Frm) (X : List Addr) (h h' : Heap) : Prop where
  own : ∀ b ∈ X, K.base.get? b = none ∧ b ∉ F.mine ∧ (h.get? b = none ∨ Hid0 h b)
  keep : ∀ b o, b ∉ X → h.get? b = some o → ∃ o', h'.get? b = some o' ∧ Like o o' ∧ (K.base.get? b ≠ none → o' = o)
  live : ∀ b ∈ X, ∃ o, h'.get? b = some o
theorem Noted.apart {X : List Addr} {h h' : Heap} (x : Noted K F X h h') {b : Addr} {o : Obj} (g : h.get? b = some o) (hd : (∀ vs, o.data ≠ .fields vs) ∨ o.cls = .type "range" ∨ o.cls = .type "list_iterator") : b ∉ X := fun hb => by
  rcases (x.own b hb).2.2 with q | ⟨o', vs, q, d, c⟩
  · rw [g] at q; cases q
  · rw [g] at q; cases q
    rcases hd with hd | hd | hd
    · exact hd vs d
    · exact c.1 hd
    · exact c.2 hd
theorem Noted.same {X : List Addr} {h h' : Heap} (x : Noted K F X h h') {b : Addr} {o : Obj} (g : h.get? b = some o) (hd : (∀ vs, o.data ≠ .fields vs) ∨ o.cls = .type "range" ∨ o.cls = .type "list_iterator") (hn : ∀ es n, o.data ≠ .dict es n) : h'.get? b = some o := by
  obtain ⟨o', g', l, _⟩ := x.keep b o (x.apart g hd) g
  rw [g', l.same hn]
theorem Noted.froz {X : List Addr} {h h' : Heap} (x : Noted K F X h h') (b : Addr) (o : Obj) (g : h.get? b = some o) (f : Froz o) : h'.get? b = some o := by
  rcases f with ⟨_, xs, n, d⟩ | ⟨c, vs, d⟩
  · exact x.same g (.inl fun vs q => by rw [d] at q; cases q) fun es n q => by rw [d] at q; cases q
  · exact x.same g (.inr (.inl c)) fun es n q => by rw [d] at q; cases q
theorem Noted.base {X : List Addr} {h h' : Heap} (x : Noted K F X h h') {b : Addr} {o : Obj} (hb : K.base.get? b = some o) (g : h.get? b = some o) : h'.get? b = some o := by
  have hn : b ∉ X := fun q => by have := (x.own b q).1; rw [hb] at this; cases this
  obtain ⟨o', g', _, q⟩ := x.keep b o hn g
  rw [g', q (by rw [hb]; exact fun q => by cases q)]
theorem GRel.noted {st : Store} {ρ : List Addr} {s s' : Shared} {X : List Addr} (rel : GRel K st ρ s) (x : Noted K F X s.heap s'.heap) (hg : s'.gens = s.gens) (ho : s'.os = s.os) : GRel K st ρ s' where
  gens := hg.trans rel.gens
  os := ho.trans rel.os
  base := fun b o e => x.base e (rel.base b o e)
  len := rel.len
  cell := fun l b c h1 h2 => by
    refine (rel.cell l b c h1 h2).mono (List.prefix_refl _) x.froz fun o y hc => x.same y ?_ fun es n q => hc.dict q
    rcases hc with ⟨_, _, _, d⟩ | ⟨_, _, _, _, d⟩ | ⟨c, _⟩
    · exact .inl fun vs q => by rw [d] at q; cases q
    · exact .inl fun vs q => by rw [d] at q; cases q
    · exact .inr (.inr c)
  nodup := rel.nodup
  above := rel.above
theorem Ext.noted {ρ ρ₀ X : List Addr} {h h₀ h' : Heap} (y : Ext F.mine ρ₀ ρ h₀ h) (x : Noted K F X h h') (hf : ∀ b ∈ X, h₀.get? b = none) : Ext F.mine ρ₀ ρ h₀ h' where
  pre := y.pre
  alive := fun b o e => by
    obtain ⟨o', e'⟩ := y.alive b o e
    obtain ⟨o2, e2, _⟩ := x.keep b o' (fun q => by rw [hf b q] at e; cases e) e'
    exact ⟨o2, e2⟩
  new := y.new
  keep := fun b o e n1 n2 => by
    obtain ⟨o', e', l⟩ := y.keep b o e n1 n2
    obtain ⟨o2, e2, l2, _⟩ := x.keep b o' (fun q => by rw [hf b q] at e; cases e) e'
    exact ⟨o2, e2, l.trans l2⟩
  froz := fun b o e f => x.froz b o (y.froz b o e f) f
theorem Rel.noted {σ : S} {ρ : List Addr} {s s' : Shared} {X : List Addr} (rel : Rel K F σ ρ s) (x : Noted K F X s.heap s'.heap) (hg : s'.gens = s.gens) (ho : s'.os = s.os) : Rel K F σ ρ s' := by
  have hns : ∀ {a : Addr} {m : Str → Option Value}, s.heap.Ns a m → s'.heap.Ns a m := by
    intro a m n
    obtain ⟨o, es, ep, g, d, k, f⟩ := n
    obtain ⟨o', g', l, _⟩ := x.keep a o (x.apart g (.inl fun vs q => by rw [d] at q; cases q)) g
    exact ⟨o', es, ep, g', l.data.1.trans d, k, f⟩
  have hcell : ∀ {c : Addr} {v : Option Value}, s.heap.IsCell c v → s'.heap.IsCell c v := by
    intro c v n
    obtain ⟨o, g, d⟩ := n
    exact ⟨o, x.same g (.inl fun vs q => by rw [d] at q; cases q) (fun es n q => by rw [d] at q; cases q), d⟩
  refine { toGRel := rel.toGRel.noted x hg ho, vars := ?_, loc := ?_, cels := ?_, mineAbove := ?_, mineApart := rel.mineApart, mineLoc := rel.mineLoc, frs := ?_ }
  · intro y u e
    obtain ⟨w, h1, h2⟩ := rel.vars y u e
    exact ⟨w, h1.mono (fun m n => hns n) (fun c u _ n => hcell n), Rep.mono' (List.prefix_refl _) x.froz h2⟩
  · obtain ⟨m, n⟩ := rel.loc; exact ⟨m, hns n⟩
  · intro y c e; obtain ⟨v, n⟩ := rel.cels y c e; exact ⟨v, hcell n⟩
  · intro b hb
    obtain ⟨h1, o, h2⟩ := rel.mineAbove b hb
    obtain ⟨o', g', _⟩ := x.keep b o (fun q => (x.own b q).2.1 hb) h2
    exact ⟨h1, o', g'⟩
  · refine rel.frs.next fun b o es n g d => ?_
    obtain ⟨o', g', l, _⟩ := x.keep b o (x.apart g (.inl fun vs q => by rw [d] at q; cases q)) g
    exact ⟨o', es, n, g', l.data.1.trans d⟩

/-- the new entry of a trace -/
theorem wp_entry {A : Around} {s : Shared} {env₀ : Env} {outer : List Env} {L a : Addr} {oe : Obj} {vs : Array Value} {head : Value} {hadNext : Bool} {Q : Unit → Shared → Prop} {E : Value → Shared → Prop}
    (hfr : A.frames = some (env₀ :: outer)) (hl : FramesOk K s.heap (env₀ :: outer)) (hf : env₀.frame = some L) (he : s.heap.get? a = some oe) (hd : oe.data = .fields vs) (hsz : 1 < vs.size)
    (h : ∀ h' T oT ts, s.heap.get? T = none → h'.get? T = some oT → oT.data = .fields ts → oT.cls = .type "traceback" → ts[3]? = some (rawInt L) → T ≠ a → h'.get? a = some (oe.mapFields (·.setIfInBounds 1 (.ref T))) →
      (∀ b o, b ≠ a → s.heap.get? b = some o → ∃ o', h'.get? b = some o' ∧ Like o o' ∧ (K.base.get? b ≠ none → o' = o)) → Q () { s with heap := h' }) :
    wpAny (model K.prog K.w) A (do let f ← PySem.frameOf env₀; let pl ← entryPlaceOf L hadNext; let b ← EntryCells.newEntry head f .none (rawInt L) .none pl; setField (.ref a) 1 b) Q E s := by
  have hane : a ∉ (env₀ :: outer).filterMap (·.frame) := fun hm => by
    obtain ⟨_, o, es, n, ho, hdd⟩ := hl.mem_frame hm
    rw [he] at ho; cases ho; rw [hd] at hdd; cases hdd
  refine wpAny_bind (wpAny_frameOf_fun hfr hl.fun_ hf fun h₁ hs₁ => ?_)
  refine wpAny_bind (wpAny_entryPlaceOf fun pl hpl => ?_)
  unfold EntryCells.newEntry newFields
  refine wpAny_bind (wpAny_newObj_type ?_ (hpl.sizeOk5 _ _ _ _ _))
  have he₁ : h₁.get? a = some oe := (hs₁.2.1 a hane).trans he
  have he₂ := Heap.get?_push_of_some (h := h₁) { cls := .type "traceback", dict := none, data := .fields ([head, .ref L, .none, rawInt L, .none] ++ (if pl.isEmpty then List.replicate 6 Value.none else pl)).toArray } he₁
  refine wpAny_setField he₂ hd hsz ?_
  have hTa : h₁.objs.size ≠ a := Nat.ne_of_gt (Heap.lt_size he₁)
  have hd₃ := Obj.data_mapFields hd (·.setIfInBounds 1 (Value.ref h₁.objs.size))
  refine h _ h₁.objs.size _ _ (Heap.get?_none_of_le (by rw [hs₁.1]; exact Nat.le_refl _)) ((Heap.get?_update_other _ _ (Ne.symm hTa)).trans (Heap.get?_push_size h₁ rfl)) rfl rfl ?_ hTa (Heap.get?_update_self _ he₂ (Obj.isFreed_of_fields hd₃)) ?_
  · first | (simp; done) | (rcases hpl with rfl | ⟨_, _, _, _, _, _, _, rfl⟩ <;> simp)
  · intro b o hba g
    obtain ⟨sl, g1⟩ := hs₁.2.2 b o g
    refine ⟨{ o with slots := sl }, ?_, ?_, ?_⟩
    · rw [Heap.get?_update_other _ _ (Ne.symm hba)]
      exact Heap.get?_push_of_some _ g1
    · by_cases hm : b ∈ (env₀ :: outer).filterMap (·.frame)
      · obtain ⟨_, o', es, n, ho, hdd⟩ := hl.mem_frame hm
        rw [g] at ho; cases ho
        exact .inr ⟨⟨es, n, hdd⟩, sl, rfl⟩
      · have := hs₁.2.1 b hm
        rw [g1, g] at this
        exact .inl (Option.some.inj this)
    · intro hb
      have hm : b ∉ (env₀ :: outer).filterMap (·.frame) := fun hm => hb (hl.mem_frame hm).1
      have := hs₁.2.1 b hm
      rw [g1, g] at this
      exact Option.some.inj this

/-- the frame notes an exception that goes through one of its blocks -/
theorem XRepB.noted {n : Bool} {e : Exc} {ρ ρ₀ : List Addr} {h₀ : Heap} {v : Value} {s : Shared} {σ : S} {Q : Unit → Shared → Prop} {E : Value → Shared → Prop} (x : XRepB n K F e h₀ v s) (rel : Rel K F σ ρ s) (ext : Ext F.mine ρ₀ ρ h₀ s.heap)
    (h : ∀ s', Rel K F σ ρ s' → Ext F.mine ρ₀ ρ h₀ s'.heap → XRepN K F e h₀ v s' → Q () s') : wpAny (model K.prog K.w) F.A (noteFrame v F.env) Q E s := by
  obtain ⟨X, hfresh, hX, hcls, a, t, tok, oe, vs, rfl, haX, ht, ha, hc, hd, h0, hst⟩ := x
  obtain ⟨env₀, outer, hfr, hfe, hfok⟩ := rel.frs
  obtain ⟨hk0, L, oL, esL, nL, hL, hLb, hLg, hLd⟩ := hfok env₀ List.mem_cons_self
  have hFL : F.env.frame = some L := by rw [← hfe]; exact hL
  have hidA : Hid0 s.heap a := ⟨oe, vs, ha, hd, by rw [hc]; exact ⟨fun q => hcls.1 (by injection q), fun q => hcls.2 (by injection q)⟩⟩
  have hsz : 0 < vs.size := (Array.getElem?_eq_some_iff.mp h0).1
  have fresh0 : ∀ b, s.heap.get? b = none → h₀.get? b = none ∧ K.base.get? b = none ∧ b ∉ F.mine := by
    intro b hb
    refine ⟨?_, ?_, ?_⟩
    · cases q : h₀.get? b with
      | none => rfl
      | some o => obtain ⟨o', q'⟩ := ext.alive b o q; rw [hb] at q'; cases q'
    · cases q : K.base.get? b with
      | none => rfl
      | some o => have := rel.base b o q; rw [hb] at this; cases this
    · intro q
      obtain ⟨_, o, g⟩ := rel.mineAbove b q
      rw [hb] at g; cases g
  have htne : ∀ {h' : Heap}, (∀ o, Froz o → s.heap.get? t = some o → h'.get? t = some o) → IsTup h' t #[.str e.msg tok] := by
    intro h' hh
    obtain ⟨o, g, c, n, d⟩ := ht
    exact ⟨o, hh o (.inl ⟨c, _, n, d⟩) g, c, n, d⟩
  rw [noteFrame_congr (env' := env₀) hfe.symm]
  -- behind the new entry
  have fin : ∀ (s₁ : Shared) (X₁ : List Addr) (vs1 : vs.size > 1), s₁.gens = s.gens → s₁.os = s.os → (∀ b ∈ X₁, b ∈ X ∧ Hid0 s.heap b) → a ∈ X₁ → s₁.heap.get? a = some oe → (∀ b ∈ X₁, ∃ o, s₁.heap.get? b = some o) → (∀ b o, b ∉ X₁ → s.heap.get? b = some o → s₁.heap.get? b = some o) →
      (∀ b, s.heap.get? b = none → s₁.heap.get? b = none) → (∀ b, s₁.heap.get? b = none → s.heap.get? b = none) → FramesOk K s₁.heap (env₀ :: outer) → ∀ (head : Value) (hadNext : Bool),
      wpAny (model K.prog K.w) F.A (do let f ← PySem.frameOf env₀; let pl ← entryPlaceOf L hadNext; let b ← EntryCells.newEntry head f .none (rawInt L) .none pl; setField (.ref a) 1 b) Q E s₁ := by
    intro s₁ X₁ hsz1 hg1 ho1 hX1 haX1 ha1 hlive1 hkeep1 hnone1 hnone2 hfr1 head hadNext
    refine wp_entry hfr hfr1 hL ha1 hd hsz1 fun h' T oT ts hT hT' hTd hTc hT3 hTa ha' hkeep' => ?_
    obtain ⟨f1, f2, f3⟩ := fresh0 T (hnone2 T hT)
    have hnoted : Noted K F (T :: X₁) s.heap h' := by
      refine ⟨fun b hb => ?_, fun b o hb g => ?_, fun b hb => ?_⟩
      · rcases List.mem_cons.mp hb with rfl | hb
        · exact ⟨f2, f3, .inl (hnone2 _ hT)⟩
        · exact ⟨(hX b (hX1 b hb).1).1, (hX b (hX1 b hb).1).2, .inr (hX1 b hb).2⟩
      · have hb1 : b ∉ X₁ := fun q => hb (List.mem_cons_of_mem _ q)
        have hba : b ≠ a := fun q => hb1 (q ▸ haX1)
        exact hkeep' b o hba (hkeep1 b o hb1 g)
      · rcases List.mem_cons.mp hb with rfl | hb
        · exact ⟨_, hT'⟩
        · by_cases hba : b = a
          · subst hba; exact ⟨_, ha'⟩
          · obtain ⟨o, g⟩ := hlive1 b hb
            obtain ⟨o', g', _⟩ := hkeep' b o hba g
            exact ⟨o', g'⟩
    have hfr0 : ∀ b ∈ T :: X₁, h₀.get? b = none := by
      intro b hb
      rcases List.mem_cons.mp hb with rfl | hb
      · exact f1
      · exact hfresh b (hX1 b hb).1
    refine h { s₁ with heap := h' } (rel.noted hnoted hg1 ho1) (ext.noted hnoted hfr0) ⟨T :: X₁, hfr0, fun b hb => ⟨(hnoted.own b hb).1, (hnoted.own b hb).2.1⟩, hcls, a, t, tok, _, _, rfl, List.mem_cons_of_mem _ haX1, htne fun o f g => hnoted.froz t o g f, ha', (Obj.cls_mapFields ..).trans hc, Obj.data_mapFields hd _, ?_, .inr ⟨T, oT, ts, rawInt L, List.mem_cons_self, hTa, ?_, hT', hTd, hTc, hT3, .inr ⟨L, hFL, rfl⟩⟩⟩
    · rw [Array.getElem?_setIfInBounds_ne (by decide)]; exact h0
    · simp [hsz1]
  unfold noteFrame
  simp only [hL]
  rcases hst with ⟨_, h1⟩ | ⟨T, oT, ts, fl, hTX, hTa, h1, hTg, hTd, hTc, hT3, hfl⟩
  · have hsz1 : 1 < vs.size := (Array.getElem?_eq_some_iff.mp h1).1
    refine wpAny_bind (wpAny_field ha hd h1 ?_)
    rw [if_neg (by decide)]
    exact fin s [a] hsz1 rfl rfl (fun b hb => by rw [List.mem_singleton.mp hb]; exact ⟨haX, hidA⟩) (by simp) ha (fun b hb => by rw [List.mem_singleton.mp hb]; exact ⟨_, ha⟩) (fun _ _ _ g => g) (fun _ g => g) (fun _ g => g) hfok _ _
  · have hsz1 : 1 < vs.size := (Array.getElem?_eq_some_iff.mp h1).1
    have hsz3 : 3 < ts.size := (Array.getElem?_eq_some_iff.mp hT3).1
    refine wpAny_bind (wpAny_field ha hd h1 ?_)
    rw [if_pos (show (Value.ref T != Value.none) = true from by simp)]
    refine wpAny_bind (wpAny_field hTg hTd hT3 ?_)
    rcases hfl with rfl | ⟨L', hL', rfl⟩
    · rw [if_neg (show ¬ ((Value.none == rawInt L) = true) from by simp [rawInt])]
      refine wpAny_bind (wpAny_setField hTg hTd hsz3 ?_)
      have other : ∀ b, b ≠ T → (s.heap.update T (Obj.mapFields (·.setIfInBounds 3 Value.none))).get? b = s.heap.get? b := fun b hb => Heap.get?_update_other _ _ (Ne.symm hb)
      have hTself : (s.heap.update T (Obj.mapFields (·.setIfInBounds 3 Value.none))).get? T = some (Obj.mapFields (·.setIfInBounds 3 Value.none) oT) := Heap.get?_update_self _ hTg (Obj.isFreed_of_fields (Obj.data_mapFields hTd _))
      have hidT : Hid0 s.heap T := ⟨oT, ts, hTg, hTd, by rw [hTc]; decide⟩
      refine fin { s with heap := s.heap.update T (Obj.mapFields (·.setIfInBounds 3 Value.none)) } [a, T] hsz1 rfl rfl ?_ (by simp) ((other a (Ne.symm hTa)).trans ha) ?_ ?_ ?_ ?_ ?_ _ _
      · intro b hb
        simp only [List.mem_cons, List.not_mem_nil, or_false] at hb
        rcases hb with rfl | rfl
        · exact ⟨haX, hidA⟩
        · exact ⟨hTX, hidT⟩
      · intro b hb
        simp only [List.mem_cons, List.not_mem_nil, or_false] at hb
        rcases hb with rfl | rfl
        · exact ⟨_, (other _ (Ne.symm hTa)).trans ha⟩
        · exact ⟨_, hTself⟩
      · intro b o hb g
        simp only [List.mem_cons, List.not_mem_nil, or_false, not_or] at hb
        exact (other b hb.2).trans g
      · intro b hb
        have : b ≠ T := fun q => by rw [q, hTg] at hb; cases hb
        exact (other b this).trans hb
      · intro b hb
        have : b ≠ T := fun q => by rw [q, hTself] at hb; cases hb
        exact (other b this).symm.trans hb
      · refine hfok.next fun b o es n _ g d => ⟨o, es, n, (other b fun q => ?_).trans g, d⟩
        rw [q, hTg] at g; cases g; rw [hTd] at d; cases d
    · rw [hFL] at hL'; cases hL'
      rw [if_pos (show (rawInt L == rawInt L) = true from by simp)]
      exact wpAny_pure (h s rel ext ⟨X, hfresh, hX, hcls, a, t, tok, oe, vs, rfl, haX, ht, ha, hc, hd, h0, .inr ⟨T, oT, ts, rawInt L, hTX, hTa, h1, hTg, hTd, hTc, hT3, .inr ⟨L, hFL, rfl⟩⟩⟩)

/-- the flight mark is set -/
theorem XRepB.flight {e : Exc} {ρ ρ₀ : List Addr} {h₀ : Heap} {v : Value} {s : Shared} {σ : S} {fr : Option Addr} {Q : Unit → Shared → Prop} {E : Value → Shared → Prop} (x : XRepN K F e h₀ v s) (rel : Rel K F σ ρ s) (ext : Ext F.mine ρ₀ ρ h₀ s.heap) (hfl : fr = none ∨ fr = F.env.frame)
    (h : ∀ s', Rel K F σ ρ s' → Ext F.mine ρ₀ ρ h₀ s'.heap → (∃ X, (∀ b ∈ X, h₀.get? b = none) ∧ (∀ b ∈ X, K.base.get? b = none ∧ b ∉ F.mine) ∧ XObj true (fun fl => FlF F fl ∧ (fr = none → fl = .none)) e X v s'.heap) → Q () s') : wpAny (model K.prog K.w) F.A (setFlight v fr) Q E s := by
  obtain ⟨X, hfresh, hX, hcls, a, t, tok, oe, vs, rfl, haX, ht, ha, hc, hd, h0, hst⟩ := x
  rcases hst with ⟨q, _⟩ | ⟨T, oT, ts, fl, hTX, hTa, h1, hTg, hTd, hTc, hT3, _⟩
  · cases q
  have hsz3 : 3 < ts.size := (Array.getElem?_eq_some_iff.mp hT3).1
  unfold setFlight
  refine wpAny_bind (wpAny_field ha hd h1 ?_)
  rw [if_pos (show (Value.ref T != Value.none) = true from by simp)]
  refine wpAny_setField hTg hTd hsz3 ?_
  have other : ∀ b, b ≠ T → (s.heap.update T (Obj.mapFields (·.setIfInBounds 3 (fr.elim .none fun f => rawInt f)))).get? b = s.heap.get? b := fun b hb => Heap.get?_update_other _ _ (Ne.symm hb)
  have hTself : (s.heap.update T (Obj.mapFields (·.setIfInBounds 3 (fr.elim .none fun f => rawInt f)))).get? T = some (Obj.mapFields (·.setIfInBounds 3 (fr.elim .none fun f => rawInt f)) oT) := Heap.get?_update_self _ hTg (Obj.isFreed_of_fields (Obj.data_mapFields hTd _))
  have hnoted : Noted K F [T] s.heap (s.heap.update T (Obj.mapFields (·.setIfInBounds 3 (fr.elim .none fun f => rawInt f)))) := by
    refine ⟨fun b hb => ?_, fun b o hb g => ⟨o, (other b (by simpa using hb)).trans g, .refl _, fun _ => rfl⟩, fun b hb => ?_⟩
    · rw [List.mem_singleton.mp hb]
      exact ⟨(hX T hTX).1, (hX T hTX).2, .inr ⟨oT, ts, hTg, hTd, by rw [hTc]; decide⟩⟩
    · rw [List.mem_singleton.mp hb]; exact ⟨_, hTself⟩
  have htt : IsTup (s.heap.update T (Obj.mapFields (·.setIfInBounds 3 (fr.elim .none fun f => rawInt f)))) t #[.str e.msg tok] := by
    obtain ⟨o, g, c, n, d⟩ := ht
    exact ⟨o, hnoted.froz t o g (.inl ⟨c, _, n, d⟩), c, n, d⟩
  refine h { s with heap := _ } (rel.noted hnoted rfl rfl) (ext.noted hnoted fun b hb => by rw [List.mem_singleton.mp hb]; exact hfresh T hTX)
    ⟨X, hfresh, hX, hcls, a, t, tok, oe, vs, rfl, haX, htt, (other a (Ne.symm hTa)).trans ha, hc, hd, h0, .inr ⟨T, _, _, fr.elim .none (fun f => rawInt f), hTX, hTa, h1, hTself, Obj.data_mapFields hTd _, (Obj.cls_mapFields ..).trans hTc, by simp [hsz3], ?_, ?_⟩⟩
  · rcases hfl with rfl | rfl
    · exact .inl rfl
    · cases hq : F.env.frame with
      | none => exact .inl rfl
      | some L => exact .inr ⟨L, hq, rfl⟩
  · rintro rfl; rfl

/-- an outcome that is an exception, noted by the frame -/
noncomputable def EON {β : Type} (K : Glo) (F : Frm) (out : Res S β) (ρ : List Addr) (h : Heap) : Value → Shared → Prop :=
  fun v s' => ∃ e σ' ρ', out = .exc e σ' ∧ Rel K F σ' ρ' s' ∧ Ext F.mine ρ ρ' h s'.heap ∧ XRepN K F e h v s'
theorem EON.eo {β : Type} {out : Res S β} {ρ : List Addr} {h : Heap} {v : Value} {s' : Shared} (x : EON K F out ρ h v s') : EO K F out ρ h v s' := by
  obtain ⟨e, σ', ρ', e1, rel, ext, x⟩ := x; exact ⟨e, σ', ρ', e1, rel, ext, x.x⟩
theorem EO.notedN {β : Type} {out : Res S β} {ρ : List Addr} {h : Heap} {v : Value} {s' : Shared} {E : Value → Shared → Prop} (x : EO K F out ρ h v s') (hE : ∀ v s'', EON K F out ρ h v s'' → E v s'') :
    notedBy (model K.prog K.w) F.A F.env E v s' := by
  obtain ⟨e, σ', ρ', e1, rel, ext, x⟩ := x
  exact x.noted rel ext fun s'' rel' ext' x' => hE _ _ ⟨e, σ', ρ', e1, rel', ext', x'⟩
theorem EO.noted {β : Type} {out : Res S β} {ρ : List Addr} {h : Heap} {v : Value} {s' : Shared} (x : EO K F out ρ h v s') :
    notedBy (model K.prog K.w) F.A F.env (EO K F out ρ h) v s' := x.notedN fun _ _ q => q.eo
theorem EON.back {β : Type} {out : Res S β} {ρ : List Addr} {h : Heap} {v : Value} {s' : Shared} (x : EON K F out ρ h v s') :
    cameBackBy (model K.prog K.w) F.A F.env (EO K F out ρ h) v s' := by
  obtain ⟨e, σ', ρ', e1, rel, ext, x⟩ := x
  have x0 := x
  obtain ⟨X, hfresh, hX, hcls, a, t, tok, oe, vs, rfl, haX, ht, ha, hc, hd, h0, hst⟩ := x0
  rcases hst with ⟨q, _⟩ | ⟨T, oT, ts, fl, hTX, hTa, h1, hTg, hTd, hTc, hT3, _⟩
  · cases q
  refine wpAny_bind (wpAny_field ha hd h1 ?_)
  rw [if_neg (show ¬ ((Value.ref T == Value.none) = true) from by simp)]
  refine (x.flight rel ext (.inr rfl) fun s'' rel' ext' x' => ?_)
  obtain ⟨X', f', g', hc', a', t', tok', oe', vs', q1, q2, q3, q4, q5, q6, q7, q8⟩ := x'
  refine ⟨e, σ', ρ', e1, rel', ext', X', f', g', hc', a', t', tok', oe', vs', q1, q2, q3, q4, q5, q6, q7, ?_⟩
  rcases q8 with ⟨q, _⟩ | ⟨T', oT', ts', fl', r1, r2, r3, r4, r5, r6, r7, r8⟩
  · cases q
  · exact .inr ⟨T', oT', ts', fl', r1, r2, r3, r4, r5, r6, r7, r8.1⟩

/-! ### while -/
noncomputable def whileM (c : M Bool) (b : M Fl) : Nat → M Fl
  | 0 => stuck
  | n + 1 => do
    if (← c) = true then
      match ← b with
      | .next => whileM c b n
      | .cont => whileM c b n
      | .brk => pure .next
      | .ret v => pure (.ret v)
    else pure .next

theorem simS_while {test : Expr} {body : List Stmt} {mt : M Bool} {mb : M Fl} (pos : Pos) (n : Nat) (ht : SimB K F test mt) (hb : SimSs K F body mb) : SimS K F (.While test body [] pos) (whileM mt mb n) := by
  intro σ ρ s rel
  refine Run.of_wp fun hne => ?_
  refine wpAny_While ?_
  refine codeAny_whileLoop (R := fun r s' => match r with | .ok f => QO K F (FlRep K) (whileM mt mb n σ) ρ s.heap f s' | .error e => cameBackBy (model K.prog K.w) F.A F.env (EO K F (whileM mt mb n σ) ρ s.heap) e s')
    (fun k s' => ∃ σ₁ ρ₁, Rel K F σ₁ ρ₁ s' ∧ whileM mt mb k σ₁ = whileM mt mb n σ ∧ Ext F.mine ρ ρ₁ s.heap s'.heap) ?_ n ⟨σ, ρ, rel, rfl, Ext.refl ..⟩
  generalize whileM mt mb n σ = out at hne ⊢
  rintro k s₁ ⟨σ₁, ρ₁, rel₁, e₁, x₁⟩
  have note : ∀ {v : Value} {s' : Shared}, EO K F out ρ s.heap v s' → notedBy (model K.prog K.w) F.A F.env (fun e s' => cameBackBy (model K.prog K.w) F.A F.env (EO K F out ρ s.heap) e s') v s' := by
    intro v s' hx
    exact hx.notedN fun _ _ q => q.back
  cases k with
  | zero => exact absurd e₁.symm hne
  | succ k =>
    refine (ht σ₁ ρ₁ s₁ rel₁).stepW x₁ hne e₁ note fun b σ₂ ρ₂ a s₂ e₂ rel₂ _ x₂ rb => ?_
    have : a = b := rb
    subst this
    cases a with
    | false => exact wpAny_execs_nil ⟨.next, σ₂, ρ₂, e₂.symm, rel₂, x₂, rfl⟩
    | true =>
      refine (hb σ₂ ρ₂ s₂ rel₂).stepW x₂ hne e₂ note fun f σ₃ ρ₃ wf s₃ e₃ rel₃ _ x₃ rf => ?_
      cases f with
      | next => have : wf = .next := rf; subst this; exact ⟨k, Nat.lt_succ_self _, σ₃, ρ₃, rel₃, e₃, x₃⟩
      | cont => have : wf = .cont := rf; subst this; exact ⟨k, Nat.lt_succ_self _, σ₃, ρ₃, rel₃, e₃, x₃⟩
      | brk => have : wf = .brk := rf; subst this; exact ⟨.next, σ₃, ρ₃, e₃.symm, rel₃, x₃, rfl⟩
      | ret v => obtain ⟨w, e, r⟩ := rf; subst e; exact ⟨.ret v, σ₃, ρ₃, e₃.symm, rel₃, x₃, w, rfl, r⟩

/-! ### targets that are tuples -/
theorem kept_of_extBut {h h' : Heap} (x : Heap.ExtBut h.objs.size h h') : ∀ b o, h.get? b = some o → h'.get? b = some o :=
  fun b o e => x b o (Nat.ne_of_lt (Heap.lt_size e)) e

noncomputable def SimTs (K : Glo) (F : Frm) (es : List Expr) (m : List V → M Unit) : Prop :=
  (∃ n, (assignEach es F.env).length = n ∧ n = es.length ∧ (assignEach es F.env).findIdx? (·.1) = none) ∧
  ∀ σ ρ s vs ws, Rel K F σ ρ s → RepL K s.heap ρ vs ws → vs.length = es.length → Run K F (assignInOrder ((assignEach es F.env).map (·.2)) ws) URep (m vs σ) ρ s
theorem simTs_nil : SimTs K F [] (fun _ => pure ()) := ⟨⟨0, rfl, rfl, rfl⟩, fun _ _ _ _ _ rel _ _ => Run.pure rel trivial⟩
noncomputable def consT (m : V → M Unit) (ms : List V → M Unit) : List V → M Unit
  | v :: vs => do m v; ms vs
  | [] => stuck
theorem simTs_cons {e : Expr} {es : List Expr} {m : V → M Unit} {ms : List V → M Unit} (h : SimT K F e m) (hs : SimTs K F es ms)
    (hst : assignEach (e :: es) F.env = (false, assign e F.env) :: assignEach es F.env := by rfl) : SimTs K F (e :: es) (consT m ms) := by
  obtain ⟨⟨n, h1, h2, h3⟩, h4⟩ := hs
  refine ⟨⟨n + 1, by rw [hst]; simp [h1], by simp [h2], by rw [hst, List.findIdx?_cons]; simp [h3]⟩, ?_⟩
  intro σ ρ s vs ws rel r hl
  rw [hst]
  cases vs with
  | nil => exact Run.stuck
  | cons v vs =>
    obtain ⟨x, ws', rfl, r1, r2⟩ := RepL.cons_iff.mp r
    show Run K F (do holding ws' (assign e F.env x); assignInOrder ((assignEach es F.env).map (·.2)) ws') URep ((do m v; ms vs) σ) ρ s
    refine Run.bind (Run.holding (h σ ρ s v x rel r1)) fun _ σ₁ ρ₁ s₁ _ _ rel₁ x₁ _ => ?_
    exact h4 σ₁ ρ₁ s₁ vs ws' rel₁ (r2.mono x₁) (by simpa using hl)

noncomputable def unpackT (n : Nat) (m : List V → M Unit) : V → M Unit
  | .tup vs => if vs.length = n then m vs else stuck
  | _ => stuck
theorem simT_tuple (fk : FOk F) {es : List Expr} {m : List V → M Unit} (k : Nat) (pos : Pos) (hs : SimTs K F es m) (hnh : F.nh = true := by rfl) : SimT K F (.Tuple es k pos) (unpackT es.length m) := by
  obtain ⟨⟨n, h1, h2, h3⟩, h4⟩ := hs
  intro σ ρ s v w rel r
  cases v with
  | tup vs =>
    unfold unpackT
    dsimp only
    by_cases hl : vs.length = es.length
    · rw [if_pos hl]
      obtain ⟨_, a, ws, rfl, ht, rl⟩ := Rep.tup_iff.mp r
      refine Run.of_wp fun hne => ?_
      refine wpAny_assign_Tuple (fk.hd hnh) (items := ws.toArray) ht (by rw [h1, h2, List.size_toArray, rl.length, hl]) h3 fun h' hx => ?_
      have hk := kept_of_extBut hx
      have rel' : Rel K F σ ρ { s with heap := h' } := rel.kept hk rfl rfl
      have x' : Ext F.mine ρ ρ s.heap h' := Ext.kept hk
      refine wpAny_mono ((h4 σ ρ { s with heap := h' } vs ws rel' (rl.mono x') hl).wp hne) ?_ ?_
      · rintro b s'' ⟨b', σ'', ρ', e, q1, q2, q3⟩; exact ⟨b', σ'', ρ', e, q1, x'.trans q2, q3⟩
      · rintro b s'' ⟨b', σ'', ρ', e, q1, q2, q3⟩; exact ⟨b', σ'', ρ', e, q1, x'.trans q2, q3.up x'⟩
    · rw [if_neg hl]; exact Run.stuck
  | _ => exact Run.stuck

end

/-! part F5 -/
set_option autoImplicit false
set_option maxRecDepth 100000
set_option linter.unusedVariables false
open PySem PySem.W PyProof.Rows
section
variable {K : Glo} {F : Frm}

section
variable {σ : S} {ρ ρ₀ : List Addr} {s s' : Shared} {mine : List Addr} {h h₀ h' : Heap} {a : Addr} {o : Obj}

/-- all stays but one hidden object (an iterator) -/
theorem Ext.but {vs : Array Value} (x : Ext mine ρ₀ ρ h₀ h) (h0 : h₀.get? a = none) (ho : h.get? a = some o) (hd : o.data = .fields vs) (hc : o.cls ≠ .type "range") (hx : Heap.ExtBut a h h') : Ext mine ρ₀ ρ h₀ h' where
  pre := x.pre
  alive := fun b o' e => by
    obtain ⟨o1, e1⟩ := x.alive b o' e
    exact ⟨o1, hx b o1 (by rintro rfl; rw [h0] at e; cases e) e1⟩
  new := x.new
  keep := fun b o' e n1 n2 => by
    obtain ⟨o1, e1, l1⟩ := x.keep b o' e n1 n2
    exact ⟨o1, hx b o1 (by rintro rfl; rw [h0] at e; cases e) e1, l1⟩
  froz := fun b o' e f => hx b o' (by rintro rfl; rw [h0] at e; cases e) (x.froz b o' e f)

theorem hid_ne_froz {vs : Array Value} {b : Addr} {o' : Obj} (ho : h.get? a = some o) (hd : o.data = .fields vs) (hc : o.cls ≠ .type "range") (e : h.get? b = some o') (f : Froz o') : b ≠ a := by
  rintro rfl
  rw [ho] at e; cases e
  rcases f with ⟨_, _, _, f⟩ | ⟨f, _⟩
  · rw [hd] at f; cases f
  · exact hc f
theorem hid_ne_ns {vs : Array Value} {b : Addr} {m : Str → Option Value} (ho : h.get? a = some o) (hd : o.data = .fields vs) (e : h.Ns b m) : b ≠ a := by
  rintro rfl
  obtain ⟨o', es, ep, e', d, _⟩ := e
  rw [ho] at e'; cases e'; rw [hd] at d; cases d
theorem hid_ne_cell {vs : Array Value} {b : Addr} {v : Option Value} (ho : h.get? a = some o) (hd : o.data = .fields vs) (e : h.IsCell b v) : b ≠ a := by
  rintro rfl
  obtain ⟨o', e', d⟩ := e
  rw [ho] at e'; cases e'; rw [hd] at d; cases d

theorem GRel.but {st : Store} {vs : Array Value} (rel : GRel K st ρ s) (hρ : a ∉ ρ) (hb : K.base.get? a = none) (ho : s.heap.get? a = some o) (hd : o.data = .fields vs) (hc : o.cls ≠ .type "range") (hx : Heap.ExtBut a s.heap s'.heap)
    (hg : s'.gens = s.gens) (hos : s'.os = s.os) : GRel K st ρ s' where
  gens := hg.trans rel.gens
  os := hos.trans rel.os
  base := fun b o' e => hx b o' (by rintro rfl; rw [hb] at e; cases e) (rel.base b o' e)
  len := rel.len
  cell := fun l b c h1 h2 => by
    refine (rel.cell l b c h1 h2).mono (List.prefix_refl _) (fun d o' e f => hx d o' (hid_ne_froz ho hd hc e f) e) fun o e _ => hx b o (fun q => hρ (q ▸ List.mem_of_getElem? h1)) e
  nodup := rel.nodup
  above := rel.above

theorem Rel.but {vs : Array Value} (rel : Rel K F σ ρ s) (hρ : a ∉ ρ) (hb : K.base.get? a = none) (hm : a ∉ F.mine) (ho : s.heap.get? a = some o) (hd : o.data = .fields vs) (hc : o.cls ≠ .type "range") (hx : Heap.ExtBut a s.heap s'.heap)
    (hg : s'.gens = s.gens) (hos : s'.os = s.os) : Rel K F σ ρ s' where
  toGRel := rel.toGRel.but hρ hb ho hd hc hx hg hos
  vars := fun y u e => by
    obtain ⟨w, h1, h2⟩ := rel.vars y u e
    refine ⟨w, h1.mono (fun m n => ?_) (fun c u _ n => ?_), Rep.mono' (List.prefix_refl _) (fun d o' e f => hx d o' (hid_ne_froz ho hd hc e f) e) h2⟩
    · have hne := hid_ne_ns ho hd n
      obtain ⟨o', es, ep, e', r⟩ := n
      exact ⟨o', es, ep, hx _ _ hne e', r⟩
    · have hne := hid_ne_cell ho hd n
      obtain ⟨o', e', r⟩ := n
      exact ⟨o', hx _ _ hne e', r⟩
  loc := by
    obtain ⟨m, n⟩ := rel.loc
    have hne := hid_ne_ns ho hd n
    obtain ⟨o', es, ep, e', r⟩ := n
    exact ⟨m, o', es, ep, hx _ _ hne e', r⟩
  cels := fun y c e => by
    obtain ⟨v, n⟩ := rel.cels y c e
    have hne := hid_ne_cell ho hd n
    obtain ⟨o', e', r⟩ := n
    exact ⟨v, o', hx _ _ hne e', r⟩
  mineAbove := fun b hb' => by
    obtain ⟨h1, o', h2⟩ := rel.mineAbove b hb'
    exact ⟨h1, o', hx b o' (by rintro rfl; exact hm hb') h2⟩
  mineApart := rel.mineApart
  mineLoc := rel.mineLoc
  frs := rel.frs.next fun b o' es n g d => ⟨o', es, n, hx b o' (by
    rintro rfl
    rw [ho] at g; cases g; rw [hd] at d; cases d) g, d⟩
end

/-! ### for -/
noncomputable def ownedKinds : List String := ["enumerate", "zip", "dict_itemiterator", "dict_reverseitemiterator", "odict_iterator", "itertools.zip_longest", "itertools.pairwise"]
theorem owned_skip {target : Expr} {I : Addr} {v : Value} {s : Shared} {o : Obj} {T : String} {Q : Unit → Shared → Prop} {E : Value → Shared → Prop} (ho : s.heap.get? I = some o) (hc : o.cls = .type T)
    (hT : ownedKinds.contains T = false) (h : Q () s) : wpAny (model K.prog K.w) F.A (letOwnedTupleGo target (.ref I) v) Q E s := by
  have key : ∀ {vs : Array Value} {a : Addr}, o.data = .fields vs → (ownedKinds.contains T && vs[0]? == some (rawInt a)) = false := by
    intro vs a _; rw [hT]; rfl
  have main : wpAny (model K.prog K.w) F.A (do
    let (.ref r, .ref a) := (Value.ref I, v) | return
    let o ← load r
    match o.cls, o.data with
    | .type n, .fields vs =>
      if ownedKinds.contains n && vs[0]? == some (rawInt a) then
        rule "for.unpacks-the-owned-tuple"
        updateField r 0 .none
    | _, _ => pure ()) Q E s := by
    cases v with
    | ref b =>
      refine wpAny_bind (wpAny_load ho ?_)
      rw [hc]
      cases hd : o.data <;> first | exact wpAny_pure h | skip
      rename_i vs
      dsimp only
      rw [hT]
      exact wpAny_pure h
    | _ => exact wpAny_pure h
  cases target <;> first | exact main | exact wpAny_pure h

noncomputable def forG (nxt : S → Nat → Option (Option V)) (t : V → M Unit) (b : M Fl) : Nat → Nat → M Fl
  | 0, _ => stuck
  | n + 1, i => fun σ => match nxt σ i with
    | none => .stuck
    | some none => .ok .next σ
    | some (some v) => (do
      t v
      match ← b with
      | .next => forG nxt t b n (i + 1)
      | .cont => forG nxt t b n (i + 1)
      | .brk => pure .next
      | .ret v => pure (.ret v)) σ

/-- what an iterator object does: Src i o says that o stands before its item i -/
noncomputable def Iter (K : Glo) (F : Frm) (I : Addr) (Src : Nat → Obj → Prop) (nxt : S → Nat → Option (Option V)) (ρ₁ : List Addr) (h₁ : Heap) : Prop :=
  (∀ i o, Src i o → ∃ vs T, o.data = .fields vs ∧ o.cls = .type T ∧ ownedKinds.contains T = false ∧ T ≠ "range") ∧
  (∀ i o (s : Shared) (A : Around) (Q : Value → Shared → Prop) (E : Value → Shared → Prop), s.heap.get? I = some o → Src i o → Q (.ref I) s → wpAny (model K.prog K.w) A (pyIter (.ref I)) Q E s) ∧
  ∀ σ ρ s i o, Rel K F σ ρ s → Ext F.mine ρ₁ ρ h₁ s.heap → s.heap.get? I = some o → Src i o →
    match nxt σ i with
    | none => True
    | some none => wpAny (model K.prog K.w) F.A (pyNext (.ref I)) (fun r s' => r = none ∧ Heap.ExtBut I s.heap s'.heap ∧ s'.gens = s.gens ∧ s'.os = s.os) (fun _ _ => False) s
    | some (some v) => wpAny (model K.prog K.w) F.A (pyNext (.ref I)) (fun r s' => ∃ w, r = some w ∧ Heap.ExtBut I s.heap s'.heap ∧ s'.gens = s.gens ∧ s'.os = s.os ∧ (∃ o', s'.heap.get? I = some o' ∧ Src (i + 1) o') ∧ Rep K s'.heap ρ v w) (fun _ _ => False) s

theorem codeAny_forLoopT {prog : Program} {w : World} {A : Around} {s : Shared} {R : Result → Shared → Prop} {target : Expr} {it : Value} {body : List Stmt} {env : Env} (RQ : Flow → Shared → Prop) (N : Value → Shared → Prop) (hR : ∀ f s', RQ f s' → R (.ok f) s')
    (hN : ∀ v s', N v s' → notedBy (model prog w) A env (fun e s' => R (.error e) s') v s') (I : Nat → Shared → Prop)
    (turn : ∀ n s, I n s → wpAny (model prog w) A (pyNext it) (fun r s₁ => match r with
      | none => RQ .next s₁
      | some v => wpAny (model prog w) A (letOwnedTupleGo target it v) (fun _ s₁' => wpAny (model prog w) A (assign target env v) (fun _ s₂ => wpAny (model prog w) A (execs body env) (fun f s₃ => match f with
          | .next | .cont => ∃ m, m < n ∧ I m s₃
          | .brk => RQ .next s₃
          | .ret v => RQ (.ret v) s₃) N s₂) N s₁') N s₁) N s)
    (n : Nat) (h : I n s) : codeAny (model prog w) A (.forLoop target it body [] env) R s := by
  refine codeAny_loop' rfl I (fun n s hI => ?_) n h
  show wpAny _ _ ((forTurn target it body [] env).onRaise (fun x => do noteFrame x env; theTreesLotGoes x)) _ _ s
  refine wpAny_noted (wpAny_mono (E := N) ?_ (fun _ _ q => q) hN)
  unfold forTurn
  refine wpAny_bind (wpAny_standAt (wpAny_bind (wpAny_onRaise (wpAny_mono (turn n s hI) (fun r s₁ h₁ => ?_) fun _ _ h' => wpAny_standAt h'))))
  cases r with
  | none => exact wpAny_pure (.inr ⟨rfl, codeAny_block (wpAny_execs_nil (hR _ _ h₁))⟩)
  | some v =>
    refine wpAny_bind (wpAny_mono h₁ (fun _ s₁' h₁' => ?_) fun _ _ h' => h')
    refine wpAny_bind (wpAny_mono h₁' (fun _ s₂ h₂ => wpAny_bind (wpAny_mono h₂ (fun f s₃ h₃ => ?_) fun _ _ h' => h')) fun _ _ h' => h')
    cases f with
    | next => exact wpAny_pure (.inl ⟨rfl, h₃⟩)
    | cont => exact wpAny_pure (.inl ⟨rfl, h₃⟩)
    | brk => exact wpAny_pure (hR _ _ h₃)
    | ret v => exact wpAny_pure (hR _ _ h₃)

theorem forG_succ (nxt : S → Nat → Option (Option V)) (t : V → M Unit) (b : M Fl) (n i : Nat) (σ : S) : forG nxt t b (n + 1) i σ = (match nxt σ i with
    | none => .stuck
    | some none => .ok .next σ
    | some (some v) => match t v σ with
      | .stuck => .stuck
      | .exc e σ₂ => .exc e σ₂
      | .ok _ σ₂ => match b σ₂ with
        | .ok .next σ₃ => forG nxt t b n (i + 1) σ₃
        | .ok .cont σ₃ => forG nxt t b n (i + 1) σ₃
        | .ok .brk σ₃ => .ok .next σ₃
        | .ok (.ret v) σ₃ => .ok (.ret v) σ₃
        | .exc e σ₃ => .exc e σ₃
        | .stuck => .stuck) := by
  rw [forG]
  dsimp only
  cases nxt σ i with
  | none => rfl
  | some x =>
    cases x with
    | none => rfl
    | some v =>
      dsimp only
      rw [M.bind_def]
      cases t v σ with
      | stuck => rfl
      | exc e y => rfl
      | ok u y =>
        dsimp only
        rw [M.bind_def]
        cases b y with
        | stuck => rfl
        | exc e z => rfl
        | ok f z => cases f <;> rfl

noncomputable def forK (g : M Fl) : Fl → M Fl
  | .next => g
  | .cont => g
  | .brk => pure .next
  | .ret v => pure (.ret v)
theorem forG_step (nxt : S → Nat → Option (Option V)) (t : V → M Unit) (b : M Fl) (n i : Nat) (σ : S) : forG nxt t b (n + 1) i σ = (match nxt σ i with
    | none => .stuck
    | some none => .ok .next σ
    | some (some v) => (t v >>= fun _ => b >>= forK (forG nxt t b n (i + 1))) σ) := by
  have e : forK (forG nxt t b n (i + 1)) = fun f => (match f with
      | .next => forG nxt t b n (i + 1)
      | .cont => forG nxt t b n (i + 1)
      | .brk => pure .next
      | .ret v => pure (.ret v)) := by funext f; cases f <;> rfl
  rw [e, forG]
theorem run_forLoop {target : Expr} {body : List Stmt} {t : V → M Unit} {b : M Fl} (ht : SimT K F target t) (hb : SimSs K F body b) {I : Addr} {Src : Nat → Obj → Prop} {nxt : S → Nat → Option (Option V)}
    {σ : S} {ρ ρ₀ : List Addr} {s : Shared} {h₀ : Heap} {o : Obj} (hI : Iter K F I Src nxt ρ₀ h₀) (rel : Rel K F σ ρ s) (x₀ : Ext F.mine ρ₀ ρ h₀ s.heap) (h0 : h₀.get? I = none) (hbase : K.base.get? I = none)
    (hmi : I ∉ F.mine) (hρ : I ∉ ρ) (ho : s.heap.get? I = some o) (hs : Src 0 o) (n : Nat) (hne : forG nxt t b n 0 σ ≠ .stuck) :
    wpAny (model K.prog K.w) F.A (runOwn (.forLoop target (.ref I) body [] F.env) F.env) (QO K F (FlRep K) (forG nxt t b n 0 σ) ρ₀ h₀) (EO K F (forG nxt t b n 0 σ) ρ₀ h₀) s := by
  refine wpAny_runOwn ?_
  refine codeAny_forLoopT (R := fun r s' => match r with | .ok f => QO K F (FlRep K) (forG nxt t b n 0 σ) ρ₀ h₀ f s' | .error e => cameBackBy (model K.prog K.w) F.A F.env (EO K F (forG nxt t b n 0 σ) ρ₀ h₀) e s')
    (QO K F (FlRep K) (forG nxt t b n 0 σ) ρ₀ h₀) (EO K F (forG nxt t b n 0 σ) ρ₀ h₀) (fun _ _ q => q) (fun _ _ hx => hx.notedN fun _ _ q => q.back)
    (fun k s' => ∃ σ₁ ρ' i o, Rel K F σ₁ ρ' s' ∧ forG nxt t b k i σ₁ = forG nxt t b n 0 σ ∧ Ext F.mine ρ₀ ρ' h₀ s'.heap ∧ I ∉ ρ' ∧ s'.heap.get? I = some o ∧ Src i o) ?_ n
    ⟨σ, ρ, 0, o, rel, rfl, x₀, hρ, ho, hs⟩
  generalize forG nxt t b n 0 σ = out at hne ⊢
  rintro k s₁ ⟨σ₁, ρ', i, o₁, rel₁, e₁, x₁, hρ₁, ho₁, hs₁⟩
  cases k with
  | zero => exact absurd e₁.symm hne
  | succ k =>
    obtain ⟨vs₁, T₁, hd₁, hc₁, hT₁, hr₁⟩ := hI.1 i o₁ hs₁
    have hc₁' : o₁.cls ≠ .type "range" := by rw [hc₁]; exact fun e => hr₁ (by cases e; rfl)
    have hstep := hI.2.2 σ₁ ρ' s₁ i o₁ rel₁ x₁ ho₁ hs₁
    have e₀ : (match nxt σ₁ i with
      | none => .stuck
      | some none => .ok .next σ₁
      | some (some v) => (t v >>= fun _ => b >>= forK (forG nxt t b k (i + 1))) σ₁ : Res S Fl) = out := e₁ ▸ (forG_step ..).symm
    clear e₁
    cases en : nxt σ₁ i with
    | none => rw [en] at e₀; exact absurd e₀.symm hne
    | some ov =>
      rw [en] at hstep e₀
      cases ov with
      | none =>
        refine wpAny_mono hstep (fun r s₂ h => ?_) fun _ _ h => h.elim
        obtain ⟨rfl, hx, hg, hos⟩ := h
        exact ⟨.next, σ₁, ρ', e₀.symm, rel₁.but hρ₁ hbase hmi ho₁ hd₁ hc₁' hx hg hos, x₁.but h0 ho₁ hd₁ hc₁' hx, rfl⟩
      | some v =>
        have hold : ∀ {ρ₂ ρ₃ : List Addr} {g g' : Heap} {oo : Obj}, Ext F.mine ρ₂ ρ₃ g g' → I ∉ ρ₂ → g.get? I = some oo → (∃ vs, oo.data = .fields vs) → g'.get? I = some oo ∧ I ∉ ρ₃ := by
          intro ρ₂ ρ₃ g g' oo x hn e ⟨vs, d⟩
          obtain ⟨o', e', l⟩ := x.keep I oo e hn hmi
          refine ⟨by rw [e', l.same (fun es n q => by rw [d] at q; cases q)], fun hin => ?_⟩
          rcases x.new I hin with q | q
          · exact hn q
          · rw [e] at q; cases q
        refine wpAny_mono hstep (fun r s₂ h => ?_) fun _ _ h => h.elim
        obtain ⟨w, rfl, hx, hg, hos, ⟨o₂, ho₂, hs₂⟩, rv⟩ := h
        obtain ⟨vs₂, T₂, hd₂, hc₂, hT₂, hr₂⟩ := hI.1 (i + 1) o₂ hs₂
        refine owned_skip ho₂ hc₂ hT₂ ?_
        refine (ht σ₁ ρ' s₂ v w (rel₁.but hρ₁ hbase hmi ho₁ hd₁ hc₁' hx hg hos) rv).stepW (x₁.but h0 ho₁ hd₁ hc₁' hx) hne e₀ id fun _ σ₃ ρ₃ _ s₃ e₃ rel₃ y₃ x₃ _ => ?_
        obtain ⟨ho₃, hρ₃⟩ := hold y₃ hρ₁ ho₂ ⟨_, hd₂⟩
        refine (hb σ₃ ρ₃ s₃ rel₃).stepW x₃ hne e₃ id fun f σ₄ ρ₄ wf s₄ e₄ rel₄ y₄ x₄ rf => ?_
        obtain ⟨ho₄, hρ₄⟩ := hold y₄ hρ₃ ho₃ ⟨_, hd₂⟩
        cases f with
        | next => have : wf = .next := rf; subst this; exact ⟨k, Nat.lt_succ_self _, σ₄, ρ₄, i + 1, o₂, rel₄, e₄, x₄, hρ₄, ho₄, hs₂⟩
        | cont => have : wf = .cont := rf; subst this; exact ⟨k, Nat.lt_succ_self _, σ₄, ρ₄, i + 1, o₂, rel₄, e₄, x₄, hρ₄, ho₄, hs₂⟩
        | brk => have : wf = .brk := rf; subst this; exact ⟨.next, σ₄, ρ₄, e₄.symm, rel₄, x₄, rfl⟩
        | ret v => obtain ⟨w, e, r⟩ := rf; subst e; exact ⟨.ret v, σ₄, ρ₄, e₄.symm, rel₄, x₄, w, rfl, r⟩

end

/-! part F6 -/
set_option autoImplicit false
set_option maxRecDepth 100000
set_option linter.unusedVariables false
open PySem PySem.W PyProof.Rows
section
variable {K : Glo} {F : Frm}

theorem QO.up {α β : Type} {R : Heap → List Addr → β → α → Prop} {out : Res S β} {ρ ρ' : List Addr} {h h' : Heap} {a : α} {s : Shared} (x : Ext F.mine ρ ρ' h h') (q : QO K F R out ρ' h' a s) : QO K F R out ρ h a s := by
  obtain ⟨b, σ, ρ'', e, r1, r2, r3⟩ := q; exact ⟨b, σ, ρ'', e, r1, x.trans r2, r3⟩
theorem EO.up {β : Type} {out : Res S β} {ρ ρ' : List Addr} {h h' : Heap} {a : Value} {s : Shared} (x : Ext F.mine ρ ρ' h h') (q : EO K F out ρ' h' a s) : EO K F out ρ h a s := by
  obtain ⟨b, σ, ρ'', e, r1, r2, r3⟩ := q; exact ⟨b, σ, ρ'', e, r1, x.trans r2, r3.up x⟩

theorem Run.bindWp {α β δ : Type} {t : Sem α} {R : Heap → List Addr → β → α → Prop} {m : M β} {k : β → M δ} {σ : S} {ρ : List Addr} {s : Shared} {P : α → Shared → Prop}
    (h1 : Run K F t R (m σ) ρ s) (hne : (m >>= k) σ ≠ .stuck)
    (h2 : ∀ b σ' ρ' s' a, m σ = .ok b σ' → (m >>= k) σ = k b σ' → Rel K F σ' ρ' s' → Ext F.mine ρ ρ' s.heap s'.heap → R s'.heap ρ' b a → P a s') :
    wpAny (model K.prog K.w) F.A t P (EO K F ((m >>= k) σ) ρ s.heap) s := by
  cases e : m σ with
  | stuck => exact absurd (by rw [M.bind_def, e]) hne
  | ok b σ' =>
    rw [e] at h1
    have e2 : (m >>= k) σ = k b σ' := M.bind_ok e
    exact wpAny_mono h1 (fun a s' ⟨ρ', r1, r2, r3⟩ => h2 b σ' ρ' s' a e e2 r1 r2 r3) fun _ _ h => h.elim
  | exc x σ' =>
    rw [e] at h1
    have e2 : (m >>= k) σ = .exc x σ' := by rw [M.bind_def, e]
    exact wpAny_mono h1 (fun _ _ h => h.elim) fun v s' ⟨ρ', r1, r2, r3⟩ => ⟨x, σ', ρ', e2, r1, r2, r3⟩

/-! ### what a call of a def does -/
noncomputable def Room (A : Around) (n : Nat) : Prop := A.handled = none ∧ A.depth + n < recursionLimit ∧ A.units + 1000 + 10 * n < cLine
theorem Room.deeper {A : Around} {n : Nat} (r : Room A (n + 1)) (env : Env) : Room (A.deeper env) n := by
  obtain ⟨h1, h2, h3⟩ := r
  refine ⟨h1, ?_, ?_⟩
  · show A.depth + 1 + n < _; (first | lia | omega)
  · show A.units + 3 + 1000 + 10 * n < _; (first | lia | omega)
theorem Room.le {A : Around} {n k : Nat} (r : Room A n) (h : k ≤ n) : Room A k := ⟨r.1, by have := r.2.1; (first | lia | omega), by have := r.2.2; (first | lia | omega)⟩

noncomputable abbrev Fun := List V → Store → Res Store V

/-- an exception that has left a frame -/
noncomputable def XOut (K : Glo) (e : Exc) (h₀ : Heap) (v : Value) (s : Shared) : Prop := ∃ X, (∀ b ∈ X, h₀.get? b = none) ∧ (∀ b ∈ X, K.base.get? b = none) ∧ XObj true (fun fl => fl = .none) e X v s.heap
/-- the frames on the stack at a call -/
noncomputable def FrA (K : Glo) (A : Around) (h : Heap) : Prop := ∃ l, A.frames = some l ∧ FramesOk K h l

noncomputable def CallRes (K : Glo) (A : Around) (out : Res Store V) (ρ : List Addr) (h : Heap) : Result → Shared → Prop := fun r s' =>
  (∃ v st' w ρ', out = .ok v st' ∧ r = .ok (.ret w) ∧ GRel K st' ρ' s' ∧ Ext [] ρ ρ' h s'.heap ∧ Rep K s'.heap ρ' v w) ∨
  (∃ e st' w ρ', out = .exc e st' ∧ r = .error w ∧ GRel K st' ρ' s' ∧ Ext [] ρ ρ' h s'.heap ∧ XOut K e h w s')

noncomputable def SimF (K : Glo) (lvl : Nat) (f : Value) (g : Fun) : Prop :=
  ∀ A, Room A lvl → ∀ st ρ s, GRel K st ρ s → FrA K A s.heap → ∀ vs ws, RepL K s.heap ρ vs ws → g vs st ≠ .stuck →
    codeAny (model K.prog K.w) A (.call f ⟨ws, []⟩) (CallRes K A (g vs st) ρ s.heap) s

noncomputable def callF (g : Fun) (vs : List V) : M V := fun σ => match g vs σ.st with
  | .ok v st => .ok v { σ with st := st }
  | .exc e st => .exc e { σ with st := st }
  | .stuck => .stuck

theorem ext_of_nil {mine ρ ρ' : List Addr} {h h' : Heap} (x : Ext [] ρ ρ' h h') : Ext mine ρ ρ' h h' := ⟨x.pre, x.alive, x.new, fun b o e n1 _ => x.keep b o e n1 (by simp), x.froz⟩

/-- the caller's frame behind a call -/
theorem Rel.called {σ : S} {ρ ρ' : List Addr} {s s' : Shared} {st' : Store} (rel : Rel K F σ ρ s) (g : GRel K st' ρ' s') (x : Ext [] ρ ρ' s.heap s'.heap) (fk : FOk F) : Rel K F { σ with st := st' } ρ' s' := by
  have hns : ∀ {a : Addr} {m : Str → Option Value}, s.heap.Ns a m → a ∉ ρ → s'.heap.Ns a m := by
    intro a m n hn
    obtain ⟨o, es, ep, e, d, k, f⟩ := n
    obtain ⟨o', e', l⟩ := x.keep a o e hn (by simp)
    exact ⟨o', es, ep, e', l.data.1.trans d, k, f⟩
  have hnl : F.env.locals ∉ ρ := rel.mineApart _ rel.mineLoc
  have hcell : ∀ {c : Addr} {v : Option Value}, s.heap.IsCell c v → s'.heap.IsCell c v := by
    intro c v n
    have hn : c ∉ ρ := fun hc => by
      exact cel_ne_cell (rel.toGRel.alive hc) n rfl
    obtain ⟨o, e, d⟩ := n
    obtain ⟨o', e', l⟩ := x.keep c o e hn (by simp)
    exact ⟨o', e', l.data.1.trans d⟩
  refine { toGRel := g, vars := ?_, loc := ?_, cels := ?_, mineAbove := ?_, mineApart := ?_, mineLoc := rel.mineLoc, frs := rel.frs.next fun b o es n q d => ?_ }
  · intro y v e
    obtain ⟨w, h1, h2⟩ := rel.vars y v e
    exact ⟨w, h1.mono (fun m n => hns n hnl) (fun c u _ n => hcell n), h2.mono x⟩
  · obtain ⟨m, n⟩ := rel.loc; exact ⟨m, hns n hnl⟩
  · intro y c e
    obtain ⟨v, n⟩ := rel.cels y c e; exact ⟨v, hcell n⟩
  · intro a ha
    obtain ⟨h1, o, h2⟩ := rel.mineAbove a ha
    obtain ⟨o', h3⟩ := x.alive a o h2
    exact ⟨h1, o', h3⟩
  · intro a ha hb
    rcases x.new a hb with h1 | h1
    · exact rel.mineApart a ha h1
    · obtain ⟨_, o, h2⟩ := rel.mineAbove a ha
      rw [h1] at h2; cases h2
  · have hb : b ∉ ρ := fun hb => by
      obtain ⟨o', e, c⟩ := rel.toGRel.alive hb
      rw [q] at e; cases e; exact c.dict d
    obtain ⟨o', e', l⟩ := x.keep b o q hb (by simp)
    exact ⟨o', es, n, e', l.data.1.trans d⟩

theorem XOut.toX {e : Exc} {h₀ : Heap} {v : Value} {s : Shared} (x : XOut K e h₀ v s) (hm : ∀ a ∈ F.mine, ∃ o, h₀.get? a = some o) : XRep K F e h₀ v s := by
  obtain ⟨X, f, g, hc', a', t', tok', oe', vs', q1, q2, q3, q4, q5, q6, q7, q8⟩ := x
  refine ⟨X, f, fun b hb => ⟨g b hb, fun q => ?_⟩, hc', a', t', tok', oe', vs', q1, q2, q3, q4, q5, q6, q7, ?_⟩
  · obtain ⟨o, e⟩ := hm b q
    rw [f b hb] at e; cases e
  · rcases q8 with ⟨q, _⟩ | ⟨T', oT', ts', fl', r1, r2, r3, r4, r5, r6, r7, r8⟩
    · cases q
    · exact .inr ⟨T', oT', ts', fl', r1, r2, r3, r4, r5, r6, r7, .inl r8⟩
theorem Rel.frA {σ : S} {ρ : List Addr} {s : Shared} (rel : Rel K F σ ρ s) : FrA K F.A s.heap := by
  obtain ⟨e, l, a1, a2, a3⟩ := rel.frs
  exact ⟨_, a1, a3⟩

theorem run_call (fk : FOk F) {f : Value} {g : Fun} {lvl : Nat} (hf : SimF K lvl f g) (hr : Room F.A lvl) {σ : S} {ρ : List Addr} {s : Shared} {vs : List V} {ws : List Value} (rel : Rel K F σ ρ s) (r : RepL K s.heap ρ vs ws) :
    Run K F (PySem.call f ws) (Rep K) (callF g vs σ) ρ s := by
  refine Run.of_wp fun hne => ?_
  have hne' : g vs σ.st ≠ .stuck := by
    intro e; apply hne; unfold callF; rw [e]
  refine wpAny_call (codeAny_mono (hf F.A hr σ.st ρ s rel.toGRel rel.frA vs ws r hne') fun r s' h => ?_)
  rcases h with ⟨v, st', w, ρ', e, rfl, gr, x, rv⟩ | ⟨e, st', w, ρ', e1, rfl, gr, x, rv⟩
  · exact ⟨v, { σ with st := st' }, ρ', by unfold callF; rw [e], rel.called gr x fk, ext_of_nil x, rv⟩
  · exact ⟨e, { σ with st := st' }, ρ', by unfold callF; rw [e1], rel.called gr x fk, ext_of_nil x, rv.toX fun a ha => (rel.mineAbove a ha).2⟩

/-! ### a def's body -/
noncomputable def bindP : List String → List V → String → Option V
  | x :: xs, v :: vs => fun y => if y = x then some v else bindP xs vs y
  | _, _ => fun _ => none
noncomputable def funM (params : List String) (body : M Fl) : Fun := fun vs st =>
  if vs.length = params.length then
    match body ⟨st, bindP params vs⟩ with
    | .ok (.ret v) σ' => .ok v σ'.st
    | .ok _ σ' => .ok .none σ'.st
    | .exc e σ' => .exc e σ'.st
    | .stuck => .stuck
  else .stuck

theorem bindL_mem {kindOf : Str → Option NameKind} : ∀ (binds : List (Str × Value)) (m : Str → Option Value) {x : Str} {w : Value}, (binds.map (·.1)).Nodup → kindOf x = some .local →
    ((x, w) ∈ binds → bindL kindOf binds m x = some w) ∧ (x ∉ binds.map (·.1) → bindL kindOf binds m x = m x)
  | [], m, x, w, _, _ => ⟨fun h => by simp at h, fun _ => rfl⟩
  | (n, v) :: r, m, x, w, hn, hk => by
    obtain ⟨n1, n2⟩ := List.nodup_cons.mp hn
    refine ⟨fun h => ?_, fun h => ?_⟩
    · rcases List.mem_cons.mp h with h | h
      · cases h
        unfold bindL
        rw [(bindL_mem r _ (w := v) n2 hk).2 n1, if_pos hk]; simp
      · unfold bindL
        exact (bindL_mem r _ n2 hk).1 h
    · have h1 : x ≠ n := fun e => h (by simp [e])
      have h2 : x ∉ r.map (·.1) := fun e => h (List.mem_cons_of_mem _ e)
      unfold bindL
      rw [(bindL_mem r _ (w := w) n2 hk).2 h2]
      split
      · exact if_neg h1
      · rfl
theorem bindC_mem {kindOf : Str → Option NameKind} : ∀ (binds : List (Str × Value)) (m : Str → Option Value) {x : Str} {w : Value}, (binds.map (·.1)).Nodup → kindOf x ≠ some .local →
    ((x, w) ∈ binds → bindC kindOf binds m x = some w) ∧ (x ∉ binds.map (·.1) → bindC kindOf binds m x = m x)
  | [], m, x, w, _, _ => ⟨fun h => by simp at h, fun _ => rfl⟩
  | (n, v) :: r, m, x, w, hn, hk => by
    obtain ⟨n1, n2⟩ := List.nodup_cons.mp hn
    refine ⟨fun h => ?_, fun h => ?_⟩
    · rcases List.mem_cons.mp h with h | h
      · cases h
        unfold bindC
        rw [(bindC_mem r _ (w := v) n2 hk).2 n1, if_neg hk]; simp
      · unfold bindC
        exact (bindC_mem r _ n2 hk).1 h
    · have h1 : x ≠ n := fun e => h (by simp [e])
      have h2 : x ∉ r.map (·.1) := fun e => h (List.mem_cons_of_mem _ e)
      unfold bindC
      rw [(bindC_mem r _ (w := w) n2 hk).2 h2]
      split
      · rfl
      · exact if_neg h1

theorem bindP_mem : ∀ {ps : List String} {vs : List V} {ws : List Value} {h : Heap} {ρ : List Addr} {x : String} {v : V}, RepL K h ρ vs ws → bindP ps vs x = some v →
    ∃ w, (Str.ofString x, w) ∈ (ps.map Str.ofString).zip ws ∧ Rep K h ρ v w
  | [], vs, ws, h, ρ, x, v, _, e => by simp [bindP] at e
  | p :: ps, [], ws, h, ρ, x, v, _, e => by simp [bindP] at e
  | p :: ps, u :: vs, ws, h, ρ, x, v, r, e => by
    obtain ⟨w, ws', rfl, r1, r2⟩ := RepL.cons_iff.mp r
    unfold bindP at e
    by_cases hx : x = p
    · rw [if_pos hx] at e; cases e; subst hx
      exact ⟨w, by simp, r1⟩
    · rw [if_neg hx] at e
      obtain ⟨w', h1, h2⟩ := bindP_mem r2 e
      exact ⟨w', by simp only [List.map_cons, List.zip_cons_cons]; exact List.mem_cons_of_mem _ h1, h2⟩

/-- the def as it lies in the base -/
structure DefAt (K : Glo) (fa : Addr) (fd : FuncData) (body : List Stmt) : Prop where
  obj : ∃ o, K.base.get? fa = some o ∧ o.data = .func fd
  code : K.base.CodeRec fd.code fd.qualname
  body : fd.body = .stmts body
  clo : fd.closure = []
  glob : fd.globals = mainGlobals
  blt : fd.builtins = builtinsNs
  co : fd.scope.isCoroutine = false
  gen : fd.scope.isGenerator = false
  kind : fd.scope.kind = .function

/-- an exception leaves the frame -/
theorem leave_x {e : Exc} {ρ ρ₀ : List Addr} {h₀ : Heap} {v : Value} {s : Shared} {σ : S} {Q : Unit → Shared → Prop} {E : Value → Shared → Prop} (x : XRep K F e h₀ v s) (rel : Rel K F σ ρ s) (ext : Ext F.mine ρ₀ ρ h₀ s.heap)
    (h : ∀ s', Rel K F σ ρ s' → Ext F.mine ρ₀ ρ h₀ s'.heap → XOut K e h₀ v s' → Q () s') : wpAny (model K.prog K.w) F.A (leaving F.env v) Q E s := by
  unfold leaving
  refine wpAny_bind (x.noted rel ext fun s₁ rel₁ ext₁ x₁ => ?_)
  refine x₁.flight rel₁ ext₁ (.inl rfl) fun s₂ rel₂ ext₂ x₂ => h s₂ rel₂ ext₂ ?_
  obtain ⟨X', f', g', hc', a', t', tok', oe', vs', q1, q2, q3, q4, q5, q6, q7, q8⟩ := x₂
  refine ⟨X', f', fun b hb => (g' b hb).1, hc', a', t', tok', oe', vs', q1, q2, q3, q4, q5, q6, q7, ?_⟩
  rcases q8 with ⟨q, _⟩ | ⟨T', oT', ts', fl', r1, r2, r3, r4, r5, r6, r7, r8⟩
  · cases q
  · exact .inr ⟨T', oT', ts', fl', r1, r2, r3, r4, r5, r6, r7, r8.2 rfl⟩

noncomputable def cellAddrs (cells : List (Str × Addr)) : List Addr := cells.filterMap fun x => cells.lookup x.1
theorem mem_cellAddrs {cells : List (Str × Addr)} {c : Addr} (h : c ∈ cellAddrs cells) : ∃ n, cells.lookup n = some c := by
  obtain ⟨x, _, e⟩ := List.mem_filterMap.mp h; exact ⟨x.1, e⟩
theorem cellAddrs_of {cells : List (Str × Addr)} {x : Str} {c : Addr} (h : cells.lookup x = some c) : c ∈ cellAddrs cells :=
  List.mem_filterMap.mpr ⟨(x, c), mem_of_lookup h, h⟩
theorem cells_apart : ∀ (names : List (Str × NameKind)) (n : Nat) (acc : List (Str × Addr)), (acc.Pairwise fun x y => x.2 ≠ y.2) → (∀ p ∈ acc, p.2 < n) → ((cellsFrom n names acc).Pairwise fun x y => x.2 ≠ y.2)
  | [], n, acc, h, _ => h
  | (nm, k) :: r, n, acc, h, hlt => by
    unfold cellsFrom
    split
    · refine cells_apart r (n + 1) _ (List.pairwise_cons.mpr ⟨fun p hp => ?_, h⟩) ?_
      · exact fun e => absurd (hlt p hp) (by rw [← e]; exact Nat.lt_irrefl _)
      · intro p hp
        rcases List.mem_cons.mp hp with rfl | hp
        · exact Nat.lt_succ_self _
        · exact Nat.lt_succ_of_lt (hlt p hp)
    · exact cells_apart r n acc h hlt
theorem cell_inj {names : List (Str × NameKind)} {n : Nat} {x : Str} {c : Addr} (h : (cellsFrom n names []).lookup x = some c) : ∀ y, (cellsFrom n names []).lookup y = some c → y = x :=
  fun y hy => name_of_addr (cells_apart names n [] List.Pairwise.nil (by simp)) (mem_of_lookup hy) (mem_of_lookup h)

noncomputable def defFrm (fd : FuncData) (L fa : Addr) (A : Around) : Frm := ⟨callEnvC fd L fa, A, L :: cellAddrs (cellsFrom (L + 1) fd.scope.names []), true⟩

theorem simF_def {lvl : Nat} {fa : Addr} {fd : FuncData} {body : List Stmt} {params : List String} {mb : M Fl} (hd : DefAt K fa fd body)
    (hnd : params.Nodup)
    (hbind : ∀ ws : List Value, ws.length = params.length → bindArgs fd ⟨ws, []⟩ = pure ((params.map Str.ofString).zip ws))
    (hkind : ∀ n, ∀ x ∈ params, fd.scope.names.lookup (Str.ofString x) = some .local ∨ (fd.scope.names.lookup (Str.ofString x) = some .cell ∧ ((cellsFrom n fd.scope.names []).lookup (Str.ofString x)).isSome = true))
    (hb : ∀ L A, Room A lvl → SimSs K (defFrm fd L fa A) body mb) : SimF K (lvl + 1) (.ref fa) (funM params mb) := by
  intro A hroom st ρ s g hfa vs ws r hne
  have hl : vs.length = params.length := by
    by_cases h : vs.length = params.length
    · exact h
    · exact absurd (by unfold funM; rw [if_neg h]) hne
  have hwl : ws.length = params.length := r.length.trans hl
  obtain ⟨o, ho, hdat⟩ := hd.obj
  have hmem : ∀ x ∈ (params.map Str.ofString).zip ws, ∃ p ∈ params, x.1 = Str.ofString p := by
    intro x hx
    have := (List.of_mem_zip (a := x.1) (b := x.2) hx).1
    obtain ⟨p, hp, e⟩ := List.mem_map.mp this
    exact ⟨p, hp, e.symm⟩
  have hnd' : (((params.map Str.ofString).zip ws).map (·.1)).Nodup := by
    rw [List.map_fst_zip (by simp [hwl])]
    have inj : ∀ l : List String, l.Nodup → (l.map Str.ofString).Nodup := by
      intro l
      induction l with
      | nil => intro _; exact List.nodup_nil
      | cons a l ih =>
        intro hn
        obtain ⟨a1, a2⟩ := List.nodup_cons.mp hn
        refine List.nodup_cons.mpr ⟨fun hm => ?_, ih a2⟩
        obtain ⟨b, hb, e⟩ := List.mem_map.mp hm
        exact a1 (ofString_inj e ▸ hb)
    exact inj params hnd
  refine codeAny_call_cells (fd := fd) (binds := (params.map Str.ofString).zip ws) (by have := hroom.2.1; (first | lia | omega)) (g.base fa o ho) hdat (K.top.nolimit.keeps g.base) (hd.code.keeps g.base) hd.body (hbind ws hwl) hd.clo ?_ ?_ hd.co hd.gen hd.kind
  · intro x hx
    obtain ⟨p, hp, e⟩ := hmem x hx
    rw [e]; exact hkind _ p hp
  · intro s₁ X
    have hkeep := X.toInCall.keep
    obtain ⟨h₁, tk, rfl, _⟩ := X.done
    have hLfresh := X.toInCall.fresh
    have fresh : ∀ {a : Addr}, s.heap.objs.size ≤ a → s.heap.get? a = none := fun ha => Heap.get?_none_of_le ha
    have fbase : ∀ {a : Addr}, s.heap.get? a = none → K.base.get? a = none := by
      intro a ha
      cases e : K.base.get? a with
      | none => rfl
      | some o' => have := g.base a o' e; rw [ha] at this; cases this
    have hmineFresh : ∀ a ∈ (defFrm fd s.heap.objs.size fa (A.deeper (callEnvC fd s.heap.objs.size fa))).mine, s.heap.get? a = none ∧ ∃ o', h₁.get? a = some o' := by
      intro a ha
      rcases List.mem_cons.mp ha with rfl | ha
      · obtain ⟨o', _, _, e, _⟩ := X.toInCall.ns
        exact ⟨fresh hLfresh, o', e⟩
      · obtain ⟨n, hn⟩ := mem_cellAddrs ha
        have h1 := X.above n a (mem_of_lookup hn)
        obtain ⟨o', e, _⟩ := X.cell n a hn
        exact ⟨fresh (Nat.le_of_lt (Nat.lt_of_le_of_lt hLfresh h1)), o', e⟩
    have rel : Rel K (defFrm fd s.heap.objs.size fa (A.deeper (callEnvC fd s.heap.objs.size fa))) ⟨st, bindP params vs⟩ ρ { s with heap := h₁, toks := tk } := by
      refine { toGRel := g.kept hkeep rfl rfl, vars := ?_, loc := ⟨_, X.toInCall.ns⟩, cels := fun x c e => ⟨_, X.cell x c e⟩, mineAbove := ?_, mineApart := ?_, mineLoc := List.mem_cons_self, frs := ?_ }
      · intro x v e
        obtain ⟨w, h1, h2⟩ := bindP_mem r e
        refine ⟨w, ?_, Rep.mono' (List.prefix_refl _) (kept_tup hkeep) h2⟩
        obtain ⟨p, hp, ep⟩ := hmem _ h1
        have hx : x = p := ofString_inj ep
        subst hx
        rcases hkind (s.heap.objs.size + 1) x hp with hk | ⟨hk, hk2⟩
        · exact .inl ⟨hk, _, X.toInCall.ns, (bindL_mem _ _ hnd' hk).1 h1⟩
        · obtain ⟨c, hc⟩ := Option.isSome_iff_exists.mp hk2
          refine .inr ⟨.inl hk, c, hc, ?_⟩
          have hnl : (callEnvC fd s.heap.objs.size fa).kindOf (Str.ofString x) ≠ some .local := by
            show fd.scope.names.lookup (Str.ofString x) ≠ some .local
            rw [hk]; decide
          have := X.cell _ c hc
          rw [(bindC_mem _ _ hnd' hnl).1 h1] at this
          exact this
      · intro a ha
        obtain ⟨h1, h2⟩ := hmineFresh a ha
        exact ⟨fbase h1, h2⟩
      · intro a ha hb
        obtain ⟨h1, _⟩ := hmineFresh a ha
        obtain ⟨o', e, _⟩ := g.alive hb
        rw [h1] at e; cases e
      · obtain ⟨l, hl1, hl2⟩ := hfa
        refine ⟨callEnvC fd s.heap.objs.size fa, l, by show A.frames.map _ = _; rw [hl1]; rfl, rfl, ?_⟩
        intro env he
        rcases List.mem_cons.mp he with rfl | he
        · obtain ⟨o', es, ep, e1, d1, _⟩ := X.toInCall.ns
          exact ⟨by show fd.scope.kind ≠ _; rw [hd.kind]; decide, s.heap.objs.size, o', _, _, rfl, fbase (fresh (Nat.le_refl _)), e1, d1⟩
        · exact hl2.next (fun b o es n _ q d => ⟨o, es, n, hkeep b o q, d⟩) env he
    have hrun := hb s.heap.objs.size (A.deeper (callEnvC fd s.heap.objs.size fa)) (hroom.deeper _) _ ρ _ rel
    have up : ∀ {ρ' : List Addr} {h' : Heap}, Ext (defFrm fd s.heap.objs.size fa (A.deeper (callEnvC fd s.heap.objs.size fa))).mine ρ ρ' h₁ h' → Ext [] ρ ρ' s.heap h' := by
      intro ρ' h' x
      refine ⟨x.pre, fun b o' e => x.alive b o' (hkeep b o' e), fun a ha => ?_, fun b o' e n1 _ => x.keep b o' (hkeep b o' e) n1 (fun hm => ?_), fun b o' e f => x.froz b o' (hkeep b o' e) f⟩
      · rcases x.new a ha with h1 | h1
        · exact .inl h1
        · refine .inr ?_
          cases e : s.heap.get? a with
          | none => rfl
          | some o' => have := hkeep a o' e; rw [h1] at this; cases this
      · have := (hmineFresh b hm).1
        rw [e] at this; cases this
    have hout : funM params mb vs st = (match mb ⟨st, bindP params vs⟩ with
      | .ok (.ret v) σ' => .ok v σ'.st
      | .ok _ σ' => .ok .none σ'.st
      | .exc e σ' => .exc e σ'.st
      | .stuck => .stuck) := by unfold funM; rw [if_pos hl]
    cases em : mb ⟨st, bindP params vs⟩ with
    | stuck => rw [em] at hout; exact absurd hout hne
    | exc e σ' =>
      rw [em] at hrun
      rw [em] at hout
      refine wpAny_mono hrun (fun _ _ h => h.elim) fun v s' ⟨ρ', rel', x', xr⟩ => ?_
      refine leave_x (K := K) (F := defFrm fd s.heap.objs.size fa (A.deeper (callEnvC fd s.heap.objs.size fa))) (σ := σ') xr rel' x' fun s₂ rel₂ x₂ xo => ?_
      obtain ⟨X', f', g'⟩ := xo
      have f2 : ∀ b ∈ X', s.heap.get? b = none := by
        intro b hb
        cases q : s.heap.get? b with
        | none => rfl
        | some o' => have := hkeep b o' q; rw [f' b hb] at this; cases this
      exact .inr ⟨e, σ'.st, v, ρ', hout, rfl, rel₂.toGRel, up x₂, X', f2, g'⟩
    | ok f σ' =>
      rw [em] at hrun hout
      refine wpAny_mono hrun (fun wf s' ⟨ρ', rel', x', rf⟩ => ?_) fun _ _ h => h.elim
      cases f with
      | ret v =>
        obtain ⟨w, rfl, rw'⟩ := rf
        exact .inl ⟨v, σ'.st, w, ρ', hout, rfl, rel'.toGRel, up x', rw'⟩
      | next => have : wf = .next := rf; subst this; exact .inl ⟨.none, σ'.st, .none, ρ', hout, rfl, rel'.toGRel, up x', Rep.none⟩
      | brk => have : wf = .brk := rf; subst this; exact .inl ⟨.none, σ'.st, .none, ρ', hout, rfl, rel'.toGRel, up x', Rep.none⟩
      | cont => have : wf = .cont := rf; subst this; exact .inl ⟨.none, σ'.st, .none, ρ', hout, rfl, rel'.toGRel, up x', Rep.none⟩

end

/-! part F7 -/
set_option autoImplicit false
set_option maxRecDepth 100000
set_option linter.unusedVariables false
open PySem PySem.W PyProof.Rows
section
variable {K : Glo} {F : Frm}

theorem wp_global {A : Around} {s : Shared} {σ : S} {ρ : List Addr} {x : Str} {pos : Pos} {v : Value} {Q : Value → Shared → Prop} {E : Value → Shared → Prop} (fk : FOk F) (rel : Rel K F σ ρ s) (hx : F.env.kindOf x = some .globalImplicit)
    (hg : K.mg x = some v) (h : Q v s) (hd : (x == ("__debug__" : Str)) = false := by decide) : wpAny (model K.prog K.w) A (eval (.Name x pos) F.env) Q E s :=
  Calls.Name_function_global fk.kind hx (Calls.loadGlobal_global (mg := K.mg) (by rw [fk.glob]; exact K.top.g.keeps rel.base) hg h) hd

theorem wp_builtin {A : Around} {s : Shared} {σ : S} {ρ : List Addr} {x : Str} {pos : Pos} {v : Value} {Q : Value → Shared → Prop} {E : Value → Shared → Prop} (fk : FOk F) (rel : Rel K F σ ρ s) (hx : F.env.kindOf x = some .globalImplicit)
    (hm : K.mg x = none) (hb : bootBuiltins x = some v) (h : Q v s) (hn : x ≠ "__name__" := by decide) (hd : (x == ("__debug__" : Str)) = false := by decide) : wpAny (model K.prog K.w) A (eval (.Name x pos) F.env) Q E s :=
  Calls.Name_function_global fk.kind hx (Calls.loadGlobal_builtin (mg := K.mg) (mb := K.mb) (by rw [fk.glob]; exact K.top.g.keeps rel.base) hm (by rw [fk.blt]; exact K.top.b.keeps rel.base) ((K.top.builtins x hn).trans hb) h) hd

theorem backTo_any (pos : Pos) (l : List (Bool × Sem Value)) : (backTo pos l).any (·.1) = l.any (·.1) := by
  unfold backTo; rw [List.any_map]; rfl

theorem wp_evalArgs {A : Around} {M : Model} {E : Value → Shared → Prop} {s : Shared} {f : Value} {args : List (Bool × Sem Value)} {Q : Args → Shared → Prop} (hpl : args.any (·.1) = false)
    (h : wpAny M A (spliced args) (fun vs s' => Q ⟨vs, []⟩ s') E s) : wpAny M A (evalArgs f true args []) Q E s := by
  cases args with
  | nil =>
    unfold evalArgs
    show wpAny M A (spliced [] >>= _) Q E s
    refine wpAny_bind (wpAny_mono h (fun vs s' h' => wpAny_bind (wpAny_pure (wpAny_holding ?_))) fun _ _ e => e)
    exact wpAny_bind (wpAny_pure (wpAny_bind (wpAny_pure (wpAny_pure h'))))
  | cons a r =>
    obtain ⟨b, x⟩ := a
    have : b = false := by
      rw [List.any_cons] at hpl
      cases b <;> simp_all
    subst this
    exact Calls.evalArgs_plain h

theorem eval_CallName (x : Str) (np pos : Pos) (args : List Expr) (env : Env) : eval (.Call (.Name x np) args [] pos) env = (do callWith pos (← eval (.Name x np) env) [] (backTo pos (starEach args env)) []) := rfl

/-- a call of a def of the text -/
theorem simE_callDef (fk : FOk F) {x : String} {np pos : Pos} {args : List Expr} {ms : M (List V)} {fa : Addr} {fd : FuncData} {body : List Stmt} {g : Fun} {lvl : Nat}
    (hx : F.env.kindOf (Str.ofString x) = some .globalImplicit) (hg : K.mg (Str.ofString x) = some (.ref fa)) (hd : DefAt K fa fd body) (hf : SimF K lvl (.ref fa) g) (hr : Room F.A lvl) (hs : SimEs K F args ms)
    (hpl : (starEach args F.env).any (·.1) = false := by rfl) (hdb : (Str.ofString x == ("__debug__" : Str)) = false := by decide) :
    SimE K F (.Call (.Name (Str.ofString x) np) args [] pos) (do let vs ← ms; callF g vs) := by
  intro σ ρ s rel
  refine Run.of_wp fun hne => ?_
  rw [eval_CallName]
  refine wpAny_bind (wp_global fk rel hx hg ?_ hdb)
  obtain ⟨o, ho, hdat⟩ := hd.obj
  refine Calls.callWith_function (o := o) (fd := fd) (wp_evalArgs (by rw [backTo_any]; exact hpl) ?_)
  refine Run.bindWp (hs pos σ ρ s rel) hne fun vs σ' ρ' s' ws e1 e2 rel' x' rv => ⟨⟨rel'.base _ _ ho, hdat⟩, ?_⟩
  rw [e2] at hne ⊢
  exact wpAny_mono ((run_call fk hf hr rel' rv).wp hne) (fun _ _ q => q.up x') fun _ _ q => q.up x'

/-- a built-in, or a type, called -/
noncomputable def BuiltOk (K : Glo) (f : Value) (g : List V → M V) : Prop :=
  ∀ F : Frm, FOk F → F.nh = true → ∀ σ ρ s vs ws, Rel K F σ ρ s → RepL K s.heap ρ vs ws → Run K F (PySem.call f ws) (Rep K) (g vs σ) ρ s

noncomputable def isBT : Value → Bool
  | .builtin _ => true
  | .type _ => true
  | _ => false

theorem wp_callWith {A : Around} {M : Model} {E : Value → Shared → Prop} {s : Shared} {pos : Pos} {f : Value} {first : List Value} {args : List (Bool × Sem Value)} {Q : Value → Shared → Prop} (hf : isBT f = true) (hpl : args.any (·.1) = false)
    (h : wpAny M A (spliced args) (fun vs s₁ => wpAny M A (PySem.call f (first ++ vs)) Q E s₁) E s) : wpAny M A (callWith pos f first args []) Q E s := by
  cases f with
  | builtin id => exact Calls.callWith_builtin hpl (wp_evalArgs hpl h)
  | type T => exact PyProof.Rows.callWith_type hpl (wp_evalArgs hpl h)
  | _ => cases hf

theorem simE_callB (fk : FOk F) {x : String} {np pos : Pos} {args : List Expr} {ms : M (List V)} {f : Value} {g : List V → M V} (hf : isBT f = true)
    (hx : F.env.kindOf (Str.ofString x) = some .globalImplicit) (hm : K.mg (Str.ofString x) = none) (hb : bootBuiltins (Str.ofString x) = some f) (ho : BuiltOk K f g) (hs : SimEs K F args ms)
    (hpl : (starEach args F.env).any (·.1) = false := by rfl) (hn : Str.ofString x ≠ "__name__" := by decide) (hdb : (Str.ofString x == ("__debug__" : Str)) = false := by decide) (hnh : F.nh = true := by rfl) :
    SimE K F (.Call (.Name (Str.ofString x) np) args [] pos) (do let vs ← ms; g vs) := by
  intro σ ρ s rel
  refine Run.of_wp fun hne => ?_
  rw [eval_CallName]
  refine wpAny_bind (wp_builtin fk rel hx hm hb ?_ hn hdb)
  refine wp_callWith hf (by rw [backTo_any]; exact hpl) ?_
  refine Run.bindWp (hs pos σ ρ s rel) hne fun vs σ' ρ' s' ws e1 e2 rel' x' rv => ?_
  rw [e2] at hne ⊢
  exact wpAny_mono ((ho F fk hnh σ' ρ' s' vs ws rel' rv).wp hne) (fun _ _ q => q.up x') fun _ _ q => q.up x'

/-! ### methods of lists -/
noncomputable def chkL : V → M Unit
  | .obj l => fun σ => match σ.st[l]? with
    | some (.lst _) => .ok () σ
    | _ => .stuck
  | _ => fun _ => .stuck

theorem chkL_ok {σ : S} {l : Nat} {us : List V} (h : σ.st[l]? = some (.lst us)) : chkL (.obj l) σ = .ok () σ := by
  show (match σ.st[l]? with | some (.lst _) => Res.ok () σ | _ => .stuck) = _
  rw [h]

theorem chkL_list {σ σ' : S} {l : Nat} {u : Unit} (h : chkL (.obj l) σ = .ok u σ') : ∃ us, σ.st[l]? = some (.lst us) := by
  unfold chkL at h
  dsimp only at h
  cases e : σ.st[l]? with
  | none => rw [e] at h; cases h
  | some c =>
    rw [e] at h
    cases c with
    | lst us => exact ⟨us, rfl⟩
    | set _ => cases h
    | itr _ _ _ => cases h

noncomputable def MethOk (K : Glo) (id : String) (g : V → List V → M V) : Prop :=
  ∀ F : Frm, FOk F → F.nh = true → ∀ σ ρ s o wo vs ws, Rel K F σ ρ s → Rep K s.heap ρ o wo → RepL K s.heap ρ vs ws → Run K F (PySem.call (.builtin id) (wo :: ws)) (Rep K) (g o vs σ) ρ s

theorem Rel.list {σ : S} {ρ : List Addr} {s : Shared} {l : Nat} {w : Value} {vs : List V} (rel : Rel K F σ ρ s) (hr : Rep K s.heap ρ (.obj l) w) (hs : σ.st[l]? = some (.lst vs)) :
    ∃ a ws n, w = .ref a ∧ ρ[l]? = some a ∧ IsL s.heap a ws.toArray n ∧ RepL K s.heap ρ vs ws ∧ vs.length ≤ 1000000 := by
  obtain ⟨a, e, rfl⟩ := Rep.obj_iff.mp hr
  obtain ⟨h0, ws, n, h1, h2⟩ := rel.cell l a _ e hs
  exact ⟨a, ws, n, rfl, e, h1, h2, h0⟩

theorem simE_meth (fk : FOk F) {o : Expr} {name : String} {id : String} {apos pos : Pos} {args : List Expr} {mo : M V} {ms : M (List V)} {g : V → List V → M V} (hsl : Slot "list" (Str.ofString name) id)
    (hty : typeOf (.builtin id) = pure (.type "method_descriptor")) (ho : SimE K F o mo) (hs : SimEs K F args ms) (hm : MethOk K id g) {pl : Sem Bool}
    (he : eval (.Call (.Attribute o (Str.ofString name) apos) args [] pos) F.env = (do
      let ov ← eval o F.env
      standAt apos.atName
      let (f, first) ← holding [ov] (getMethod ov (Str.ofString name) pl)
      callWith pos f first (backTo pos (starEach args F.env)) []) := by rfl)
    (hpl : (starEach args F.env).any (·.1) = false := by rfl) (hnh : F.nh = true := by rfl) :
    SimE K F (.Call (.Attribute o (Str.ofString name) apos) args [] pos) (do let ov ← mo; chkL ov; let vs ← ms; g ov vs) := by
  intro σ ρ s rel
  refine Run.of_wp fun hne => ?_
  refine MethodCall_ (pl := pl) ?_ he
  refine Run.bindWp (ho σ ρ s rel) hne fun ov σ₁ ρ₁ s₁ wo e1 e2 rel₁ x₁ ro => ?_
  rw [e2] at hne ⊢
  cases ov with
  | obj l =>
    cases hc : σ₁.st[l]? with
    | none => exact absurd (by rw [M.bind_def]; simp only [chkL, hc]) hne
    | some c =>
      cases c with
      | set _ => exact absurd (by rw [M.bind_def]; simp only [chkL, hc]) hne
      | itr _ _ _ => exact absurd (by rw [M.bind_def]; simp only [chkL, hc]) hne
      | lst us =>
        obtain ⟨a, ws, n, rfl, hρ, hL, hr, _⟩ := rel₁.list ro hc
        have e3 : (chkL (.obj l) >>= fun _ => (ms >>= fun vs => g (.obj l) vs)) σ₁ = (ms >>= fun vs => g (.obj l) vs) σ₁ := M.bind_ok (chkL_ok hc)
        rw [e3] at hne ⊢
        refine getMethod_list_of hsl hty hL.isList ⟨_, hL, rfl⟩ ?_
        refine wp_callWith rfl (by rw [backTo_any]; exact hpl) ?_
        refine wpAny_mono (Run.bindWp (P := fun ws' s₂ => wpAny (model K.prog K.w) F.A (PySem.call (.builtin id) (.ref a :: ws')) (QO K F (Rep K) ((ms >>= fun vs => g (.obj l) vs) σ₁) ρ₁ s₁.heap) (EO K F ((ms >>= fun vs => g (.obj l) vs) σ₁) ρ₁ s₁.heap) s₂) (hs pos σ₁ ρ₁ s₁ rel₁) hne ?_) (fun _ _ q => ?_) (fun _ _ q => q.up x₁)
        · intro vs σ₂ ρ₂ s₂ ws₂ e4 e5 rel₂ x₂ rv
          rw [e5] at hne ⊢
          exact wpAny_mono ((hm F fk hnh σ₂ ρ₂ s₂ (.obj l) (.ref a) vs ws₂ rel₂ (ro.mono x₂) rv).wp hne) (fun _ _ q => q.up x₂) fun _ _ q => q.up x₂
        · exact wpAny_mono q (fun _ _ q => q.up x₁) fun _ _ q => q.up x₁
  | _ => exact absurd (by rw [M.bind_def]; simp only [chkL]) hne

end

/-! part E1 -/
set_option autoImplicit false
set_option maxRecDepth 100000
set_option linter.unusedVariables false
open PySem PySem.W PyProof.Rows
section
variable {K : Glo} {F : Frm}

/-! ### an exception is made -/
noncomputable def excHeap (h : Heap) (cls : String) (msg : Str) (tk : Tok) : Heap := (h.push { cls := .type "tuple", data := .seq #[.str msg tk] }).push { cls := .type cls, data := .fields #[.ref h.objs.size, .none, .none, .none, .bool false, .none] }
theorem excHeap_keep {h : Heap} {cls : String} {msg : Str} {tk : Tok} : ∀ b o, h.get? b = some o → (excHeap h cls msg tk).get? b = some o := fun b o e => Heap.get?_push_of_some _ (Heap.get?_push_of_some _ e)
section
variable {M : Model} {A : Around} {E : Value → Shared → Prop} {s : Shared}
theorem raise_words {α : Type} {cls msg : String} {Q : α → Shared → Prop} (hp : PlainExc cls) (hh : A.handled = none)
    (h : E (.ref (s.heap.objs.size + 1)) { s with heap := excHeap s.heap cls (Str.ofString msg) s.toks, toks := s.toks + 1 }) : wpAny M A (raiseErrorWords cls msg : Sem α) Q E s := by
  unfold raiseErrorWords
  refine wpAny_bind (wpAny_mkText (wpAny_bind ?_))
  unfold newExc newTuple
  refine wpAny_bind (wpAny_newObj_type ?_)
  refine wpAny_bind (m := firstArgMember _ _) (wpAny_of_eq (a := Value.none) (by simp only [firstArgMember, hp.first]; rfl) ?_)
  rw [hp.own]
  refine wpAny_newObj_type ?_
  unfold raiseNew
  refine wpAny_bind (wpAny_handled ?_)
  rw [hh]
  first
    | refine wpAny_throw ?_
    | refine wpAny_bind (wpAny_pure (wpAny_throw ?_))
  have : (s.heap.push { cls := .type "tuple", data := .seq #[Value.str (Str.ofString msg) s.toks] }).objs.size = s.heap.objs.size + 1 := Heap.size_push ..
  rw [← this] at h
  exact h
theorem raise_made {α : Type} {cls msg : String} {Q : α → Shared → Prop} (hp : PlainExc cls) (hh : A.handled = none) (hm : (Str.ofString msg).length ≤ sizeLine)
    (h : E (.ref (s.heap.objs.size + 1)) { s with heap := excHeap s.heap cls (Str.ofString msg) s.toks, toks := s.toks + 1 }) : wpAny M A (raiseErrorMade cls msg : Sem α) Q E s := by
  unfold raiseErrorMade
  refine wpAny_bind (wpAny_mkStr (wpAny_bind ?_) hm)
  unfold newExc newTuple
  refine wpAny_bind (wpAny_newObj_type ?_)
  refine wpAny_bind (m := firstArgMember _ _) (wpAny_of_eq (a := Value.none) (by simp only [firstArgMember, hp.first]; rfl) ?_)
  rw [hp.own]
  refine wpAny_newObj_type ?_
  unfold raiseNew
  refine wpAny_bind (wpAny_handled ?_)
  rw [hh]
  first
    | refine wpAny_throw ?_
    | refine wpAny_bind (wpAny_pure (wpAny_throw ?_))
  have : (s.heap.push { cls := .type "tuple", data := .seq #[Value.str (Str.ofString msg) s.toks] }).objs.size = s.heap.objs.size + 1 := Heap.size_push ..
  rw [← this] at h
  exact h
end
theorem x_made {σ : S} {ρ : List Addr} {s : Shared} {cls : String} {msg : Str} {tk : Tok} {n : Nat} (rel : Rel K F σ ρ s) (hc : cls ≠ "range" ∧ cls ≠ "list_iterator") :
    ∃ ρ', Rel K F σ ρ' { s with heap := excHeap s.heap cls msg tk, toks := n } ∧ Ext F.mine ρ ρ' s.heap (excHeap s.heap cls msg tk) ∧ XRep K F ⟨cls, msg⟩ s.heap (.ref (s.heap.objs.size + 1)) { s with heap := excHeap s.heap cls msg tk, toks := n } := by
  have h1 : (s.heap.push { cls := .type "tuple", data := .seq #[Value.str msg tk] }).objs.size = s.heap.objs.size + 1 := Heap.size_push ..
  have hnew : s.heap.get? (s.heap.objs.size + 1) = none := Heap.get?_none_of_le (Nat.le_succ _)
  have hg : (excHeap s.heap cls msg tk).get? (s.heap.objs.size + 1) = some { cls := .type cls, data := .fields #[.ref s.heap.objs.size, .none, .none, .none, .bool false, .none] } := by
    unfold excHeap
    have := Heap.get?_push_size (s.heap.push { cls := .type "tuple", data := .seq #[Value.str msg tk] }) (o := { cls := .type cls, data := .fields #[.ref s.heap.objs.size, .none, .none, .none, .bool false, .none] }) rfl
    rw [h1] at this; exact this
  have ht : IsTup (excHeap s.heap cls msg tk) s.heap.objs.size #[.str msg tk] := ⟨_, Heap.get?_push_of_some _ (Heap.get?_push_size _ rfl), rfl, 0, rfl⟩
  refine ⟨ρ, rel.kept excHeap_keep rfl rfl, Ext.kept excHeap_keep, [s.heap.objs.size + 1], fun b hb => by rw [List.mem_singleton.mp hb]; exact hnew, fun b hb => ?_, hc, _, _, tk, _, _, rfl, by simp, ht, hg, rfl, rfl, rfl, .inl ⟨rfl, rfl⟩⟩
  rw [List.mem_singleton.mp hb]
  refine ⟨?_, fun q => ?_⟩
  · cases e : K.base.get? (s.heap.objs.size + 1) with
    | none => rfl
    | some o => have := rel.base _ _ e; rw [hnew] at this; cases this
  · obtain ⟨_, o, e⟩ := rel.mineAbove _ q
    rw [hnew] at e; cases e

/-! ### pop of an empty list, an item that is not there -/
open PySem.SeqAt PySem.MeetsSeq PySem.MeetsSeq3 in
theorem pop_empty (l : Addr) (n : Nat) : Meets (Builtin.«list.pop» ⟨[.ref l], []⟩) (fun A R s => A.handled = none ∧ s.heap.get? l = some { cls := .type "list", dict := none, data := .seq #[] n, slots := #[] } ∧
    R (.error (.ref (s.heap.objs.size + 1))) { s with heap := excHeap s.heap "IndexError" (Str.ofString "pop from empty list") s.toks, toks := s.toks + 1 }) :=
  .of_wp fun prog w A R s h => by
    obtain ⟨hh, hl, h⟩ := h
    wp_walk using wpAny_loadPart' hl
    exact raise_words plainExc_IndexError hh h

section
variable {A : Around} {E : Value → Shared → Prop} {s : Shared}
end

end

/-! part F8 -/
set_option autoImplicit false
set_option maxRecDepth 100000
set_option linter.unusedVariables false
open PySem PySem.W PyProof.Rows
section
variable {K : Glo} {F : Frm}

/-! ### items -/
noncomputable def ix (n : Nat) (k : Int) : Option Nat := if 0 ≤ k then (if k.toNat < n then some k.toNat else none) else (if -(n : Int) ≤ k then some (k + n).toNat else none)

theorem ix_seq {n j : Nat} {k : Int} (h : ix n k = some j) : seqIndex? k n = some j := by
  unfold ix at h
  unfold seqIndex?
  split at h
  · split at h
    · cases h
      have h1 : ¬ k < 0 := by (first | lia | omega)
      simp only [h1, if_false]
      rw [if_pos (by simp only [Bool.and_eq_true, decide_eq_true_eq]; (first | lia | omega))]
    · cases h
  · split at h
    · cases h
      have h1 : k < 0 := by (first | lia | omega)
      simp only [h1, if_true]
      rw [if_pos (by simp only [Bool.and_eq_true, decide_eq_true_eq]; (first | lia | omega))]
    · cases h
theorem ix_range {n j : Nat} {k : Int} (h : ix n k = some j) (hn : n ≤ 1000000) : -1000000 ≤ k ∧ k < 1000000 := by
  unfold ix at h
  split at h
  · split at h
    · (first | lia | omega)
    · cases h
  · split at h
    · (first | lia | omega)
    · cases h

noncomputable def getI : V → V → M V
  | .obj l, .int k => fun σ => match σ.st[l]? with
    | some (.lst vs) => match ix vs.length k with
      | some j => match vs[j]? with
        | some v => .ok v σ
        | none => .stuck
      | none => .stuck
    | _ => .stuck
  | .tup vs, .int k => fun σ => match ix vs.length k with
    | some j => match vs[j]? with
      | some v => .ok v σ
      | none => .stuck
    | none => .stuck
  | _, _ => fun _ => .stuck

theorem wp_getItem_list {A : Around} {s : Shared} {a : Addr} {ws : List Value} {k : Int} {t : Tok} {j : Nat} {x : Value} {Q : Value → Shared → Prop} {E : Value → Shared → Prop} (hl : s.heap.IsList a ws.toArray) (hn : ws.length ≤ 1000000)
    (hk : ix ws.length k = some j) (hx : ws[j]? = some x) (h : Q x s) : wpAny (model K.prog K.w) A (getItem (.ref a) (.int k t)) Q E s := by
  have hr := ix_range hk hn
  by_cases h0 : 0 ≤ k
  · refine wpAny_getItem_list hl h0 (by (first | lia | omega)) ?_ h
    unfold ix at hk
    rw [if_pos h0] at hk
    split at hk
    · cases hk; simpa using hx
    · cases hk
  · unfold ix at hk
    rw [if_neg h0] at hk
    split at hk
    · cases hk
      refine wpAny_getItem_list_neg hl (by (first | lia | omega)) (by simpa using ‹_›) (by (first | lia | omega)) ?_ h
      simpa using hx
    · cases hk

theorem run_getItem (fk : FOk F) {σ : S} {ρ : List Addr} {s : Shared} {a b : V} {wa wb : Value} (rel : Rel K F σ ρ s) (ra : Rep K s.heap ρ a wa) (rb : Rep K s.heap ρ b wb) {value slice : Expr}
    (hs : ∀ o i, subscripted slice false o i = PySem.operate [o, i] (getItem o i)) : Run K F (subscriptTail value slice wa wb) (Rep K) (getI a b σ) ρ s := by
  cases a with
  | obj l =>
    cases b with
    | int k =>
      obtain ⟨t, rfl⟩ := Rep.int_iff.mp rb
      unfold getI
      dsimp only
      cases hc : σ.st[l]? with
      | none => exact Run.stuck
      | some c =>
        cases c with
        | set _ => exact Run.stuck
        | itr _ _ _ => exact Run.stuck
        | lst vs =>
          dsimp only
          obtain ⟨ad, ws, n, rfl, hρ, hL, hr, hn⟩ := rel.list ra hc
          cases hi : ix vs.length k with
          | none => exact Run.stuck
          | some j =>
            dsimp only
            cases hv : vs[j]? with
            | none => exact Run.stuck
            | some v =>
              obtain ⟨w, hw, rw'⟩ := hr.get? hv
              refine Run.ok (tail_any hL.isList.typeIs slot_list_getitem.lookup (wp_getItem_list hL.isList (by rw [hr.length]; exact hn) (by rw [hr.length]; exact hi) hw ?_) (hs _ _))
              exact ⟨ρ, rel, Ext.refl .., rw'⟩
    | _ => exact Run.stuck
  | tup vs =>
    cases b with
    | int k =>
      obtain ⟨t, rfl⟩ := Rep.int_iff.mp rb
      obtain ⟨hn, ad, ws, rfl, ht, hr⟩ := Rep.tup_iff.mp ra
      unfold getI
      dsimp only
      cases hi : ix vs.length k with
      | none => exact Run.stuck
      | some j =>
        dsimp only
        cases hv : vs[j]? with
        | none => exact Run.stuck
        | some v =>
          obtain ⟨w, hw, rw'⟩ := hr.get? hv
          have hrg := ix_range hi hn
          refine Run.ok (tail_any ht.typeIs slot_tuple_getitem.lookup (PyProof.Rows.getItem_tuple ht (by (first | lia | omega)) (by (first | lia | omega)) (j := j) (by rw [List.size_toArray, hr.length]; exact ix_seq hi) (by simpa using hw) ?_) (hs _ _))
          exact ⟨ρ, rel, Ext.refl .., rw'⟩
    | _ => exact Run.stuck
  | _ => cases b <;> exact Run.stuck

theorem simE_sub (fk : FOk F) {value slice : Expr} {mv mi : M V} (pos : Pos) (hv : SimE K F value mv) (hi : SimE K F slice mi)
    (hs : ∀ o i, subscripted slice false o i = PySem.operate [o, i] (getItem o i) := by intro _ _; rfl) :
    SimE K F (.Subscript value slice pos) (do let o ← mv; let i ← mi; getI o i) := by
  intro σ ρ s rel
  rw [eval_Subscript]
  refine Run.bind (hv σ ρ s rel) fun a σ₁ ρ₁ s₁ wa _ rel₁ x₁ ra => ?_
  refine Run.bind (Run.holding (hi σ₁ ρ₁ s₁ rel₁)) fun b σ₂ ρ₂ s₂ wb _ rel₂ x₂ rb => ?_
  exact Run.standAt (run_getItem fk rel₂ (ra.mono x₂) rb hs)

/-! ### an item is stored -/
theorem wp_setItem_list {A : Around} {s : Shared} {a : Addr} {items : Array Value} {n : Nat} {k : Int} {t : Tok} {v : Value} {Q : Unit → Shared → Prop} {E : Value → Shared → Prop} (hl : IsL s.heap a items n)
    (h0 : 0 ≤ k) (hfit : k < 2 ^ 63) (hn : k < items.size)
    (hQ : Q () { s with heap := s.heap.update a (Obj.mapSeq (·.setIfInBounds k.toNat v)) }) :
    wpAny (model K.prog K.w) A (setItem (.ref a) (.int k t) v) Q E s := by
  have hT : s.TypeIs (.ref a) "list" := ⟨_, hl, rfl⟩
  unfold setItem
  try with_reducible refine wpAny_holding ?_
  first | refine wpAny_bind (wpAny_pure ?_) | skip
  refine wpAny_bind (wpAny_sequenceKey hT (by decide) ?_)
  refine wpAny_bind (wpAny_callSpecial?_slot (name := Str.ofString "__setitem__") hT slot_list_setitem
    (wpAny_call_entry slot_list_setitem hT entry_list_setitem ?_ (args_list_setitem _ _ _)))
  show wpAny _ _ (Builtin.List.listSubscript? (.int k t) >>= _) _ _ s
  refine wpAny_bind (wpAny_listSubscript_int (fitsIndex_of h0 hfit) ?_)
  clear hfit
  obtain ⟨j, rfl⟩ := Int.eq_ofNat_of_zero_le h0
  have hj : j < items.size := by (first | lia | omega)
  have hx' : items[j]? = some items[j] := Array.getElem?_eq_getElem hj
  show wpAny _ _ ((seqItemAt a j >>= fun r => pure (r.map (j, ·))) >>= _) _ _ s
  refine wpAny_bind (wpAny_bind (wpAny_seqItemAt hl rfl (wpAny_pure ?_)))
  rw [hx']
  show wpAny _ _ (setSeqItemAt a j v >>= _) _ _ s
  refine wpAny_bind (wpAny_setSeqItemAt hl rfl ?_)
  first
    | exact wpAny_bind (wpAny_pure (wpAny_pure ⟨.none, rfl, wpAny_pure hQ⟩))
    | exact wpAny_pure ⟨.none, rfl, wpAny_pure hQ⟩

noncomputable def setI : V → V → V → M Unit
  | .obj l, .int k, v => fun σ => match σ.st[l]? with
    | some (.lst vs) => if l ≠ 0 ∧ 0 ≤ k ∧ k.toNat < vs.length then .ok () { σ with st := σ.st.set l (.lst (vs.set k.toNat v)) } else .stuck
    | _ => .stuck
  | _, _, _ => fun _ => .stuck

theorem run_setItem (fk : FOk F) {σ : S} {ρ : List Addr} {s : Shared} {a b v : V} {wa wb wv : Value} (rel : Rel K F σ ρ s) (ra : Rep K s.heap ρ a wa) (rb : Rep K s.heap ρ b wb) (rv : Rep K s.heap ρ v wv) :
    Run K F (setItem wa wb wv) URep (setI a b v σ) ρ s := by
  cases a with
  | obj l =>
    cases b with
    | int k =>
      obtain ⟨t, rfl⟩ := Rep.int_iff.mp rb
      unfold setI
      dsimp only
      cases hc : σ.st[l]? with
      | none => exact Run.stuck
      | some c =>
        cases c with
        | set _ => exact Run.stuck
        | itr _ _ _ => exact Run.stuck
        | lst vs =>
          dsimp only
          obtain ⟨ad, ws, n, rfl, hρ, hL, hr, hn⟩ := rel.list ra hc
          by_cases hk : l ≠ 0 ∧ 0 ≤ k ∧ k.toNat < vs.length
          · rw [if_pos hk]
            obtain ⟨j, rfl⟩ := Int.eq_ofNat_of_zero_le hk.2.1
            have hj : j < vs.length := by simpa using hk.2.2
            refine Run.ok (wp_setItem_list hL hk.2.1 (by (first | lia | omega)) (by rw [List.size_toArray, hr.length]; (first | lia | omega)) ?_)
            obtain ⟨rel', x'⟩ := rel.upd (s' := { s with heap := s.heap.update ad (Obj.mapSeq (·.setIfInBounds j wv)) }) (vs := vs.set j v) (ws := ws.set j wv) (n := n) hρ hk.1 (Heap.SameBut.update ..) (by
              have := hL.update (·.setIfInBounds j wv)
              simpa using this) (hr.set j rv) (by simpa using hn) rfl rfl
            exact ⟨ρ, rel', x', trivial⟩
          · rw [if_neg hk]; exact Run.stuck
    | _ => exact Run.stuck
  | _ => exact Run.stuck

theorem assign_Sub (o i : Expr) (pos : Pos) (env : Env) (w : Value) : assign (.Subscript o i pos) env w = (do
    let ov ← holding [w] (eval o env)
    let iv ← holding [w, ov] (eval i env)
    standAt pos
    holding [w, ov, iv] (setItem ov iv w)
    release (match i with | .Slice _ _ none _ => [iv, w, ov] | _ => [w, ov, iv]) []) := rfl
theorem simT_sub (fk : FOk F) {o i : Expr} {mo mi : M V} (pos : Pos) (ho : SimE K F o mo) (hi : SimE K F i mi) : SimT K F (.Subscript o i pos) (fun v => do let a ← mo; let b ← mi; setI a b v) := by
  intro σ ρ s v w rel rv
  rw [assign_Sub]
  refine Run.bind (Run.holding (ho σ ρ s rel)) fun a σ₁ ρ₁ s₁ wa _ rel₁ x₁ ra => ?_
  refine Run.bind (Run.holding (hi σ₁ ρ₁ s₁ rel₁)) fun b σ₂ ρ₂ s₂ wb _ rel₂ x₂ rb => ?_
  refine Run.standAt ?_
  have key := run_setItem fk rel₂ (ra.mono x₂) rb ((rv.mono x₁).mono x₂)
  have e : setI a b v σ₂ = (setI a b v >>= fun u => (pure u : M Unit)) σ₂ := by
    rw [M.bind_def]; cases setI a b v σ₂ <;> rfl
  rw [e]
  refine Run.bind (Run.holding key) fun u σ₃ ρ₃ s₃ _ _ rel₃ x₃ _ => ?_
  exact Run.ok (wpAny_release ⟨ρ₃, rel₃, Ext.refl .., trivial⟩)

end

/-! part F9 -/
set_option autoImplicit false
set_option maxRecDepth 100000
set_option linter.unusedVariables false
open PySem PySem.W PyProof.Rows
section
variable {K : Glo} {F : Frm}

/-! ### values as data -/
noncomputable def mapO {α β : Type} (f : α → Option β) : List α → Option (List β)
  | [] => some []
  | a :: r => match f a, mapO f r with
    | some b, some bs => some (b :: bs)
    | _, _ => none

noncomputable def toD (st : Store) : Nat → V → Option PyData
  | 0, _ => none
  | n + 1, v => match v with
    | .none => some .none
    | .bool b => some (.bool b)
    | .int i => some (.int i)
    | .str x => if PySem.PyData.strOk x then some (.str x) else none
    | .tup vs => (mapO (toD st n) vs).map .tuple
    | .obj l => match st[l]? with
      | some (.lst vs) => (mapO (toD st n) vs).map .list
      | _ => none
    | _ => none

theorem mapO_cons {α β : Type} {f : α → Option β} {a : α} {r : List α} {l : List β} (h : mapO f (a :: r) = some l) : ∃ b bs, f a = some b ∧ mapO f r = some bs ∧ l = b :: bs := by
  unfold mapO at h
  cases h1 : f a with
  | none => rw [h1] at h; cases h
  | some b =>
    cases h2 : mapO f r with
    | none => rw [h1, h2] at h; cases h
    | some bs => rw [h1, h2] at h; cases h; exact ⟨b, bs, rfl, rfl, rfl⟩

theorem reads_all {h : Heap} {ρ : List Addr} {f : V → Option PyData} {n : Nat}
    (hf : ∀ v w d, f v = some d → Rep K h ρ v w → ∃ as, Reads h w d as ∧ d.canLay0 = true ∧ d.depth ≤ n) : ∀ (vs : List V) (ws : List Value) (ds : List PyData), mapO f vs = some ds → RepL K h ρ vs ws →
    ∃ as, ReadsAll h ws ds as ∧ PyData.canLayAll0 ds = true ∧ PyData.depthAll ds ≤ n
  | [], ws, ds, e, r => by
    unfold mapO at e; cases e
    rw [RepL.nil_iff.mp r]
    exact ⟨[], .nil, rfl, Nat.zero_le _⟩
  | v :: vs, ws, ds, e, r => by
    obtain ⟨b, bs, e1, e2, rfl⟩ := mapO_cons e
    obtain ⟨w, ws', rfl, r1, r2⟩ := RepL.cons_iff.mp r
    obtain ⟨as, q1, q2, q3⟩ := hf v w b e1 r1
    obtain ⟨as', p1, p2, p3⟩ := reads_all hf vs ws' bs e2 r2
    refine ⟨as ++ as', .cons q1 p1, ?_, ?_⟩
    · simp [PyData.canLayAll0, q2, p2]
    · simp [PyData.depthAll]; (first | lia | omega)

theorem toD_reads {st : Store} {ρ : List Addr} {s : Shared} (g : GRel K st ρ s) : ∀ (n : Nat) (v : V) (w : Value) (d : PyData), toD st n v = some d → Rep K s.heap ρ v w →
    ∃ as, Reads s.heap w d as ∧ d.canLay0 = true ∧ d.depth ≤ n
  | 0, v, w, d, e, _ => by cases e
  | n + 1, v, w, d, e, r => by
    cases v with
    | none => cases e; rw [Rep.none_iff.mp r]; exact ⟨[], .none, rfl, Nat.zero_le _⟩
    | bool b => cases e; rw [Rep.bool_iff.mp r]; exact ⟨[], .bool b, rfl, Nat.zero_le _⟩
    | int i => cases e; obtain ⟨t, rfl⟩ := Rep.int_iff.mp r; exact ⟨[], .int i t, rfl, Nat.zero_le _⟩
    | str x =>
      have e : (if PyData.strOk x = true then some (PyData.str x) else none) = some d := e
      by_cases hx : PyData.strOk x = true
      · rw [if_pos hx] at e; cases e; obtain ⟨t, rfl⟩ := Rep.str_iff.mp r; exact ⟨[], .str x t, hx, Nat.zero_le _⟩
      · rw [if_neg hx] at e; cases e
    | tup vs =>
      have e : (mapO (toD st n) vs).map PyData.tuple = some d := e
      cases em : mapO (toD st n) vs with
      | none => rw [em] at e; cases e
      | some ds =>
        rw [em] at e; cases e
        obtain ⟨_, a, ws, rfl, ⟨o, h1, h2, k, h3⟩, rl⟩ := Rep.tup_iff.mp r
        obtain ⟨as, q1, q2, q3⟩ := reads_all (K := K) (n := n) (fun v w d e r => toD_reads g n v w d e r) vs ws ds em rl
        exact ⟨as, .tuple h1 h2 h3 (by simpa using q1), q2, by simp [PyData.depth]; (first | lia | omega)⟩
    | obj l =>
      have e : (match st[l]? with | some (.lst vs) => (mapO (toD st n) vs).map PyData.list | _ => none) = some d := e
      cases hc : st[l]? with
      | none => rw [hc] at e; cases e
      | some c =>
        cases c with
        | set _ => rw [hc] at e; cases e
        | itr _ _ _ => rw [hc] at e; cases e
        | lst vs =>
          rw [hc] at e
          dsimp only at e
          cases em : mapO (toD st n) vs with
          | none => rw [em] at e; cases e
          | some ds =>
            rw [em] at e; cases e
            obtain ⟨a, hρ, rfl⟩ := Rep.obj_iff.mp r
            obtain ⟨_, ws, k, hL, rl⟩ := g.cell l a _ hρ hc
            obtain ⟨as, q1, q2, q3⟩ := reads_all (K := K) (n := n) (fun v w d e r => toD_reads g n v w d e r) vs ws ds em rl
            exact ⟨a :: as, .list hL rfl rfl (by simpa using q1), q2, by simp [PyData.depth]; (first | lia | omega)⟩
    | fn x => simp [toD] at e
    | rng a b c => simp [toD] at e

noncomputable def eqV (a b : V) : M V := fun σ => match toD σ.st 6 a, toD σ.st 6 b with
  | some d, some d' => .ok (.bool (PyData.eqv d d')) σ
  | _, _ => .stuck
noncomputable def neV (a b : V) : M V := fun σ => match toD σ.st 6 a, toD σ.st 6 b with
  | some d, some d' => .ok (.bool (!PyData.eqv d d')) σ
  | _, _ => .stuck

theorem cmp_eq : CmpOk K .Eq eqV := by
  intro F fk σ ρ s a b wa wb rel ra rb
  unfold eqV
  cases e1 : toD σ.st 6 a with
  | none => exact Run.stuck
  | some d =>
    cases e2 : toD σ.st 6 b with
    | none => exact Run.stuck
    | some d' =>
      obtain ⟨as, r1, c1, p1⟩ := toD_reads rel.toGRel 6 a wa d e1 ra
      obtain ⟨bs, r2, c2, p2⟩ := toD_reads rel.toGRel 6 b wb d' e2 rb
      exact Run.ok (SeqAt.compareEq_reads r1 r2 c1 c2 (by have := fk.units; (first | lia | omega)) ⟨ρ, rel, Ext.refl .., Rep.bool _⟩)
theorem cmp_ne : CmpOk K .NotEq neV := by
  intro F fk σ ρ s a b wa wb rel ra rb
  unfold neV
  cases e1 : toD σ.st 6 a with
  | none => exact Run.stuck
  | some d =>
    cases e2 : toD σ.st 6 b with
    | none => exact Run.stuck
    | some d' =>
      obtain ⟨as, r1, c1, p1⟩ := toD_reads rel.toGRel 6 a wa d e1 ra
      obtain ⟨bs, r2, c2, p2⟩ := toD_reads rel.toGRel 6 b wb d' e2 rb
      exact Run.ok (SeqAt.compareNe_reads r1 r2 c1 c2 (by have := fk.units; (first | lia | omega)) ⟨ρ, rel, Ext.refl .., Rep.bool _⟩)

/-! ### is, is not, in, not in -/
noncomputable def V.isNone : V → Bool
  | .none => true
  | _ => false
noncomputable def isNotV : V → V → M V
  | v, .none => fun σ => .ok (.bool (!v.isNone)) σ
  | .obj l, .obj k => fun σ => .ok (.bool (!decide (l = k))) σ
  | _, _ => fun _ => .stuck

theorem rep_none_beq {h : Heap} {ρ : List Addr} {v : V} {w : Value} (r : Rep K h ρ v w) : (w == Value.none) = v.isNone := by
  cases v with
  | none => rw [Rep.none_iff.mp r]; rfl
  | bool b => rw [Rep.bool_iff.mp r]; rfl
  | int i => obtain ⟨t, rfl⟩ := Rep.int_iff.mp r; rfl
  | str x => obtain ⟨t, rfl⟩ := Rep.str_iff.mp r; rfl
  | tup vs => obtain ⟨_, a, ws, rfl, _⟩ := Rep.tup_iff.mp r; rfl
  | obj l => obtain ⟨a, _, rfl⟩ := Rep.obj_iff.mp r; rfl
  | fn x => simp only [Rep] at r; obtain ⟨_, a, rfl⟩ := r; rfl
  | rng a b c => obtain ⟨a, _, _, _, rfl, _⟩ := Rep.rng_iff.mp r; rfl

theorem cmp_isNot : CmpOk K .IsNot isNotV := by
  intro F fk σ ρ s a b wa wb rel ra rb
  cases b with
  | none =>
    rw [Rep.none_iff.mp rb]
    have e : isNotV a .none σ = .ok (.bool (!a.isNone)) σ := by cases a <;> rfl
    rw [e]
    refine Run.ok (isNot_none ⟨ρ, rel, Ext.refl .., ?_⟩)
    rw [rep_none_beq ra]; exact Rep.bool _
  | obj k =>
    cases a with
    | obj l =>
      obtain ⟨x, hx, rfl⟩ := Rep.obj_iff.mp ra
      obtain ⟨y, hy, rfl⟩ := Rep.obj_iff.mp rb
      show Run K F _ (Rep K) (.ok (V.bool (!decide (l = k))) σ) ρ s
      by_cases hlk : l = k
      · subst hlk
        rw [hx] at hy; cases hy
        refine Run.ok (wpAny_isNot_ref_self ⟨ρ, rel, Ext.refl .., ?_⟩)
        rw [decide_eq_true rfl]; exact Rep.bool _
      · have hne : x ≠ y := fun e => hlk (nodup_get rel.nodup (e ▸ hx) hy)
        obtain ⟨ox, ex, cx⟩ := rel.toGRel.alive (List.mem_of_getElem? hx)
        obtain ⟨oy, ey, cy⟩ := rel.toGRel.alive (List.mem_of_getElem? hy)
        refine Run.ok (wpAny_isNot_ref_other hne ex ey (by rcases cx with ⟨c, _⟩ | ⟨c, _⟩ | ⟨c, _⟩ <;> rw [c] <;> decide) ⟨ρ, rel, Ext.refl .., ?_⟩)
        rw [decide_eq_false hlk]; exact Rep.bool _
    | _ => exact Run.stuck
  | _ => cases a <;> exact Run.stuck

noncomputable def inD (x : PyData) : PyData → Option Bool
  | .list xs => some (xs.any fun y => PyData.eqv y x)
  | .tuple xs => some (xs.any fun y => PyData.eqv y x)
  | _ => none
noncomputable def inV (a b : V) : M V := fun σ => match toD σ.st 6 a, toD σ.st 6 b with
  | some d, some d' => match inD d d' with
    | some r => .ok (.bool r) σ
    | none => .stuck
  | _, _ => .stuck
noncomputable def notInV (a b : V) : M V := fun σ => match toD σ.st 6 a, toD σ.st 6 b with
  | some d, some d' => match inD d d' with
    | some r => .ok (.bool (!r)) σ
    | none => .stuck
  | _, _ => .stuck
theorem cmp_in : CmpOk K .In inV := by
  intro F fk σ ρ s a b wa wb rel ra rb
  unfold inV
  cases e1 : toD σ.st 6 a with
  | none => exact Run.stuck
  | some d =>
    cases e2 : toD σ.st 6 b with
    | none => exact Run.stuck
    | some d' =>
      obtain ⟨as, r1, c1, p1⟩ := toD_reads rel.toGRel 6 a wa d e1 ra
      obtain ⟨bs, r2, c2, p2⟩ := toD_reads rel.toGRel 6 b wb d' e2 rb
      have hu := fk.units
      cases d' with
      | list xs => exact Run.ok (SeqAt.in_list_reads r2 r1 c2 c1 (by (first | lia | omega)) ⟨ρ, rel, Ext.refl .., Rep.bool _⟩)
      | tuple xs => exact Run.ok (SeqAt.in_tuple_reads r2 r1 c2 c1 (by (first | lia | omega)) ⟨ρ, rel, Ext.refl .., Rep.bool _⟩)
      | _ => exact Run.stuck
theorem cmp_notIn : CmpOk K .NotIn notInV := by
  intro F fk σ ρ s a b wa wb rel ra rb
  unfold notInV
  cases e1 : toD σ.st 6 a with
  | none => exact Run.stuck
  | some d =>
    cases e2 : toD σ.st 6 b with
    | none => exact Run.stuck
    | some d' =>
      obtain ⟨as, r1, c1, p1⟩ := toD_reads rel.toGRel 6 a wa d e1 ra
      obtain ⟨bs, r2, c2, p2⟩ := toD_reads rel.toGRel 6 b wb d' e2 rb
      have hu := fk.units
      cases d' with
      | list xs => exact Run.ok (SeqAt.notIn_list_reads r2 r1 c2 c1 (by (first | lia | omega)) ⟨ρ, rel, Ext.refl .., Rep.bool _⟩)
      | tuple xs => exact Run.ok (SeqAt.notIn_tuple_reads r2 r1 c2 c1 (by (first | lia | omega)) ⟨ρ, rel, Ext.refl .., Rep.bool _⟩)
      | _ => exact Run.stuck

/-! ### less than -/
noncomputable def lt0 : PyData → PyData → Option Bool
  | .int i, y => match y with
    | .int j => some (decide (i < j))
    | _ => none
  | .str i, y => match y with
    | .str j => some (decide (i.cps.toList < j.cps.toList))
    | _ => none
  | _, _ => none
noncomputable def ltAll : List PyData → List PyData → Option Bool
  | [], ys => some (decide (0 < ys.length))
  | x :: xs, ys => match ys with
    | [] => some false
    | y :: ys => if PyData.eqv x y then ltAll xs ys else lt0 x y
noncomputable def ltD : PyData → PyData → Option Bool
  | .list xs, y => match y with
    | .list ys => ltAll xs ys
    | _ => none
  | x, y => lt0 x y

end

/-! part F10 -/
set_option autoImplicit false
set_option maxRecDepth 100000
set_option linter.unusedVariables false
open PySem PySem.W PyProof.Rows
section
variable {K : Glo} {F : Frm}
open PySem.SeqAt PySem.MeetsSeq PySem.MeetsSeq3

noncomputable def LtAt (A : Around) (s : Shared) (y x : Value) (b : Bool) : Prop :=
  ∀ (prog : Program) (w : World) (E : Value → Shared → Prop) (Q : Value → Shared → Prop), Q (.bool b) s → wpAny (model prog w) A (richCompare .Lt y x) Q E s

noncomputable def LexAt (A : Around) (s : Shared) (fin : Bool) : List (Value × Value) → Bool → Prop
  | [], r => r = fin
  | (x, y) :: rest, r => ∃ e, EqAt A s x y e ∧ (if e = true then LexAt A s fin rest r else LtAt A s x y r)

theorem lt_loopAt (l b : Addr) (items items2 : Array Value) (n n2 : Nat) (dd dd2 : Option Addr) (sl sl2 : Array (Option Value)) (r : Bool) (k : Nat) :
    ∀ i : Nat, min items.size items2.size - i = k → Meets (Builtin.«list.__eq__.loop» ⟨[.ref l, .ref b, rawInt i, rawInt 0], []⟩)
      (fun A R s => s.heap.get? l = some { cls := .type "list", dict := dd, data := .seq items n, slots := sl } ∧ s.heap.get? b = some { cls := .type "list", dict := dd2, data := .seq items2 n2, slots := sl2 } ∧
        LexAt A.in1 s (decide (items.size < items2.size)) ((items.toList.zip items2.toList).drop i) r ∧ R (.ok (.ret (.bool r))) s) := by
  induction k with
  | zero =>
    intro i hk prog w A R s h
    obtain ⟨hp, g, d, tk, os⟩ := s; obtain ⟨hl, hb, he, h⟩ := h
    wp_walk using wpAny_loadPart' hl, wpAny_loadPart' hb
    have hd : (items.toList.zip items2.toList).drop i = [] := by simp; (first | lia | omega)
    rw [hd] at he
    have hr : r = decide (items.size < items2.size) := he
    have hor : items[((i : Nat) : Int).toNat]? = none ∨ items2[((i : Nat) : Int).toNat]? = none := by
      simp; (first | lia | omega)
    rw [hr] at h
    rcases hor with hi | hi
    · rw [hi]
      wp_walk using wpAny_loadPart' hl, wpAny_loadPart' hb
      exact h
    · rw [hi]
      cases items[((i : Nat) : Int).toNat]? <;> (wp_walk using wpAny_loadPart' hl, wpAny_loadPart' hb; exact h)
  | succ k ih =>
    intro i hk prog w A R s h
    obtain ⟨hp, g, d, tk, os⟩ := s; obtain ⟨hl, hb, he, h⟩ := h
    wp_walk using wpAny_loadPart' hl, wpAny_loadPart' hb
    have hlt : i < items.size := n_lt_l hk
    have hlt2 : i < items2.size := n_lt_r hk
    have hi1 : items[((i : Nat) : Int).toNat]? = some items[i] := by simp [hlt]
    have hi2 : items2[((i : Nat) : Int).toNat]? = some items2[i] := by simp [hlt2]
    have hd : (items.toList.zip items2.toList).drop i = (items[i], items2[i]) :: (items.toList.zip items2.toList).drop (i + 1) := by
      rw [List.drop_eq_getElem_cons (by simp; (first | lia | omega))]; simp
    have hc : ((i : Int) + 1) = ((i + 1 : Nat) : Int) := by push_cast; rfl
    rw [hd] at he
    obtain ⟨e, he1, he2⟩ := he
    rw [hi1, hi2]
    refine wpAny_bind (he1 prog w _ _ ?_)
    cases e with
    | true =>
      simp only [if_true] at he2
      wp_walk
      rw [hc]
      exact ⟨plainId_quiet plain_eq_loop _, codeAny_builtin entry_eq_loop (by
        rw [Around.under_plainId plain_eq_loop _]
        exact ih (i + 1) (n_next hk) prog w A R _ ⟨hl, hb, he2, h⟩)⟩
    | false =>
      simp only [Bool.false_eq_true, if_false] at he2 ⊢
      refine wpAny_bind (listItems_at hl rfl (wpAny_bind (listItems_at hb rfl ?_)))
      rw [hi1, hi2]
      refine wpAny_bind (he2 prog w _ _ ?_)
      wp_walk
      exact h

theorem list_ltAt (l b : Addr) (items items2 : Array Value) (n n2 : Nat) (dd dd2 : Option Addr) (sl sl2 : Array (Option Value)) (r : Bool) :
    Meets (Builtin.«list.__lt__» ⟨[.ref l, .ref b], []⟩)
      (fun A R s => s.heap.get? l = some { cls := .type "list", dict := dd, data := .seq items n, slots := sl } ∧ s.heap.get? b = some { cls := .type "list", dict := dd2, data := .seq items2 n2, slots := sl2 } ∧
        LexAt A.in1 s (decide (items.size < items2.size)) (items.toList.zip items2.toList) r ∧ R (.ok (.ret (.bool r))) s) := by
  intro prog w A R s h
  obtain ⟨hp, g, d, tk, os⟩ := s; obtain ⟨hl, hb, he, h⟩ := h
  have f3 := AutoSeq1.sub_list_list
  wp_walk using wpAny_loadPart' hl, wpAny_loadPart' hb
  exact ⟨plainId_quiet plain_eq_loop _, codeAny_builtin entry_eq_loop (by
    rw [Around.under_plainId plain_eq_loop _]
    exact lt_loopAt l b items items2 n n2 dd dd2 sl sl2 r _ 0 rfl prog w A R _ ⟨hl, hb, by simpa using he, h⟩)⟩

theorem LtAt.lists {A : Around} {s : Shared} {l b : Addr} {items items2 : Array Value} {r : Bool} (hl : s.heap.IsList l items) (hb : s.heap.IsList b items2) (hu : A.units < cLine)
    (he : LexAt A.in1 s (decide (items.size < items2.size)) (items.toList.zip items2.toList) r) : LtAt A s (.ref l) (.ref b) r := fun prog w E Q h => by
  obtain ⟨⟨cls, dd, data, sl⟩, ho, hc, n, hd⟩ := id hl
  obtain ⟨⟨cls2, dd2, data2, sl2⟩, ho2, hc2, n2, hd2⟩ := id hb
  simp only at hc hd hc2 hd2
  subst hc hd hc2 hd2
  exact richCompare_meets_room (op := .Lt) ⟨_, ho, rfl⟩ ⟨_, ho2, rfl⟩ PySem.F.slot_list_lt PySem.F.entry_list_lt (PySem.F.args_list_lt_2 _ _) (list_ltAt l b items items2 n n2 dd dd2 sl sl2 r)
    ⟨ho, ho2, he, show Value.bool r ≠ Value.notImplemented ∧ Q (.bool r) s from ⟨(fun x => nomatch x), h⟩⟩ hu
theorem lt0_reads {da db : PyData} {A : Around} {s : Shared} {a b : Value} {as bs : List Addr} {r : Bool} (ra : Reads s.heap a da as) (rb : Reads s.heap b db bs) (e : lt0 da db = some r) : LtAt A s a b r := by
  cases ra with
  | int i t =>
    cases rb with
    | int j u => cases e; exact fun prog w E Q h => lt_int h
    | _ => cases e
  | str i t =>
    cases rb with
    | str j u => cases e; exact fun prog w E Q h => lt_str h
    | _ => cases e
  | _ => cases e
theorem lexAt_reads {A : Around} {s : Shared} {r fin : Bool} : ∀ (xs ys : List PyData) (vs ws : List Value) (as bs : List Addr), ReadsAll s.heap vs xs as → ReadsAll s.heap ws ys bs → PyData.canLayAll0 xs = true → PyData.canLayAll0 ys = true →
    A.units + min (PyData.depthAll xs) (PyData.depthAll ys) < cLine → ltAll xs ys = some r → fin = decide (xs.length < ys.length) → LexAt A s fin (vs.zip ws) r := by
  intro xs
  induction xs with
  | nil =>
    intro ys vs ws as bs ra rb ha hb hu e hf
    cases ra
    subst hf
    cases e
    exact rfl
  | cons x xs ih =>
    intro ys vs ws as bs ra rb ha hb hu e hf
    cases ra with
    | cons ra1 ra2 =>
      cases rb with
      | nil => cases e; rw [hf, List.zip_nil_right]; exact (decide_eq_false (Nat.not_lt_zero _)).symm
      | @cons _ ws' y ys _ _ rb1 rb2 =>
        simp only [PyData.canLayAll0, Bool.and_eq_true] at ha hb
        refine ⟨PyData.eqv x y, eqAt_reads x y A s _ _ _ _ ra1 rb1 ha.1 hb.1 (room_head (by simpa [PyData.depthAll] using hu)), ?_⟩
        have e : (if PyData.eqv x y = true then ltAll xs ys else lt0 x y) = some r := e
        cases he : PyData.eqv x y with
        | true =>
          rw [he, if_pos rfl] at e
          rw [if_pos rfl]
          exact ih _ _ _ _ _ ra2 rb2 ha.2 hb.2 (room_tail (by simpa [PyData.depthAll] using hu)) e (by rw [hf]; simp)
        | false =>
          rw [he, if_neg (by decide)] at e
          rw [if_neg (by decide)]
          exact lt0_reads ra1 rb1 e
theorem ltAt_reads (da db : PyData) (A : Around) (s : Shared) (a b : Value) (as bs : List Addr) (r : Bool) (ra : Reads s.heap a da as) (rb : Reads s.heap b db bs) (ha : da.canLay0 = true) (hb : db.canLay0 = true)
    (hu : A.units + min da.depth db.depth < cLine) (e : ltD da db = some r) : LtAt A s a b r := by
  cases ra with
  | list h1 h2 h3 h4 =>
    cases rb with
    | list k1 k2 k3 k4 =>
      refine LtAt.lists ⟨_, h1, h2, _, h3⟩ ⟨_, k1, k2, _, k3⟩ (room_here hu) ?_
      refine lexAt_reads _ _ _ _ _ _ h4 k4 ha hb (room_in hu) e ?_
      rw [← Array.length_toList, ← Array.length_toList, ReadsAll.length _ _ _ h4, ReadsAll.length _ _ _ k4]
    | _ => cases e
  | int i t => exact lt0_reads (.int i t) rb e
  | str i t => exact lt0_reads (.str i t) rb e
  | _ => cases e

noncomputable def ltV (a b : V) : M V := fun σ => match toD σ.st 6 a, toD σ.st 6 b with
  | some d, some d' => match ltD d d' with
    | some r => .ok (.bool r) σ
    | none => .stuck
  | _, _ => .stuck
theorem cmp_lt : CmpOk K .Lt ltV := by
  intro F fk σ ρ s a b wa wb rel ra rb
  unfold ltV
  cases e1 : toD σ.st 6 a with
  | none => exact Run.stuck
  | some d =>
    cases e2 : toD σ.st 6 b with
    | none => exact Run.stuck
    | some d' =>
      obtain ⟨as, r1, c1, p1⟩ := toD_reads rel.toGRel 6 a wa d e1 ra
      obtain ⟨bs, r2, c2, p2⟩ := toD_reads rel.toGRel 6 b wb d' e2 rb
      have hu := fk.units
      dsimp only
      cases e3 : ltD d d' with
      | none => exact Run.stuck
      | some r => exact Run.ok (ltAt_reads d d' F.A s wa wb as bs r r1 r2 c1 c2 (by (first | lia | omega)) e3 K.prog K.w _ _ ⟨ρ, rel, Ext.refl .., Rep.bool _⟩)

end

/-! part F11 -/
set_option autoImplicit false
set_option maxRecDepth 100000
set_option linter.unusedVariables false
open PySem PySem.W PyProof.Rows
section
variable {K : Glo} {F : Frm}

/-! ### ints -/
noncomputable def addV : V → V → M V
  | .int a, .int b => fun σ => .ok (.int (a + b)) σ
  | .obj l, .obj k => fun σ => match σ.st[l]?, σ.st[k]? with
    | some (.lst xs), some (.lst ys) => newL (xs ++ ys) σ
    | _, _ => .stuck
  | _, _ => fun _ => .stuck
noncomputable def subV : V → V → M V
  | .int a, .int b => fun σ => .ok (.int (a - b)) σ
  | _, _ => fun _ => .stuck
noncomputable def mulV : V → V → M V
  | .int a, .int b => fun σ => if -1000000000 < a ∧ a < 1000000000 then .ok (.int (a * b)) σ else .stuck
  | _, _ => fun _ => .stuck
noncomputable def fdivV : V → V → M V
  | .int a, .int b => fun σ => if 0 < b ∧ b < 1000000000 then .ok (.int (a / b)) σ else .stuck
  | _, _ => fun _ => .stuck
noncomputable def fmodV : V → V → M V
  | .int a, .int b => fun σ => if 0 < b ∧ b < 1000000000 then .ok (.int (a % b)) σ else .stuck
  | _, _ => fun _ => .stuck
noncomputable def shrV : V → V → M V
  | .int a, .int 1 => fun σ => if 0 ≤ a then .ok (.int (a / 2)) σ else .stuck
  | _, _ => fun _ => .stuck

theorem bin_add : BinOk K .Add addV := by
  intro F fk σ ρ s a b wa wb rel ra rb
  cases a with
  | int i =>
    cases b with
    | int j =>
      obtain ⟨t, rfl⟩ := Rep.int_iff.mp ra
      obtain ⟨u, rfl⟩ := Rep.int_iff.mp rb
      exact Run.ok (add_int ⟨ρ, rel.tok _, Ext.refl .., Rep.int ..⟩)
    | _ => exact Run.stuck
  | obj l =>
    cases b with
    | obj k =>
      unfold addV
      dsimp only
      cases hl : σ.st[l]? with
      | none => exact Run.stuck
      | some c =>
        cases c with
        | set _ => exact Run.stuck
        | itr _ _ _ => exact Run.stuck
        | lst xs =>
          cases hk : σ.st[k]? with
          | none => exact Run.stuck
          | some c' =>
            cases c' with
            | set _ => exact Run.stuck
            | itr _ _ _ => exact Run.stuck
            | lst ys =>
              dsimp only
              obtain ⟨x, ws, n, rfl, hρ, hL, hr, hn⟩ := rel.list ra hl
              obtain ⟨y, us, n', rfl, hρ', hL', hr', hn'⟩ := rel.list rb hk
              unfold newL
              by_cases hz : (xs ++ ys).length ≤ 1000000
              · rw [if_pos hz]
                obtain ⟨rel', x'⟩ := rel.newList (o := { cls := .type "list", data := .seq (ws ++ us).toArray }) rfl (hr.append hr') hz s.toks
                refine Run.ok (P.add_list hL hL' ?_ (sizeLine_ge (by simp only [List.size_toArray, hr.length, hr'.length]; simpa using hz)))
                rw [List.append_toArray]
                refine ⟨_, rel', x', Rep.obj_iff.mpr ⟨_, ?_, rfl⟩⟩
                rw [← rel.len, List.getElem?_concat_length]
              · rw [if_neg hz]; exact Run.stuck
    | _ => exact Run.stuck
  | _ => exact Run.stuck

theorem bin_sub : BinOk K .Sub subV := by
  intro F fk σ ρ s a b wa wb rel ra rb
  cases a with
  | int i =>
    cases b with
    | int j =>
      obtain ⟨t, rfl⟩ := Rep.int_iff.mp ra
      obtain ⟨u, rfl⟩ := Rep.int_iff.mp rb
      exact Run.ok (sub_int ⟨ρ, rel.tok _, Ext.refl .., Rep.int ..⟩)
    | _ => exact Run.stuck
  | _ => exact Run.stuck
theorem bin_mul : BinOk K .Mult mulV := by
  intro F fk σ ρ s a b wa wb rel ra rb
  cases a with
  | int i =>
    cases b with
    | int j =>
      obtain ⟨t, rfl⟩ := Rep.int_iff.mp ra
      obtain ⟨u, rfl⟩ := Rep.int_iff.mp rb
      unfold mulV
      dsimp only
      by_cases h : -1000000000 < i ∧ i < 1000000000
      · rw [if_pos h]
        exact Run.ok (mul_int ⟨ρ, rel.tok _, Ext.refl .., Rep.int ..⟩ (IntMulOk.of_left (intBits_le_64 (by (first | lia | omega)) (by (first | lia | omega)))))
      · rw [if_neg h]; exact Run.stuck
    | _ => exact Run.stuck
  | _ => exact Run.stuck
theorem fdiv_pos {a b : Int} (h : 0 < b) : a.fdiv b = a / b := Int.fdiv_eq_ediv_of_nonneg _ (Int.le_of_lt h)
theorem fmod_pos {a b : Int} (h : 0 < b) : a.fmod b = a % b := Int.fmod_eq_emod_of_nonneg _ (Int.le_of_lt h)
theorem bin_fdiv : BinOk K .FloorDiv fdivV := by
  intro F fk σ ρ s a b wa wb rel ra rb
  cases a with
  | int i =>
    cases b with
    | int j =>
      obtain ⟨t, rfl⟩ := Rep.int_iff.mp ra
      obtain ⟨u, rfl⟩ := Rep.int_iff.mp rb
      unfold fdivV
      dsimp only
      by_cases h : 0 < j ∧ j < 1000000000
      · rw [if_pos h]
        refine Run.ok (floordiv_int (Int.ne_of_gt h.1) ⟨ρ, rel.tok _, Ext.refl .., ?_⟩ (Or.inl (PyProof.noPylong_small (by (first | lia | omega)))))
        rw [fdiv_pos h.1]; exact Rep.int ..
      · rw [if_neg h]; exact Run.stuck
    | _ => exact Run.stuck
  | _ => exact Run.stuck
theorem bin_fmod : BinOk K .Mod fmodV := by
  intro F fk σ ρ s a b wa wb rel ra rb
  cases a with
  | int i =>
    cases b with
    | int j =>
      obtain ⟨t, rfl⟩ := Rep.int_iff.mp ra
      obtain ⟨u, rfl⟩ := Rep.int_iff.mp rb
      unfold fmodV
      dsimp only
      by_cases h : 0 < j ∧ j < 1000000000
      · rw [if_pos h]
        refine Run.ok (mod_int' (Int.ne_of_gt h.1) ⟨ρ, rel.tok _, Ext.refl .., ?_⟩)
        rw [fmod_pos h.1]; exact Rep.int ..
      · rw [if_neg h]; exact Run.stuck
    | _ => exact Run.stuck
  | _ => exact Run.stuck
theorem bin_shr : BinOk K .RShift shrV := by
  intro F fk σ ρ s a b wa wb rel ra rb
  cases a with
  | int i =>
    cases b with
    | int j =>
      by_cases hj : j = 1
      · subst hj
        obtain ⟨t, rfl⟩ := Rep.int_iff.mp ra
        obtain ⟨u, rfl⟩ := Rep.int_iff.mp rb
        show Run K F _ (Rep K) (if 0 ≤ i then .ok (V.int (i / 2)) σ else .stuck) ρ s
        by_cases h : 0 ≤ i
        · rw [if_pos h]
          exact Run.ok (wpAny_rshift1_int h ⟨ρ, rel.tok _, Ext.refl .., Rep.int ..⟩)
        · rw [if_neg h]; exact Run.stuck
      · have : shrV (.int i) (.int j) = fun _ => .stuck := by
          funext σ
          show shrV (.int i) (.int j) σ = _
          match j, hj with
          | 0, _ => rfl
          | 1, h => exact absurd rfl h
          | (n + 2 : Nat), _ => rfl
          | Int.negSucc n, _ => rfl
        rw [this]; exact Run.stuck
    | _ => exact Run.stuck
  | _ => exact Run.stuck

noncomputable def negV : V → M V
  | .int a => fun σ => .ok (.int (-a)) σ
  | _ => fun _ => .stuck
noncomputable def leV : V → V → M V
  | .int a, .int b => fun σ => .ok (.bool (decide (a ≤ b))) σ
  | _, _ => fun _ => .stuck
noncomputable def gtV : V → V → M V
  | .int a, .int b => fun σ => .ok (.bool (decide (b < a))) σ
  | _, _ => fun _ => .stuck
noncomputable def geV : V → V → M V
  | .int a, .int b => fun σ => .ok (.bool (decide (b ≤ a))) σ
  | _, _ => fun _ => .stuck
theorem cmp_gt : CmpOk K .Gt gtV := by
  intro F fk σ ρ s a b wa wb rel ra rb
  cases a with
  | int i =>
    cases b with
    | int j =>
      obtain ⟨t, rfl⟩ := Rep.int_iff.mp ra
      obtain ⟨u, rfl⟩ := Rep.int_iff.mp rb
      exact Run.ok (gt_int ⟨ρ, rel, Ext.refl .., Rep.bool _⟩)
    | _ => exact Run.stuck
  | _ => exact Run.stuck
theorem cmp_ge : CmpOk K .GtE geV := by
  intro F fk σ ρ s a b wa wb rel ra rb
  cases a with
  | int i =>
    cases b with
    | int j =>
      obtain ⟨t, rfl⟩ := Rep.int_iff.mp ra
      obtain ⟨u, rfl⟩ := Rep.int_iff.mp rb
      exact Run.ok (ge_int ⟨ρ, rel, Ext.refl .., Rep.bool _⟩)
    | _ => exact Run.stuck
  | _ => exact Run.stuck

/-! ### truth -/
noncomputable def truV : V → M Bool
  | .bool b => fun σ => .ok b σ
  | .obj l => fun σ => match σ.st[l]? with
    | some (.lst vs) => .ok (!vs.isEmpty) σ
    | _ => .stuck
  | _ => fun _ => .stuck
theorem tru_ok : TruOk K truV := by
  intro F fk σ ρ s a wa rel ra
  cases a with
  | bool b => rw [Rep.bool_iff.mp ra]; exact Run.ok (wpAny_truthy_bool ⟨ρ, rel, Ext.refl .., rfl⟩)
  | obj l =>
    unfold truV
    dsimp only
    cases hl : σ.st[l]? with
    | none => exact Run.stuck
    | some c =>
      cases c with
      | set _ => exact Run.stuck
      | itr _ _ _ => exact Run.stuck
      | lst xs =>
        obtain ⟨x, ws, n, rfl, hρ, hL, hr, hn⟩ := rel.list ra hl
        refine Run.ok (wpAny_truthy_list hL.isList (by rw [List.size_toArray, hr.length]; (first | lia | omega)) ⟨ρ, rel.tok _, Ext.refl .., ?_⟩)
        show (!ws.toArray.isEmpty) = !xs.isEmpty
        have := hr.length
        cases ws <;> cases xs <;> simp_all
  | _ => exact Run.stuck

/-! ### built-ins -/
noncomputable def lenB : List V → M V
  | [.obj l] => fun σ => match σ.st[l]? with
    | some (.lst vs) => .ok (.int vs.length) σ
    | _ => .stuck
  | _ => fun _ => .stuck
theorem built_len : BuiltOk K (.builtin "len") lenB := by
  intro F fk hnh σ ρ s vs ws rel r
  rcases (show lenB vs σ = .stuck ∨ ∃ x, vs = [.obj x] by
    rcases vs with _ | ⟨v, _ | ⟨u, r⟩⟩
    · exact .inl rfl
    · cases v <;> first | exact .inl rfl | exact .inr ⟨_, rfl⟩
    · cases v <;> exact .inl rfl) with h | ⟨l, rfl⟩
  · rw [h]; exact Run.stuck
  unfold lenB
  dsimp only
  · obtain ⟨w, ws', rfl, r1, r2⟩ := RepL.cons_iff.mp r
    rw [RepL.nil_iff.mp r2]
    cases hl : σ.st[l]? with
    | none => exact Run.stuck
    | some c =>
      cases c with
      | set _ => exact Run.stuck
      | itr _ _ _ => exact Run.stuck
      | lst xs =>
        obtain ⟨x, ws, n, rfl, hρ, hL, hr, hn⟩ := rel.list r1 hl
        refine Run.ok (PySem.Calls.call_len_list hL.isList (by rw [List.size_toArray, hr.length]; (first | lia | omega)) ⟨ρ, rel.tok _, Ext.refl .., ?_⟩)
        rw [List.size_toArray, hr.length]; exact Rep.int ..

end

/-! part F12 -/
set_option autoImplicit false
set_option maxRecDepth 100000
set_option linter.unusedVariables false
open PySem PySem.W PyProof.Rows
section
variable {K : Glo} {F : Frm}

/-! ### slices of lists -/
noncomputable def SimO (K : Glo) (F : Frm) (e : Option Expr) (m : M V) : Prop := ∀ σ ρ s, Rel K F σ ρ s → Run K F (valueOrNone (evalOpt e F.env)) (Rep K) (m σ) ρ s
theorem simO_none : SimO K F none (pure .none) := fun _ _ _ rel => Run.pure rel Rep.none
theorem simO_some {e : Expr} {m : M V} (h : SimE K F e m) : SimO K F (some e) m := h

noncomputable def SlRep (K : Glo) (h : Heap) (ρ : List Addr) (p : V × V × V) (w : Value) : Prop := ∃ ad va vb vc, w = .ref ad ∧ h.IsSliceOf ad va vb vc ∧ Rep K h ρ p.1 va ∧ Rep K h ρ p.2.1 vb ∧ Rep K h ρ p.2.2 vc

theorem run_Slice {lo hi st : Option Expr} {ml mh ms : M V} (p : Pos) (h1 : SimO K F lo ml) (h2 : SimO K F hi mh) (h3 : SimO K F st ms) {σ : S} {ρ : List Addr} {s : Shared} (rel : Rel K F σ ρ s) :
    Run K F (eval (.Slice lo hi st p) F.env) (SlRep K) ((do let a ← ml; let b ← mh; let c ← ms; pure (a, b, c) : M (V × V × V)) σ) ρ s := by
  show Run K F (do
    let l ← valueOrNone (evalOpt lo F.env)
    let u ← holding [l] (valueOrNone (evalOpt hi F.env))
    let s ← holding [l, u] (valueOrNone (evalOpt st F.env))
    newFields "slice" [l, u, s]) _ _ ρ s
  refine Run.bind (h1 σ ρ s rel) fun a σ₁ ρ₁ s₁ wa _ rel₁ x₁ ra => ?_
  refine Run.bind (Run.holding (h2 σ₁ ρ₁ s₁ rel₁)) fun b σ₂ ρ₂ s₂ wb _ rel₂ x₂ rb => ?_
  refine Run.bind (Run.holding (h3 σ₂ ρ₂ s₂ rel₂)) fun c σ₃ ρ₃ s₃ wc _ rel₃ x₃ rc => ?_
  have x' : Ext F.mine ρ₃ ρ₃ s₃.heap (s₃.heap.push { cls := .type "slice", data := .fields #[wa, wb, wc] }) := Ext.push _
  refine Run.ok (wpAny_newObj_type ⟨ρ₃, rel₃.push _ s₃.toks, x', ?_⟩)
  exact ⟨_, wa, wb, wc, rfl, Heap.IsSliceOf.new .., ((ra.mono x₂).mono x₃).mono x', (rb.mono x₃).mono x', rc.mono x'⟩

noncomputable def partO : V → Option (Option Int)
  | .none => some none
  | .int i => some (some i)
  | _ => none
theorem partO_is {h : Heap} {ρ : List Addr} {v : V} {w : Value} {k : Option Int} (r : Rep K h ρ v w) (e : partO v = some k) : IsPart w k := by
  cases v with
  | none => rw [Rep.none_iff.mp r]; cases e; exact .none
  | int i => obtain ⟨t, rfl⟩ := Rep.int_iff.mp r; cases e; exact .int i t
  | _ => cases e

noncomputable def pickV {α : Type} (vs : List α) (lo hi st : Option Int) : List α :=
  (sliceRange (sliceBounds lo hi st vs.length).1 (sliceBounds lo hi st vs.length).2.1 (sliceBounds lo hi st vs.length).2.2).filterMap (vs[·]?)

theorem pick_rep {h : Heap} {ρ : List Addr} {vs : List V} {ws : List Value} (r : RepL K h ρ vs ws) : ∀ (is : List Nat), RepL K h ρ (is.filterMap (vs[·]?)) (is.filterMap (ws[·]?))
  | [] => RepL.nil
  | i :: is => by
    rw [List.filterMap_cons, List.filterMap_cons]
    cases e : vs[i]? with
    | none =>
      have : ws[i]? = none := by
        rw [List.getElem?_eq_none_iff] at e ⊢
        rw [r.length]; exact e
      rw [this]
      exact pick_rep r is
    | some v =>
      obtain ⟨w, hw, q⟩ := r.get? e
      rw [hw]
      exact RepL.cons q (pick_rep r is)

theorem pickV_length {vs : List V} {ws : List Value} {h : Heap} {ρ : List Addr} (r : RepL K h ρ vs ws) (lo hi st : Option Int) : (pickV vs lo hi st).length ≤ vs.length := by
  have h1 := slicePick_size_le ws.toArray lo hi st
  have h2 : (pickV vs lo hi st).length = (slicePick ws.toArray lo hi st).size := by
    unfold slicePick
    rw [List.size_toArray]
    have := (pick_rep (K := K) r (sliceRange (sliceBounds lo hi st vs.length).1 (sliceBounds lo hi st vs.length).2.1 (sliceBounds lo hi st vs.length).2.2)).length
    rw [List.size_toArray, r.length]
    unfold pickV
    simp only [List.getElem?_toArray]
    exact this.symm
  rw [h2]
  refine Nat.le_trans h1 ?_
  rw [List.size_toArray, r.length]; exact Nat.le_refl _

noncomputable def sliceV : V → V × V × V → M V
  | .obj l, (a, b, c) => fun σ => match σ.st[l]?, partO a, partO b, partO c with
    | some (.lst vs), some lo, some hi, some st => if st = some 0 then .stuck else .ok (.obj σ.st.length) { σ with st := σ.st ++ [.lst (pickV vs lo hi st)] }
    | _, _, _, _ => .stuck
  | _, _ => fun _ => .stuck

theorem simE_slice (fk : FOk F) {value : Expr} {lo hi st : Option Expr} {mv ml mh ms : M V} (p pos : Pos) (hv : SimE K F value mv) (h1 : SimO K F lo ml) (h2 : SimO K F hi mh) (h3 : SimO K F st ms) {ops : Value → Value → List Value}
    (hs : ∀ o i, subscripted (.Slice lo hi st p) false o i = PySem.operate (ops o i) (getItem o i) := by intro _ _; rfl) :
    SimE K F (.Subscript value (.Slice lo hi st p) pos) (do let o ← mv; let i ← (do let a ← ml; let b ← mh; let c ← ms; pure (a, b, c)); sliceV o i) := by
  intro σ ρ s rel
  rw [eval_Subscript]
  refine Run.bind (hv σ ρ s rel) fun a σ₁ ρ₁ s₁ wa _ rel₁ x₁ ra => ?_
  refine Run.bind (Run.holding (run_Slice p h1 h2 h3 rel₁)) fun b σ₂ ρ₂ s₂ wb _ rel₂ x₂ rb => ?_
  refine Run.standAt ?_
  show Run K F (subscriptTail value (.Slice lo hi st p) wa wb) (Rep K) (sliceV a b σ₂) ρ₂ s₂
  obtain ⟨b1, b2, b3⟩ := b
  obtain ⟨ad, va, vb, vc, rfl, hsl, r1, r2, r3⟩ := rb
  cases a with
  | obj l =>
    unfold sliceV
    dsimp only
    cases hl : σ₂.st[l]? with
    | none => exact Run.stuck
    | some c =>
      cases c with
      | set _ => exact Run.stuck
      | itr _ _ _ => exact Run.stuck
      | lst vs =>
        cases e1 : partO b1 with
        | none => exact Run.stuck
        | some o1 =>
          cases e2 : partO b2 with
          | none => exact Run.stuck
          | some o2 =>
            cases e3 : partO b3 with
            | none => exact Run.stuck
            | some o3 =>
              dsimp only
              by_cases h0 : o3 = some 0
              · rw [if_pos h0]; exact Run.stuck
              · rw [if_neg h0]
                obtain ⟨x, ws, n, rfl, hρ, hL, hr, hn⟩ := rel₂.list (ra.mono x₂) hl
                have hlen := pickV_length hr o1 o2 o3
                have e : (slicePick ws.toArray o1 o2 o3) = ((sliceRange (sliceBounds o1 o2 o3 vs.length).1 (sliceBounds o1 o2 o3 vs.length).2.1 (sliceBounds o1 o2 o3 vs.length).2.2).filterMap (ws[·]?)).toArray := by
                  unfold slicePick
                  rw [List.size_toArray, hr.length]
                  simp only [List.getElem?_toArray]
                obtain ⟨rel', x'⟩ := rel₂.newList (o := { cls := .type "list", data := .seq (slicePick ws.toArray o1 o2 o3) }) (vs := pickV vs o1 o2 o3) (by rw [e]) (pick_rep hr _) (Nat.le_trans hlen hn) s₂.toks
                refine Run.ok (tail_any hL.isList.typeIs slot_list_getitem.lookup (wpAny_getItem_list_slice hL.isList hsl (partO_is r1 e1) (partO_is r2 e2) (partO_is r3 e3) h0 ?_ (sizeLine_ge (by rw [List.size_toArray, hr.length]; exact hn))) (hs _ _))
                refine ⟨_, rel', x', Rep.obj_iff.mpr ⟨_, ?_, rfl⟩⟩
                rw [← rel₂.len, List.getElem?_concat_length]
  | _ => exact Run.stuck

/-! ### methods of lists -/
noncomputable def appendG : V → List V → M V
  | .obj l, [v] => fun σ => match σ.st[l]? with
    | some (.lst vs) => if l ≠ 0 ∧ vs.length < 1000000 then .ok .none { σ with st := σ.st.set l (.lst (vs ++ [v])) } else .stuck
    | _ => .stuck
  | _, _ => fun _ => .stuck
theorem meth_append : MethOk K "list.append" appendG := by
  intro F fk hnh σ ρ s o wo vs ws rel ro r
  rcases (show appendG o vs σ = .stuck ∨ ∃ x v, o = .obj x ∧ vs = [v] by
    rcases vs with _ | ⟨v, _ | ⟨u, r⟩⟩
    · cases o <;> exact .inl rfl
    · cases o <;> first | exact .inl rfl | exact .inr ⟨_, _, rfl, rfl⟩
    · cases o <;> exact .inl rfl) with h | ⟨l, v, rfl, rfl⟩
  · rw [h]; exact Run.stuck
  unfold appendG
  dsimp only
  · obtain ⟨w, ws', rfl, r1, r2⟩ := RepL.cons_iff.mp r
    rw [RepL.nil_iff.mp r2]
    cases hl : σ.st[l]? with
    | none => exact Run.stuck
    | some c =>
      cases c with
      | set _ => exact Run.stuck
      | itr _ _ _ => exact Run.stuck
      | lst xs =>
        dsimp only
        obtain ⟨x, us, n, rfl, hρ, hL, hr, hn⟩ := rel.list ro hl
        by_cases hz : l ≠ 0 ∧ xs.length < 1000000
        · rw [if_pos hz]
          refine Run.ok (call_meets PySem.F.slot_list_append ⟨_, hL, rfl⟩ PySem.F.entry_list_append (PySem.F.args_list_append_2 _ _) (list_append x us.toArray n w (sizeLine_ge (by rw [List.size_toArray, hr.length]; exact hn))) ⟨hL, ?_⟩)
          obtain ⟨rel', x'⟩ := rel.upd (s' := { s with heap := s.heap.update x (Obj.mapSeq fun y => y.push w) }) (vs := xs ++ [v]) (ws := us ++ [w]) hρ hz.1 (Heap.SameBut.update ..) (by
            have := hL.update (fun y => y.push w)
            rw [List.push_toArray] at this
            exact this) (hr.append (RepL.cons r1 RepL.nil)) (by have := hz.2; simp; (first | lia | omega)) rfl rfl
          exact ⟨ρ, rel', x', Rep.none⟩
        · rw [if_neg hz]; exact Run.stuck

noncomputable def pop0G : V → List V → M V
  | .obj l, [] => fun σ => if l = 0 then .stuck else match σ.st[l]? with
    | some (.lst vs) => match vs[vs.length - 1]? with
      | some v => .ok v { σ with st := σ.st.set l (.lst (vs.eraseIdx (vs.length - 1))) }
      | none => .exc ⟨"IndexError", Str.ofString "pop from empty list"⟩ σ
    | _ => .stuck
  | _, _ => fun _ => .stuck
theorem erase_toArray (us : List Value) (j : Nat) : us.toArray.eraseIdxIfInBounds j = (us.eraseIdx j).toArray := by
  by_cases h : j < us.length
  · unfold Array.eraseIdxIfInBounds
    rw [dif_pos (by simpa using h)]
    simp
  · unfold Array.eraseIdxIfInBounds
    rw [dif_neg (by simpa using h), List.eraseIdx_of_length_le (by (first | lia | omega))]
theorem meth_pop0 : MethOk K "list.pop" pop0G := by
  intro F fk hnh σ ρ s o wo vs ws rel ro r
  rcases (show pop0G o vs σ = .stuck ∨ ∃ x, o = .obj x ∧ vs = [] by
    cases o with
    | obj l => cases vs with
      | nil => exact .inr ⟨_, rfl, rfl⟩
      | cons v r => exact .inl rfl
    | _ => exact .inl rfl) with h | ⟨l, rfl, rfl⟩
  · rw [h]; exact Run.stuck
  unfold pop0G
  dsimp only
  rw [RepL.nil_iff.mp r]
  by_cases hl0 : l = 0
  · simp only [if_pos hl0]; exact Run.stuck
  simp only [if_neg hl0]
  cases hl : σ.st[l]? with
  | none => exact Run.stuck
  | some c =>
    cases c with
    | set _ => exact Run.stuck
    | itr _ _ _ => exact Run.stuck
    | lst xs =>
      dsimp only
      obtain ⟨x, us, n, rfl, hρ, hL, hr, hn⟩ := rel.list ro hl
      cases hv : xs[xs.length - 1]? with
      | none =>
        have hx0 : us = [] := by
          have h1 := hr.length
          rw [List.getElem?_eq_none_iff] at hv
          exact List.eq_nil_of_length_eq_zero (by (first | lia | omega))
        subst hx0
        exact call_meets PySem.F.slot_list_pop ⟨_, hL, rfl⟩ PySem.F.entry_list_pop (PySem.F.args_list_pop_1 _) (pop_empty x n) ⟨fk.hd hnh, hL, x_made rel (by decide)⟩
      | some v =>
        obtain ⟨w, hw, rw'⟩ := hr.get? hv
        refine Run.ok (call_meets PySem.F.slot_list_pop ⟨_, hL, rfl⟩ PySem.F.entry_list_pop (PySem.F.args_list_pop_1 _) (PySem.MeetsSeq.list_pop_last x us.toArray n w (by simpa [hr.length] using hw) (sizeLine_ge (by rw [List.size_toArray, hr.length]; exact hn))) ⟨hL, ?_⟩)
        rw [List.size_toArray, hr.length]
        obtain ⟨rel', x'⟩ := rel.upd (s' := { s with heap := s.heap.update x (Obj.mapSeq fun y => y.eraseIdxIfInBounds (xs.length - 1)) }) (vs := xs.eraseIdx (xs.length - 1)) (ws := us.eraseIdx (xs.length - 1)) hρ hl0 (Heap.SameBut.update ..) (by
          have := hL.update (fun y => y.eraseIdxIfInBounds (xs.length - 1))
          rw [erase_toArray] at this
          exact this) (hr.eraseIdx _) (Nat.le_trans (List.length_eraseIdx_le ..) hn) rfl rfl
        exact ⟨ρ, rel', x', rw'.mono x'⟩
end

/-! part F13 -/
set_option autoImplicit false
set_option maxRecDepth 100000
set_option linter.unusedVariables false
open PySem PySem.W PyProof.Rows
section
variable {K : Glo} {F : Frm}

noncomputable def rngLen (a b c : Int) : Nat := (Builtin.Range.rangeSize a b c).toNat
noncomputable def nxtOf : V → S → Nat → Option (Option V)
  | .obj l => fun σ i => match σ.st[l]? with
    | some (.lst vs) => some vs[i]?
    | _ => none
  | .tup vs => fun _ i => some vs[i]?
  | .rng a b c => fun _ i => some (if i < rngLen a b c then some (.int (a + i * c)) else none)
  | _ => fun _ _ => none
noncomputable def okIter : V → M Unit
  | .obj l => chkL (.obj l)
  | .tup _ => fun σ => .ok () σ
  | .rng a b c => fun σ => if Builtin.Range.small a b c = true then .ok () σ else .stuck
  | _ => fun _ => .stuck

theorem rangeSize_nonneg (a b c : Int) : 0 ≤ Builtin.Range.rangeSize a b c := by
  unfold Builtin.Range.rangeSize
  split
  · split
    · have := Int.ediv_nonneg (a := b - a - 1) (b := c) (by (first | lia | omega)) (by (first | lia | omega)); (first | lia | omega)
    · (first | lia | omega)
  · split
    · have := Int.ediv_nonneg (a := a - b - 1) (b := -c) (by (first | lia | omega)) (by (first | lia | omega)); (first | lia | omega)
    · (first | lia | omega)
theorem rngLen_eq (a b c : Int) : ((rngLen a b c : Nat) : Int) = Builtin.Range.rangeSize a b c := Int.toNat_of_nonneg (rangeSize_nonneg a b c)

theorem iter_list {ρ₀ : List Addr} {h₀ : Heap} {I a : Addr} {l : Nat} (fk : FOk F) (hnh : F.nh = true) (hρ : ρ₀[l]? = some a) :
    Iter K F I (fun i o => o.cls = .type "list_iterator" ∧ o.data = .fields #[.ref a, .int i 0]) (nxtOf (.obj l)) ρ₀ h₀ := by
  refine ⟨fun i o h => ⟨_, _, h.2, h.1, by decide, by decide⟩, fun i o s A Q E e h q => wpAny_pyIter_listiter ⟨o, e, h.1, h.2⟩ q, ?_⟩
  intro σ ρ s i o rel x ho hs
  have hρ' := getElem?_prefix x.pre hρ
  unfold nxtOf
  dsimp only
  cases hl : σ.st[l]? with
  | none => trivial
  | some c =>
    cases c with
    | set _ => trivial
    | itr _ _ _ => trivial
    | lst vs =>
      dsimp only
      obtain ⟨_, ws, n, hL, hr⟩ := rel.cell l a _ hρ' hl
      cases hv : vs[i]? with
      | none =>
        have hw : ws.toArray[i]? = none := by
          have : ws[i]? = none := by rw [List.getElem?_eq_none_iff] at hv ⊢; rw [hr.length]; exact hv
          simpa using this
        exact wpAny_pyNext_list_end (fk.hd hnh) ⟨o, ho, hs.1, hs.2⟩ hL.isList hw fun h' hx => ⟨rfl, hx, rfl, rfl⟩
      | some v =>
        obtain ⟨w, hw, q⟩ := hr.get? hv
        refine wpAny_pyNext_list_item ⟨o, ho, hs.1, hs.2⟩ hL.isList (by simpa using hw) fun h' hit hsb => ⟨w, rfl, hsb.extBut, rfl, rfl, ?_, ?_⟩
        · obtain ⟨o', e, c, d⟩ := hit; exact ⟨o', e, c, d⟩
        · refine Rep.mono' (List.prefix_refl _) (fun b o' e f => hsb.extBut b o' ?_ e) q
          exact hid_ne_froz ho hs.2 (by rw [hs.1]; decide) e f

theorem iter_range {ρ₀ : List Addr} {h₀ : Heap} {I : Addr} {a b c : Int} (fk : FOk F) (hnh : F.nh = true) :
    Iter K F I (fun i o => i ≤ rngLen a b c ∧ o = { cls := .type "range_iterator", dict := none, data := .fields #[rawInt (a + i * c), rawInt ((rngLen a b c : Int) - i), rawInt c], slots := #[] }) (nxtOf (.rng a b c)) ρ₀ h₀ := by
  refine ⟨fun i o h => by obtain ⟨_, rfl⟩ := h; exact ⟨_, _, rfl, rfl, by decide, by decide⟩, fun i o s A Q E e h q => by obtain ⟨_, rfl⟩ := h; exact wpAny_pyIter_rangeiter e q, ?_⟩
  intro σ ρ s i o rel x ho hs
  obtain ⟨hi, rfl⟩ := hs
  unfold nxtOf
  dsimp only
  by_cases hlt : i < rngLen a b c
  · rw [if_pos hlt]
    dsimp only
    refine wpAny_pyNext_range_item ho (by (first | lia | omega)) fun h' hit hsb => ⟨_, rfl, hsb.extBut, rfl, rfl, ⟨_, hit, by (first | lia | omega), ?_⟩, Rep.int ..⟩
    have e1 : a + ((i + 1 : Nat) : Int) * c = a + (i : Int) * c + c := by rw [Int.natCast_add, Int.add_mul]; simp [Int.add_assoc]
    have e2 : ((rngLen a b c : Nat) : Int) - ((i + 1 : Nat) : Int) = (rngLen a b c : Int) - (i : Int) - 1 := by (first | lia | omega)
    rw [e1, e2]
  · rw [if_neg hlt]
    dsimp only
    exact wpAny_pyNext_range_end (fk.hd hnh) ho (by (first | lia | omega)) fun h' hx => ⟨rfl, hx, rfl, rfl⟩

theorem iter_tuple {ρ₀ : List Addr} {h₀ : Heap} {I a : Addr} {vs : List V} {ws : List Value} (fk : FOk F) (hnh : F.nh = true) (ht : IsTup h₀ a ws.toArray) (hr : RepL K h₀ ρ₀ vs ws) :
    Iter K F I (fun i o => o.cls = .type "tuple_iterator" ∧ o.data = .fields #[.ref a, .int i 0]) (nxtOf (.tup vs)) ρ₀ h₀ := by
  refine ⟨fun i o h => ⟨_, _, h.2, h.1, by decide, by decide⟩, fun i o s A Q E e h q => wpAny_pyIter_tupleiter ⟨o, e, h.1, h.2⟩ q, ?_⟩
  intro σ ρ s i o rel x ho hs
  have ht' : s.heap.IsTuple a ws.toArray := by
    obtain ⟨o', e, c, n, d⟩ := ht
    exact ⟨o', x.froz a o' e (.inl ⟨c, _, n, d⟩), c, n, d⟩
  have hr' := hr.mono x
  unfold nxtOf
  dsimp only
  cases hv : vs[i]? with
  | none =>
    have hw : ws.toArray[i]? = none := by
      have : ws[i]? = none := by rw [List.getElem?_eq_none_iff] at hv ⊢; rw [hr.length]; exact hv
      simpa using this
    exact wpAny_pyNext_tuple_end (fk.hd hnh) ⟨o, ho, hs.1, hs.2⟩ ht' hw fun h' hx => ⟨rfl, hx, rfl, rfl⟩
  | some v =>
    obtain ⟨w, hw, q⟩ := hr'.get? hv
    refine wpAny_pyNext_tuple_item ⟨o, ho, hs.1, hs.2⟩ ht' (by simpa using hw) fun h' hit hsb => ⟨w, rfl, hsb.extBut, rfl, rfl, ?_, ?_⟩
    · obtain ⟨o', e, c, d⟩ := hit; exact ⟨o', e, c, d⟩
    · refine Rep.mono' (List.prefix_refl _) (fun b o' e f => hsb.extBut b o' ?_ e) q
      exact hid_ne_froz ho hs.2 (by rw [hs.1]; decide) e f

theorem fresh_facts {σ : S} {ρ : List Addr} {s : Shared} (rel : Rel K F σ ρ s) : s.heap.get? s.heap.objs.size = none ∧ K.base.get? s.heap.objs.size = none ∧ s.heap.objs.size ∉ F.mine ∧ s.heap.objs.size ∉ ρ := by
  have h0 : s.heap.get? s.heap.objs.size = none := Heap.get?_none_of_le (Nat.le_refl _)
  refine ⟨h0, ?_, ?_, ?_⟩
  · cases e : K.base.get? s.heap.objs.size with
    | none => rfl
    | some o => have := rel.base _ _ e; rw [h0] at this; cases this
  · intro h
    obtain ⟨_, o, e⟩ := rel.mineAbove _ h
    rw [h0] at e; cases e
  · intro h
    obtain ⟨o, e, _⟩ := rel.toGRel.alive h
    rw [h0] at e; cases e

theorem simS_for (fk : FOk F) {target iter : Expr} {body : List Stmt} {mi : M V} {t : V → M Unit} {b : M Fl} (pos : Pos) (n : Nat) (hi : SimE K F iter mi) (ht : SimT K F target t) (hb : SimSs K F body b)
    (hs : ∀ x, foldedSetIterable iter F.env x = pure x := by intro _; rfl) (hnh : F.nh = true := by rfl) :
    SimS K F (.For target iter body [] pos) (do let v ← mi; okIter v; forG (nxtOf v) t b n 0) := by
  intro σ ρ s rel
  rw [exec_For]
  refine Run.standAt (Run.bind (hi σ ρ s rel) fun v σ₁ ρ₁ s₁ w _ rel₁ x₁ rv => ?_)
  rw [hs w, pureBind]
  refine Run.standAt ?_
  refine Run.of_wp fun hne => ?_
  obtain ⟨f0, f1, f2, f3⟩ := fresh_facts rel₁
  have hok : okIter v σ₁ = .ok () σ₁ ∧ (okIter v >>= fun _ => forG (nxtOf v) t b n 0) σ₁ = forG (nxtOf v) t b n 0 σ₁ := by
    have : okIter v σ₁ = .ok () σ₁ := by
      cases v with
      | obj l =>
        show chkL (.obj l) σ₁ = _
        cases hc : σ₁.st[l]? with
        | none => exact absurd (by rw [M.bind_def]; simp only [okIter, chkL, hc]) hne
        | some c =>
          cases c with
          | lst us => exact chkL_ok hc
          | set _ => exact absurd (by rw [M.bind_def]; simp only [okIter, chkL, hc]) hne
          | itr _ _ _ => exact absurd (by rw [M.bind_def]; simp only [okIter, chkL, hc]) hne
      | tup vs => rfl
      | rng a b' c =>
        unfold okIter
        by_cases hsm : Builtin.Range.small a b' c = true
        · simp only [hsm, if_true]
        · exact absurd (by rw [M.bind_def]; simp only [okIter, hsm]; rfl) hne
      | _ => exact absurd (by rw [M.bind_def]; rfl) hne
    exact ⟨this, M.bind_ok this⟩
  rw [hok.2] at hne ⊢
  cases v with
  | obj l =>
    obtain ⟨a, hρ, rfl⟩ := Rep.obj_iff.mp rv
    obtain ⟨us, hus⟩ := chkL_list hok.1
    obtain ⟨_, ws, n', hL', _⟩ := rel₁.cell l a _ hρ hus
    have hL := hL'.isList
    refine wpAny_bind (wpAny_holding (wpAny_pyIter_list hL ?_))
    exact run_forLoop ht hb (iter_list fk hnh hρ) (rel₁.push _ s₁.toks) (Ext.push _) f0 f1 f2 f3 (Heap.get?_push_size _ rfl) ⟨rfl, rfl⟩ n hne
  | tup vs =>
    obtain ⟨_, a, ws, rfl, htp, hr⟩ := Rep.tup_iff.mp rv
    refine wpAny_bind (wpAny_holding (wpAny_pyIter_tuple htp ?_))
    exact run_forLoop ht hb (iter_tuple fk hnh htp hr) (rel₁.push _ s₁.toks) (Ext.push _) f0 f1 f2 f3 (Heap.get?_push_size _ rfl) ⟨rfl, rfl⟩ n hne
  | rng a b' c =>
    obtain ⟨r, t', u, v', rfl, hR⟩ := Rep.rng_iff.mp rv
    have hsm : Builtin.Range.small a b' c = true := by
      by_cases h : Builtin.Range.small a b' c = true
      · exact h
      · have := hok.1; simp only [okIter, h] at this; cases this
    refine wpAny_bind (wpAny_holding (wpAny_pyIter_range hR hsm ?_))
    refine run_forLoop ht hb (iter_range (a := a) (b := b') (c := c) fk hnh) (rel₁.push _ s₁.toks) (Ext.push _) f0 f1 f2 f3 (Heap.get?_push_size _ rfl) ⟨Nat.zero_le _, ?_⟩ n hne
    rw [rngLen_eq]; simp
  | _ => cases hok.1

end

/-! part F14 -/
set_option autoImplicit false
set_option maxRecDepth 100000
set_option linter.unusedVariables false
open PySem PySem.W PyProof.Rows
section
variable {K : Glo} {F : Frm}

/-- what iter(v) makes -/
theorem wp_pyIter {σ : S} {ρ : List Addr} {s : Shared} {v : V} {w : Value} (rel : Rel K F σ ρ s) (rv : Rep K s.heap ρ v w) (hok : okIter v σ = .ok () σ) :
    ∃ (obj : Obj) (Src : Nat → Obj → Prop), Src 0 obj ∧ obj.isFreed = false ∧ (∀ F' : Frm, FOk F' → F'.nh = true → Iter K F' s.heap.objs.size Src (nxtOf v) ρ s.heap) ∧
      ∀ (A : Around) (Q : Value → Shared → Prop) (E : Value → Shared → Prop), Q (.ref s.heap.objs.size) { s with heap := s.heap.push obj } → wpAny (model K.prog K.w) A (pyIter w) Q E s := by
  cases v with
  | obj l =>
    obtain ⟨a, hρ, rfl⟩ := Rep.obj_iff.mp rv
    obtain ⟨us, hus⟩ := chkL_list hok
    obtain ⟨_, ws, n', hL', _⟩ := rel.cell l a _ hρ hus
    have hL := hL'.isList
    exact ⟨_, _, ⟨rfl, rfl⟩, rfl, fun F' fk hnh => iter_list fk hnh hρ, fun A Q E q => wpAny_pyIter_list hL q⟩
  | tup vs =>
    obtain ⟨_, a, ws, rfl, htp, hr⟩ := Rep.tup_iff.mp rv
    exact ⟨_, _, ⟨rfl, rfl⟩, rfl, fun F' fk hnh => iter_tuple fk hnh htp hr, fun A Q E q => wpAny_pyIter_tuple htp q⟩
  | rng a b c =>
    obtain ⟨r, t', u, v', rfl, hR⟩ := Rep.rng_iff.mp rv
    have hsm : Builtin.Range.small a b c = true := by
      by_cases h : Builtin.Range.small a b c = true
      · exact h
      · simp only [okIter, h] at hok; cases hok
    refine ⟨_, _, ⟨Nat.zero_le _, ?_⟩, rfl, fun F' fk hnh => iter_range (a := a) (b := b) (c := c) fk hnh, fun A Q E q => wpAny_pyIter_range hR hsm q⟩
    rw [rngLen_eq]; simp
  | _ => cases hok

/-- one turn of a comprehension's clause -/
noncomputable def testSem (env : Env) : Option Expr → Sem Bool
  | none => pure true
  | some c => isTrue c env (eval c env)
noncomputable def TurnOk (e : Expr) (d : Nat) (env : Env) (acc : Value) (target : Expr) (test : Option Expr) (inner : Sem Unit) : Prop :=
  ∀ (M : Model) (A : Around) (Q : PySem.Fin → Shared → Prop) (E : Value → Shared → Prop) (s : Shared) (it : Value),
    wpAny M A (pyNext it) (fun r s₁ => match r with
      | none => Q (.done .next) s₁
      | some v => wpAny M A (letOwnedTupleGo target it v) (fun _ s₂ => wpAny M A (assign target env v) (fun _ s₃ => wpAny M A (testSem env test) (fun ok s₄ =>
          if ok = true then wpAny M A inner (fun _ s₅ => Q (.again (.compLoop e d it acc env)) s₅) E s₄ else Q (.again (.compLoop e d it acc env)) s₄) E s₃) E s₂) E s₁) E s →
    wpAny M A (compTurn e d it acc env) Q E s

noncomputable def emitL (elt : Expr) (env : Env) (acc : Value) : Sem Unit := do let _ ← call (.builtin "list.append") [acc, ← eval elt env]

theorem wp_ifs {M : Model} {A : Around} {E : Value → Shared → Prop} {s : Shared} {env : Env} {P : Bool → Shared → Prop} (ifs : List Expr) (test : Option Expr) (ht : ifs = test.toList) (h : wpAny M A (testSem env test) P E s) :
    wpAny M A (forIn ifs true fun c __s => if __s = true then do let ok ← isTrue c env (eval c env); pure (ForInStep.yield ok) else pure (ForInStep.yield __s)) P E s := by
  subst ht
  cases test with
  | none => exact h
  | some c =>
    show wpAny M A (forIn [c] true _) P E s
    rw [List.forIn_cons]
    refine wpAny_bind ?_
    rw [if_pos rfl]
    refine wpAny_bind (wpAny_mono h (fun b s' hb => wpAny_pure ?_) fun _ _ e => e)
    dsimp only
    rw [List.forIn_nil]
    exact wpAny_pure hb

theorem turn_end {gens : List Comprehension} {d : Nat} {elt target iter : Expr} {ifs : List Expr} {test : Option Expr} {scope : Scope} {pos : Pos} {env : Env} {acc : Value} (hg : gens[d]? = some ⟨target, iter, ifs, 0⟩) (hn : gens[d + 1]? = none) (ht : ifs = test.toList) :
    TurnOk (.ListComp elt gens scope pos) d env acc target test (emitL elt env acc) := by
  intro M A Q E s it h
  unfold compTurn
  simp only [hg]
  refine wpAny_bind (wpAny_standAt (wpAny_bind ?_))
  refine wpAny_mono h (fun r s₁ h₁ => ?_) fun _ _ e => e
  cases r with
  | none => exact wpAny_pure h₁
  | some v =>
    refine wpAny_bind (wpAny_mono h₁ (fun _ s₂ h₂ => wpAny_bind (wpAny_mono h₂ (fun _ s₃ h₃ => ?_) fun _ _ e => e)) fun _ _ e => e)
    refine wpAny_bind (wp_ifs ifs test ht (wpAny_mono h₃ (fun ok s₄ h₄ => ?_) fun _ _ e => e))
    cases ok with
    | true =>
      simp only [if_true] at h₄ ⊢
      rw [hn]
      exact wpAny_bind (wpAny_mono h₄ (fun _ s₅ h₅ => wpAny_pure h₅) fun _ _ e => e)
    | false =>
      simp only [Bool.false_eq_true, if_false] at h₄ ⊢
      exact wpAny_pure h₄

noncomputable def SimA (K : Glo) (F : Frm) (l : Nat) (a : Addr) (t : Sem Unit) (m : M Unit) : Prop := ∀ σ ρ s, Rel K F σ ρ s → ρ[l]? = some a → Run K F t URep (m σ) ρ s

noncomputable def compB (c : M Bool) (inner : M Unit) : M Fl := do
  if (← c) = true then do
    inner
    pure .next
  else pure .next

noncomputable def SimTest (K : Glo) (F : Frm) (test : Option Expr) (c : M Bool) : Prop := ∀ σ ρ s, Rel K F σ ρ s → Run K F (testSem F.env test) BRep (c σ) ρ s
theorem simTest_none : SimTest K F none (pure true) := fun _ _ _ rel => Run.pure rel rfl
theorem simTest_some {e : Expr} {c : M Bool} (h : SimB K F e c) : SimTest K F (some e) c := h

/-- a comprehension that makes a list or a set -/
structure CompE (ce : Expr) (gens : List Comprehension) : Prop where
  cl : clausesOf ce = gens
  loop : ∀ (prog : Program) (w : World) (A : Around) (d : Nat) (it acc : Value) (env : Env), (model prog w).den (.compLoop ce d it acc env) = (compTurn ce d it acc env).onRaise (fun x => do noteFrame x env; theTreesLotGoes x) ∧ A.under (.compLoop ce d it acc env) = A
  start : ∀ (prog : Program) (w : World) (A : Around) (d : Nat) (it acc : Value) (env : Env), (model prog w).den (.compStart ce d it acc env) = (compStart ce d it acc env).onRaise (fun x => do noteFrame x env; standAt theWindowsPlace) ∧ A.under (.compStart ce d it acc env) = A
theorem compE_list {elt : Expr} {gens : List Comprehension} {scope : Scope} {pos : Pos} : CompE (.ListComp elt gens scope pos) gens := ⟨rfl, fun _ _ _ _ _ _ _ => ⟨rfl, rfl⟩, fun _ _ _ _ _ _ _ => ⟨rfl, rfl⟩⟩
theorem compE_set {elt : Expr} {gens : List Comprehension} {scope : Scope} {pos : Pos} : CompE (.SetComp elt gens scope pos) gens := ⟨rfl, fun _ _ _ _ _ _ _ => ⟨rfl, rfl⟩, fun _ _ _ _ _ _ _ => ⟨rfl, rfl⟩⟩
theorem codeAny_compLoopT {prog : Program} {w : World} {A : Around} {s : Shared} {R : Result → Shared → Prop} {ce : Expr} {gens : List Comprehension} {d : Nat} {it acc : Value} {env : Env} (hce : CompE ce gens) (RQ : Shared → Prop) (N : Value → Shared → Prop) (hR : ∀ f s', RQ s' → R (.ok f) s') (hN : ∀ v s', N v s' → notedBy (model prog w) A env (fun e s' => R (.error e) s') v s') (I : Nat → Shared → Prop)
    (turn : ∀ n s, I n s → wpAny (model prog w) A (compTurn ce d it acc env) (fun fin s' => match fin with
      | .done _ => RQ s'
      | .again c' => c' = .compLoop ce d it acc env ∧ ∃ m, m < n ∧ I m s') N s)
    (n : Nat) (h : I n s) : codeAny (model prog w) A (.compLoop ce d it acc env) R s := by
  refine codeAny_loop rfl I (fun n s hI => ?_) n h
  show wpAny (model prog w) (A.under (.compLoop ce d it acc env)) ((model prog w).den (.compLoop ce d it acc env)) _ _ s
  rw [(hce.loop prog w A d it acc env).1, (hce.loop prog w A d it acc env).2]
  exact wpAny_noted (wpAny_mono (turn n s hI) (fun fin s' q => by cases fin with | done f => exact hR f s' q | again c => exact q) hN)

/-! ### hidden objects -/
noncomputable def Hid (h : Heap) (b : Addr) : Prop := ∃ o vs, h.get? b = some o ∧ o.data = .fields vs ∧ o.cls ≠ .type "range"
section
variable {σ : S} {ρ ρ₀ ρ' : List Addr} {s s' : Shared} {mine fp : List Addr} {h h₀ h' : Heap}

theorem GRel.hid {st : Store} (rel : GRel K st ρ s) (hρ : ∀ a ∈ fp, a ∉ ρ) (hb : ∀ a ∈ fp, K.base.get? a = none) (ho : ∀ a ∈ fp, Hid s.heap a) (hx : ∀ b o, b ∉ fp → s.heap.get? b = some o → s'.heap.get? b = some o)
    (hg : s'.gens = s.gens) (hos : s'.os = s.os) : GRel K st ρ s' where
  gens := hg.trans rel.gens
  os := hos.trans rel.os
  base := fun b o' e => hx b o' (fun hm => by rw [hb b hm] at e; cases e) (rel.base b o' e)
  len := rel.len
  cell := fun l b c h1 h2 => by
    refine (rel.cell l b c h1 h2).mono (List.prefix_refl _) (fun d o' e f => hx d o' (fun hm => ?_) e) fun o e _ => hx b o (fun hm => hρ b hm (List.mem_of_getElem? h1)) e
    · obtain ⟨o, vs, g, d1, d2⟩ := ho d hm; exact hid_ne_froz g d1 d2 e f rfl
  nodup := rel.nodup
  above := rel.above
theorem Rel.hid (rel : Rel K F σ ρ s) (hρ : ∀ a ∈ fp, a ∉ ρ) (hb : ∀ a ∈ fp, K.base.get? a = none) (hm : ∀ a ∈ fp, a ∉ F.mine) (ho : ∀ a ∈ fp, Hid s.heap a) (hx : ∀ b o, b ∉ fp → s.heap.get? b = some o → s'.heap.get? b = some o)
    (hg : s'.gens = s.gens) (hos : s'.os = s.os) : Rel K F σ ρ s' where
  toGRel := rel.toGRel.hid hρ hb ho hx hg hos
  vars := fun y u e => by
    obtain ⟨w, h1, h2⟩ := rel.vars y u e
    refine ⟨w, h1.mono (fun m n => ?_) (fun c u _ n => ?_), Rep.mono' (List.prefix_refl _) (fun d o' e f => hx d o' (fun q => ?_) e) h2⟩
    · have hne : F.env.locals ∉ fp := fun q => by obtain ⟨o, vs, g, d1, d2⟩ := ho _ q; exact hid_ne_ns g d1 n rfl
      obtain ⟨o', es, ep, e', r⟩ := n
      exact ⟨o', es, ep, hx _ _ hne e', r⟩
    · have hne : c ∉ fp := fun q => by obtain ⟨o, vs, g, d1, d2⟩ := ho _ q; exact hid_ne_cell g d1 n rfl
      obtain ⟨o', e', r⟩ := n
      exact ⟨o', hx _ _ hne e', r⟩
    · obtain ⟨o, vs, g, d1, d2⟩ := ho d q; exact hid_ne_froz g d1 d2 e f rfl
  loc := by
    obtain ⟨m, n⟩ := rel.loc
    have hne : F.env.locals ∉ fp := fun q => by obtain ⟨o, vs, g, d1, d2⟩ := ho _ q; exact hid_ne_ns g d1 n rfl
    obtain ⟨o', es, ep, e', r⟩ := n
    exact ⟨m, o', es, ep, hx _ _ hne e', r⟩
  cels := fun y c e => by
    obtain ⟨v, n⟩ := rel.cels y c e
    have hne : c ∉ fp := fun q => by obtain ⟨o, vs, g, d1, d2⟩ := ho _ q; exact hid_ne_cell g d1 n rfl
    obtain ⟨o', e', r⟩ := n
    exact ⟨v, o', hx _ _ hne e', r⟩
  mineAbove := fun b hb' => by
    obtain ⟨h1, o', h2⟩ := rel.mineAbove b hb'
    exact ⟨h1, o', hx b o' (fun q => hm b q hb') h2⟩
  mineApart := rel.mineApart
  mineLoc := rel.mineLoc
  frs := rel.frs.next fun b o es n g d => ⟨o, es, n, hx b o (fun q => by
    obtain ⟨o', vs, g', d', _⟩ := ho b q
    rw [g] at g'; cases g'; rw [d] at d'; cases d') g, d⟩
/-- all stays but hidden objects -/
theorem Ext.hidden (ho : ∀ a ∈ fp, Hid h a) (hal : ∀ a ∈ fp, ∃ o, h'.get? a = some o) (hx : ∀ b o, b ∉ fp → h.get? b = some o → h'.get? b = some o) : Ext (fp ++ mine) ρ ρ h h' where
  pre := List.prefix_refl _
  alive := fun b o e => by
    by_cases q : b ∈ fp
    · exact hal b q
    · exact ⟨o, hx b o q e⟩
  new := fun _ ha => .inl ha
  keep := fun b o e _ n2 => ⟨o, hx b o (fun q => n2 (List.mem_append_left _ q)) e, .refl _⟩
  froz := fun b o e f => hx b o (fun q => by obtain ⟨o', vs, g, d1, d2⟩ := ho b q; exact hid_ne_froz g d1 d2 e f rfl) e
theorem Ext.hide (x : Ext mine ρ₀ ρ h₀ h) (y : Ext (fp ++ mine) ρ ρ' h h') (h0 : ∀ a ∈ fp, h₀.get? a = none) : Ext mine ρ₀ ρ' h₀ h' where
  pre := x.pre.trans y.pre
  alive := fun b o e => by obtain ⟨o1, e1⟩ := x.alive b o e; exact y.alive b o1 e1
  new := fun a ha => by
    rcases y.new a ha with h1 | h1
    · exact x.new a h1
    · refine .inr ?_
      cases e : h₀.get? a with
      | none => rfl
      | some o => obtain ⟨o1, e1⟩ := x.alive a o e; rw [h1] at e1; cases e1
  keep := fun b o e n1 n2 => by
    obtain ⟨o1, e1, l1⟩ := x.keep b o e n1 n2
    have hn : b ∉ ρ := fun hb => by
      rcases x.new b hb with h1 | h1
      · exact n1 h1
      · rw [e] at h1; cases h1
    obtain ⟨o2, e2, l2⟩ := y.keep b _ e1 hn (fun q => by
      rcases List.mem_append.mp q with q | q
      · rw [h0 b q] at e; cases e
      · exact n2 q)
    exact ⟨o2, e2, l1.trans l2⟩
  froz := fun b o e f => y.froz b o (x.froz b o e f) f
end

theorem Ext.butHid {ρ ρ₀ mine fp : List Addr} {h h₀ h' : Heap} (x : Ext mine ρ₀ ρ h₀ h) (h0 : ∀ a ∈ fp, h₀.get? a = none) (hx : ∀ b o, b ∉ fp → h.get? b = some o → h'.get? b = some o) : Ext mine ρ₀ ρ h₀ h' where
  pre := x.pre
  alive := fun b o' e => by
    obtain ⟨o1, e1⟩ := x.alive b o' e
    exact ⟨o1, hx b o1 (fun q => by rw [h0 b q] at e; cases e) e1⟩
  new := x.new
  keep := fun b o' e n1 n2 => by
    obtain ⟨o1, e1, l1⟩ := x.keep b o' e n1 n2
    exact ⟨o1, hx b o1 (fun q => by rw [h0 b q] at e; cases e) e1, l1⟩
  froz := fun b o' e f => hx b o' (fun q => by rw [h0 b q] at e; cases e) (x.froz b o' e f)

/-! ### general iterators -/
/-- nx i is the i-th step; fp are the iterator's own objects -/
structure GIter (K : Glo) (F : Frm) (target : Expr) (I : Addr) (fp : List Addr) (St : Nat → Heap → Prop) (nx : Nat → M (Option V)) (ρ₁ : List Addr) (h₁ : Heap) : Prop where
  hid : ∀ i h, St i h → ∀ b ∈ fp, Hid h b
  frame : ∀ i h h', St i h → (∀ b ∈ fp, ∀ o, h.get? b = some o → h'.get? b = some o) → St i h'
  self : ∀ i (s : Shared) (A : Around) (Q : Value → Shared → Prop) (E : Value → Shared → Prop), St i s.heap → Q (.ref I) s → wpAny (model K.prog K.w) A (pyIter (.ref I)) Q E s
  step : ∀ σ ρ s i, Rel K F σ ρ s → Ext F.mine ρ₁ ρ h₁ s.heap → (∀ b ∈ fp, b ∉ ρ) → (∀ b ∈ fp, b ∉ F.mine) → (∀ b ∈ fp, K.base.get? b = none) → St i s.heap →
    match nx i σ with
    | .stuck => True
    | .exc _ _ => True
    | .ok none σ' => wpAny (model K.prog K.w) F.A (pyNext (.ref I)) (fun r s' => r = none ∧ ∃ ρ', Rel K F σ' ρ' s' ∧ ρ <+: ρ' ∧ ∀ ρ₀ h₀, Ext F.mine ρ₀ ρ h₀ s.heap → (∀ b ∈ fp, h₀.get? b = none) → Ext F.mine ρ₀ ρ' h₀ s'.heap) (fun _ _ => False) s
    | .ok (some v) σ' => wpAny (model K.prog K.w) F.A (pyNext (.ref I)) (fun r s' => ∃ w, r = some w ∧ ∀ (Q : Unit → Shared → Prop) (E : Value → Shared → Prop),
        (∀ s'' ρ', Rel K F σ' ρ' s'' → Ext (fp ++ F.mine) ρ ρ' s.heap s''.heap → St (i + 1) s''.heap → Rep K s''.heap ρ' v w → Q () s'') → wpAny (model K.prog K.w) F.A (letOwnedTupleGo target (.ref I) w) Q E s') (fun _ _ => False) s

noncomputable def forN (nx : Nat → M (Option V)) (t : V → M Unit) (b : M Fl) : Nat → Nat → M Fl
  | 0, _ => stuck
  | n + 1, i => fun σ => match nx i σ with
    | .ok none σ' => .ok .next σ'
    | .ok (some v) σ' => (do
      t v
      match ← b with
      | .next => forN nx t b n (i + 1)
      | .cont => forN nx t b n (i + 1)
      | .brk => pure .next
      | .ret v => pure (.ret v)) σ'
    | _ => .stuck
theorem forN_succ (nx : Nat → M (Option V)) (t : V → M Unit) (b : M Fl) (n i : Nat) (σ : S) : forN nx t b (n + 1) i σ = (match nx i σ with
    | .stuck => .stuck
    | .exc _ _ => .stuck
    | .ok none σ' => .ok .next σ'
    | .ok (some v) σ' => match t v σ' with
      | .stuck => .stuck
      | .exc e σ₂ => .exc e σ₂
      | .ok _ σ₂ => match b σ₂ with
        | .ok .next σ₃ => forN nx t b n (i + 1) σ₃
        | .ok .cont σ₃ => forN nx t b n (i + 1) σ₃
        | .ok .brk σ₃ => .ok .next σ₃
        | .ok (.ret v) σ₃ => .ok (.ret v) σ₃
        | .exc e σ₃ => .exc e σ₃
        | .stuck => .stuck) := by
  rw [forN]
  dsimp only
  cases nx i σ with
  | stuck => rfl
  | exc e y => rfl
  | ok x σ' =>
    cases x with
    | none => rfl
    | some v =>
      dsimp only
      rw [M.bind_def]
      cases t v σ' with
      | stuck => rfl
      | exc e y => rfl
      | ok u y =>
        dsimp only
        rw [M.bind_def]
        cases b y with
        | stuck => rfl
        | exc e z => rfl
        | ok f z => cases f <;> rfl
theorem M.bind_assoc' {α β γ : Type} (m : M α) (f : α → M β) (g : β → M γ) : (m >>= f) >>= g = m >>= fun a => f a >>= g := by
  funext σ
  show (match (m >>= f) σ with | .ok a σ' => g a σ' | .exc e σ' => .exc e σ' | .stuck => .stuck) = _
  rw [M.bind_def, M.bind_def]
  cases m σ <;> rfl
theorem forNC_step (nx : Nat → M (Option V)) (t : V → M Unit) (c : M Bool) (mi : M Unit) (n i : Nat) (σ : S) : forN nx t (compB c mi) (n + 1) i σ = (match nx i σ with
    | .ok none σ' => .ok .next σ'
    | .ok (some v) σ' => (t v >>= fun _ => c >>= fun y => bif y then (mi >>= fun _ => forN nx t (compB c mi) n (i + 1)) else forN nx t (compB c mi) n (i + 1)) σ'
    | _ => .stuck) := by
  have e : ∀ g : Fl → M Fl, compB c mi >>= g = c >>= fun y => bif y then (mi >>= fun _ => g .next) else g .next := by
    intro g
    unfold compB
    rw [M.bind_assoc']
    congr 1
    funext y
    cases y
    · rfl
    · show ((mi >>= fun _ => pure .next) >>= g) = _
      rw [M.bind_assoc']
      rfl
  rw [forN]
  simp only [e]
theorem run_compLoopG {ce target : Expr} {gens : List Comprehension} {d l : Nat} {a : Addr} {test : Option Expr} {inner : Sem Unit} {t : V → M Unit} {c : M Bool} {mi : M Unit}
    (hce : CompE ce gens) (hto : TurnOk ce d F.env (.ref a) target test inner)
    (ht : SimT K F target t) (hc : SimTest K F test c) (hin : SimA K F l a inner mi) {I : Addr} {fp : List Addr} {St : Nat → Heap → Prop} {nx : Nat → M (Option V)}
    {σ : S} {ρ ρ₀ : List Addr} {s : Shared} {h₀ : Heap} (hI : GIter K F target I fp St nx ρ₀ h₀) (rel : Rel K F σ ρ s) (hla : ρ[l]? = some a) (x₀ : Ext F.mine ρ₀ ρ h₀ s.heap) (h0 : ∀ b ∈ fp, h₀.get? b = none) (hbase : ∀ b ∈ fp, K.base.get? b = none)
    (hmi : ∀ b ∈ fp, b ∉ F.mine) (hρ : ∀ b ∈ fp, b ∉ ρ) (hs : St 0 s.heap) (n : Nat) (hne : forN nx t (compB c mi) n 0 σ ≠ .stuck) :
    codeAny (model K.prog K.w) F.A (.compLoop ce d (.ref I) (.ref a) F.env) (fun r s' => match r with
      | .ok _ => ∃ f σ' ρ', forN nx t (compB c mi) n 0 σ = .ok f σ' ∧ Rel K F σ' ρ' s' ∧ Ext F.mine ρ₀ ρ' h₀ s'.heap ∧ ρ'[l]? = some a
      | .error v => EO K F (forN nx t (compB c mi) n 0 σ) ρ₀ h₀ v s') s := by
  refine codeAny_compLoopT hce (fun s' => ∃ f σ' ρ', forN nx t (compB c mi) n 0 σ = .ok f σ' ∧ Rel K F σ' ρ' s' ∧ Ext F.mine ρ₀ ρ' h₀ s'.heap ∧ ρ'[l]? = some a) (EO K F (forN nx t (compB c mi) n 0 σ) ρ₀ h₀) (fun _ _ q => q) (fun _ _ hx => hx.noted) (fun k s' => ∃ σ₁ ρ' i, Rel K F σ₁ ρ' s' ∧ forN nx t (compB c mi) k i σ₁ = forN nx t (compB c mi) n 0 σ ∧ Ext F.mine ρ₀ ρ' h₀ s'.heap ∧ (∀ b ∈ fp, b ∉ ρ') ∧ ρ'[l]? = some a ∧ St i s'.heap) ?_ n
    ⟨σ, ρ, 0, rel, rfl, x₀, hρ, hla, hs⟩
  generalize forN nx t (compB c mi) n 0 σ = out at hne ⊢
  rintro k s₁ ⟨σ₁, ρ', i, rel₁, e₁, x₁, hρ₁, hla₁, hs₁⟩
  cases k with
  | zero => exact absurd e₁.symm hne
  | succ k =>
    have e₀ : (match nx i σ₁ with
      | .ok none σ' => .ok .next σ'
      | .ok (some v) σ' => (t v >>= fun _ => c >>= fun y => bif y then (mi >>= fun _ => forN nx t (compB c mi) k (i + 1)) else forN nx t (compB c mi) k (i + 1)) σ'
      | _ => .stuck : Res S Fl) = out := e₁ ▸ (forNC_step ..).symm
    clear e₁
    have hstep := hI.step σ₁ ρ' s₁ i rel₁ x₁ hρ₁ hmi hbase hs₁
    refine hto _ _ _ _ _ _ ?_
    cases en : nx i σ₁ with
    | stuck => rw [en] at e₀; exact absurd e₀.symm hne
    | exc x y => rw [en] at e₀; exact absurd e₀.symm hne
    | ok ov σn =>
      rw [en] at hstep e₀
      cases ov with
      | none =>
        refine wpAny_mono hstep (fun r s₂ h => ?_) fun _ _ h => h.elim
        obtain ⟨rfl, ρ₂, r2, y1, y2⟩ := h
        exact ⟨.next, σn, ρ₂, e₀.symm, r2, y2 _ _ x₁ h0, getElem?_prefix y1 hla₁⟩
      | some v =>
        have hold : ∀ {ρ₂ ρ₃ : List Addr} {g g' : Heap} {i : Nat}, Ext F.mine ρ₂ ρ₃ g g' → (∀ b ∈ fp, b ∉ ρ₂) → St i g → St i g' ∧ (∀ b ∈ fp, b ∉ ρ₃) := by
          intro ρ₂ ρ₃ g g' i x hn e
          refine ⟨hI.frame i g g' e fun b hb o ho => ?_, fun b hb hin => ?_⟩
          · obtain ⟨o1, vs, g1, d1, _⟩ := hI.hid i g e b hb
            rw [g1] at ho; cases ho
            obtain ⟨o', e', l⟩ := x.keep b o g1 (hn b hb) (hmi b hb)
            rw [e', l.same (fun es n q => by rw [d1] at q; cases q)]
          · rcases x.new b hin with q | q
            · exact hn b hb q
            · obtain ⟨o1, vs, g1, d1, _⟩ := hI.hid i g e b hb
              rw [g1] at q; cases q
        refine wpAny_mono hstep (fun r s₂' h => ?_) fun _ _ h => h.elim
        obtain ⟨w, rfl, h⟩ := h
        refine h _ _ fun s₂ ρ₂ rel₂ y₂ hs₂ rv => ?_
        have hρ₂ : ∀ b ∈ fp, b ∉ ρ₂ := fun b hb hin => by
          rcases y₂.new b hin with q | q
          · exact hρ₁ b hb q
          · obtain ⟨o, _, g, _⟩ := hI.hid i _ hs₁ b hb
            rw [g] at q; cases q
        refine (ht σn ρ₂ s₂ v w rel₂ rv).stepW (x₁.hide y₂ h0) hne e₀ id fun _ σ₃ ρ₃ _ s₃ e₃ rel₃ y₃ x₃ _ => ?_
        obtain ⟨ho₃, hρ₃⟩ := hold y₃ hρ₂ hs₂
        have hla₃ := getElem?_prefix y₃.pre (getElem?_prefix y₂.pre hla₁)
        refine (hc σ₃ ρ₃ s₃ rel₃).stepW x₃ hne e₃ id fun b σ₄ ρ₄ wb s₄ e₄ rel₄ y₄ x₄ rb => ?_
        have : wb = b := rb
        subst this
        obtain ⟨ho₄, hρ₄⟩ := hold y₄ hρ₃ ho₃
        have hla₄ := getElem?_prefix y₄.pre hla₃
        cases wb with
        | false => exact ⟨rfl, k, Nat.lt_succ_self _, σ₄, ρ₄, i + 1, rel₄, e₄, x₄, hρ₄, hla₄, ho₄⟩
        | true =>
          refine (hin σ₄ ρ₄ s₄ rel₄ hla₄).stepW x₄ hne e₄ id fun _ σ₅ ρ₅ _ s₅ e₅ rel₅ y₅ x₅ _ => ?_
          obtain ⟨ho₅, hρ₅⟩ := hold y₅ hρ₄ ho₄
          exact ⟨rfl, k, Nat.lt_succ_self _, σ₅, ρ₅, i + 1, rel₅, e₅, x₅, hρ₅, getElem?_prefix y₅.pre hla₄, ho₅⟩

/-- a comprehension's clause goes through its iterator -/
noncomputable def nxM (nxt : S → Nat → Option (Option V)) (i : Nat) : M (Option V) := fun σ => match nxt σ i with
  | none => .stuck
  | some ov => .ok ov σ
theorem forN_nxM (nxt : S → Nat → Option (Option V)) (t : V → M Unit) (b : M Fl) : ∀ (n i : Nat) (σ : S), forN (nxM nxt) t b n i σ = forG nxt t b n i σ
  | 0, _, _ => rfl
  | n + 1, i, σ => by
    rw [forN_succ, forG_succ]
    unfold nxM
    cases nxt σ i with
    | none => rfl
    | some ov =>
      cases ov with
      | none => rfl
      | some v =>
        dsimp only
        cases t v σ with
        | stuck => rfl
        | exc e y => rfl
        | ok u y =>
          dsimp only
          cases b y with
          | stuck => rfl
          | exc e z => rfl
          | ok f z => cases f <;> first | rfl | exact forN_nxM nxt t b n (i + 1) z
theorem Iter.g {target : Expr} {I : Addr} {Src : Nat → Obj → Prop} {nxt : S → Nat → Option (Option V)} {ρ₀ : List Addr} {h₀ : Heap} (hI : Iter K F I Src nxt ρ₀ h₀) :
    GIter K F target I [I] (fun i h => ∃ o, h.get? I = some o ∧ Src i o) (nxM nxt) ρ₀ h₀ where
  hid := by
    rintro i h ⟨o, g, hs⟩ b hb
    obtain ⟨vs, T, d, c, _, r⟩ := hI.1 i o hs
    rw [List.mem_singleton.mp hb]
    exact ⟨o, vs, g, d, by rw [c]; exact fun e => r (by cases e; rfl)⟩
  frame := by
    rintro i h h' ⟨o, g, hs⟩ hk
    exact ⟨o, hk I (by simp) o g, hs⟩
  self := by
    rintro i s A Q E ⟨o, g, hs⟩ q
    exact hI.2.1 i o s A Q E g hs q
  step := by
    rintro σ ρ s i rel x hρ hm hb ⟨o, g, hs⟩
    have hstep := hI.2.2 σ ρ s i o rel x g hs
    obtain ⟨vs, T, hd, hc, hT, hr⟩ := hI.1 i o hs
    have hh : ∀ a ∈ [I], Hid s.heap a := by
      intro a ha
      rw [List.mem_singleton.mp ha]
      exact ⟨o, vs, g, hd, by rw [hc]; exact fun e => hr (by cases e; rfl)⟩
    unfold nxM
    cases en : nxt σ i with
    | none => trivial
    | some ov =>
      rw [en] at hstep
      cases ov with
      | none =>
        refine wpAny_mono hstep (fun r s₂ h => ?_) fun _ _ h => h.elim
        obtain ⟨rfl, hx, hg, hos⟩ := h
        have hx' : ∀ b o, b ∉ [I] → s.heap.get? b = some o → s₂.heap.get? b = some o := fun b o hb e => hx b o (by simpa using hb) e
        exact ⟨rfl, ρ, rel.hid hρ hb hm hh hx' hg hos, List.prefix_refl _, fun ρ₀ h₀ x h0 => x.butHid h0 hx'⟩
      | some v =>
        refine wpAny_mono hstep (fun r s₂ h => ?_) fun _ _ h => h.elim
        obtain ⟨w, rfl, hx, hg, hos, ⟨o₂, ho₂, hs₂⟩, rv⟩ := h
        refine ⟨w, rfl, fun Q E q => ?_⟩
        obtain ⟨vs₂, T₂, hd₂, hc₂, hT₂, hr₂⟩ := hI.1 (i + 1) o₂ hs₂
        have hx' : ∀ b o, b ∉ [I] → s.heap.get? b = some o → s₂.heap.get? b = some o := fun b o hb e => hx b o (by simpa using hb) e
        refine owned_skip ho₂ hc₂ hT₂ (q s₂ ρ (rel.hid hρ hb hm hh hx' hg hos) (Ext.hidden hh (fun a ha => by rw [List.mem_singleton.mp ha]; exact ⟨_, ho₂⟩) hx') ⟨o₂, ho₂, hs₂⟩ rv)
theorem run_compLoop {ce target : Expr} {gens : List Comprehension} {d l : Nat} {a : Addr} {test : Option Expr} {inner : Sem Unit} {t : V → M Unit} {c : M Bool} {mi : M Unit}
    (hce : CompE ce gens) (hto : TurnOk ce d F.env (.ref a) target test inner)
    (ht : SimT K F target t) (hc : SimTest K F test c) (hin : SimA K F l a inner mi) {I : Addr} {Src : Nat → Obj → Prop} {nxt : S → Nat → Option (Option V)}
    {σ : S} {ρ ρ₀ : List Addr} {s : Shared} {h₀ : Heap} {o : Obj} (hI : Iter K F I Src nxt ρ₀ h₀) (rel : Rel K F σ ρ s) (hla : ρ[l]? = some a) (x₀ : Ext F.mine ρ₀ ρ h₀ s.heap) (h0 : h₀.get? I = none) (hbase : K.base.get? I = none)
    (hmi : I ∉ F.mine) (hρ : I ∉ ρ) (ho : s.heap.get? I = some o) (hs : Src 0 o) (n : Nat) (hne : forG nxt t (compB c mi) n 0 σ ≠ .stuck) :
    codeAny (model K.prog K.w) F.A (.compLoop ce d (.ref I) (.ref a) F.env) (fun r s' => match r with
      | .ok _ => ∃ f σ' ρ', forG nxt t (compB c mi) n 0 σ = .ok f σ' ∧ Rel K F σ' ρ' s' ∧ Ext F.mine ρ₀ ρ' h₀ s'.heap ∧ ρ'[l]? = some a
      | .error v => EO K F (forG nxt t (compB c mi) n 0 σ) ρ₀ h₀ v s') s := by
  have key : ∀ {P : Addr → Prop}, P I → ∀ b ∈ [I], P b := fun h b hb => by rw [List.mem_singleton.mp hb]; exact h
  rw [← forN_nxM] at hne ⊢
  exact run_compLoopG hce hto ht hc hin hI.g rel hla x₀ (key h0) (key hbase) (key hmi) (key hρ) ⟨o, ho, hs⟩ n hne

theorem codeAny_compStartD {prog : Program} {w : World} {A : Around} {s : Shared} {R : Result → Shared → Prop} {ce target iter : Expr} {ifs : List Expr} {gens : List Comprehension} {d : Nat} {it acc : Value} {env : Env}
    (hg : gens[d]? = some ⟨target, iter, ifs, 0⟩)
    (h0 : codeAny (model prog w) A (.compLoop ce d it acc env) R s)
    (h : ∀ (Q : Value → Shared → Prop) (E : Value → Shared → Prop), Q it s → wpAny (model prog w) A (pyIter it) Q E s) (hce : CompE ce gens := by first | exact compE_list | exact compE_set) :
    codeAny (model prog w) A (.compStart ce d it acc env) R s := by
  refine codeAny_of_tree ?_
  show wpAny (model prog w) (A.under (.compStart ce d it acc env)) ((model prog w).den (.compStart ce d it acc env)) _ _ s
  rw [(hce.start prog w A d it acc env).1, (hce.start prog w A d it acc env).2]
  refine wpAny_notedAt ?_
  unfold compStart
  rw [hce.cl, hg]
  show wpAny _ _ (ask >>= _) _ _ s
  refine wpAny_bind (wpAny_askSetting (wpAny_ite ?_))
  split
  · first
      | exact wpAny_bind (wpAny_pure (wpAny_pure (And.intro rfl h0)))
      | exact wpAny_pure (And.intro rfl h0)
  · refine wpAny_bind (wpAny_rule ?_)
    show wpAny _ _ (standAt iter.pos >>= _) _ _ s
    exact wpAny_bind (wpAny_standAt (wpAny_bind (h _ _ (wpAny_pure (And.intro rfl h0)))))

/-! ### the comprehension's own frame -/
noncomputable def compFrm (F : Frm) (scope : Scope) (cl : List (Str × Addr)) (C : Addr) : Frm := ⟨compEnvC scope cl C F.env, F.A, [C], F.nh⟩
theorem FOk.comp (fk : FOk F) {scope : Scope} {cl : List (Str × Addr)} {C : Addr} (hk : scope.kind = .function) : FOk (compFrm F scope cl C) := ⟨hk, fk.glob, fk.blt, fk.hd, fk.units⟩

/-- C is no frame on the stack -/
noncomputable def NoFrame (F : Frm) (C : Addr) : Prop := ∀ l, F.A.frames = some l → ∀ env ∈ l, env.frame ≠ some C
theorem Rel.noFrame {σ : S} {ρ : List Addr} {s : Shared} {C : Addr} (rel : Rel K F σ ρ s) (h : s.heap.get? C = none) : NoFrame F C := by
  intro l hl env he hf
  obtain ⟨e, l', a1, a2, a3⟩ := rel.frs
  rw [a1] at hl; cases hl
  obtain ⟨_, L, o, es, n, f, _, g, _⟩ := a3 env he
  rw [f] at hf; cases hf
  rw [h] at g; cases g
theorem Rel.butC {σ : S} {ρ : List Addr} {s s' : Shared} {C : Addr} {m : Str → Option Value} (rel : Rel K F σ ρ s) (hb : K.base.get? C = none) (hm : C ∉ F.mine) (hρ : C ∉ ρ) (hn : s.heap.Ns C m) (hs : Heap.SameBut C s.heap s'.heap)
    (hg : s'.gens = s.gens) (ho : s'.os = s.os) (hC : NoFrame F C) : Rel K F σ ρ s' where
  toGRel := rel.toGRel.mineBut hb hρ hs (fun b o e f => ns_ne_tup hn e f) hg ho
  vars := fun y u e => by
    obtain ⟨w, h1, h2⟩ := rel.vars y u e
    refine ⟨w, h1.mono (fun m' n => n.sameBut hs (fun q => hm (q ▸ rel.mineLoc))) (fun c u _ n => n.sameBut hs (fun q => cell_ne_ns n hn q.symm)), ?_⟩
    exact Rep.mono' (List.prefix_refl _) (fun b o e f => (hs.2 b (ns_ne_tup hn e f)).trans e) h2
  loc := by obtain ⟨m', n⟩ := rel.loc; exact ⟨m', n.sameBut hs (fun q => hm (q ▸ rel.mineLoc))⟩
  cels := fun y c e => by obtain ⟨v, n⟩ := rel.cels y c e; exact ⟨v, n.sameBut hs (fun q => cell_ne_ns n hn q.symm)⟩
  mineAbove := fun b hb' => by
    obtain ⟨h1, o, h2⟩ := rel.mineAbove b hb'
    exact ⟨h1, o, (hs.2 b (fun q => hm (q ▸ hb'))).trans h2⟩
  mineApart := rel.mineApart
  mineLoc := rel.mineLoc
  frs := by
    obtain ⟨e, l, a1, a2, a3⟩ := rel.frs
    refine ⟨e, l, a1, a2, a3.next fun b o es n hfr g d => ⟨o, es, n, (hs.2 b ?_).trans g, d⟩⟩
    intro q
    obtain ⟨env, he, hf⟩ := hfr
    exact hC _ a1 env he (q ▸ hf)
theorem Ext.butC {mine ρ₀ ρ : List Addr} {h₀ h h' : Heap} {C : Addr} (x : Ext mine ρ₀ ρ h₀ h) (h0 : h₀.get? C = none) (hs : Heap.SameBut C h h') : Ext mine ρ₀ ρ h₀ h' where
  pre := x.pre
  alive := fun b o e => by
    obtain ⟨o1, e1⟩ := x.alive b o e
    exact ⟨o1, (hs.2 b (by rintro rfl; rw [h0] at e; cases e)).trans e1⟩
  new := x.new
  keep := fun b o e n1 n2 => by
    obtain ⟨o1, e1, l1⟩ := x.keep b o e n1 n2
    exact ⟨o1, (hs.2 b (by rintro rfl; rw [h0] at e; cases e)).trans e1, l1⟩
  froz := fun b o e f => (hs.2 b (by rintro rfl; rw [h0] at e; cases e)).trans (x.froz b o e f)

/-- what the clauses of a comprehension do, in the comprehension's frame -/
noncomputable def SimClauses (K : Glo) (F : Frm) (ce : Expr) (d : Nat) (m : Nat → (S → Nat → Option (Option V)) → M Unit) : Prop :=
  ∀ (l : Nat) (a : Addr) (I : Addr) (Src : Nat → Obj → Prop) (nxt : S → Nat → Option (Option V)) σ ρ ρ₀ s h₀ o, Iter K F I Src nxt ρ₀ h₀ → Rel K F σ ρ s → ρ[l]? = some a → Ext F.mine ρ₀ ρ h₀ s.heap → h₀.get? I = none → K.base.get? I = none →
    I ∉ F.mine → I ∉ ρ → s.heap.get? I = some o → Src 0 o → m l nxt σ ≠ .stuck →
    codeAny (model K.prog K.w) F.A (.compStart ce d (.ref I) (.ref a) F.env) (fun r s' => match r with
      | .ok _ => ∃ σ' ρ', m l nxt σ = .ok () σ' ∧ Rel K F σ' ρ' s' ∧ Ext F.mine ρ₀ ρ' h₀ s'.heap ∧ ρ'[l]? = some a
      | .error v => EO K F (m l nxt σ) ρ₀ h₀ v s') s

noncomputable def loopC (n : Nat) (t : V → M Unit) (c : M Bool) (mi : M Unit) (nxt : S → Nat → Option (Option V)) : M Unit := do
  let _ ← forG nxt t (compB c mi) n 0
  pure ()

theorem loopC_ne {n : Nat} {t : V → M Unit} {c : M Bool} {mi : M Unit} {nxt : S → Nat → Option (Option V)} {σ : S} (h : loopC n t c mi nxt σ ≠ .stuck) : forG nxt t (compB c mi) n 0 σ ≠ .stuck := by
  intro e; apply h; unfold loopC; rw [M.bind_def, e]

theorem clauses_of {ce target iter : Expr} {ifs : List Expr} {gens : List Comprehension} {d : Nat} {test : Option Expr} {inner : Value → Sem Unit} {t : V → M Unit} {c : M Bool} {mi : Nat → M Unit} (n : Nat)
    (hg : gens[d]? = some ⟨target, iter, ifs, 0⟩)
    (hto : ∀ acc, TurnOk ce d F.env acc target test (inner acc)) (ht : SimT K F target t) (hc : SimTest K F test c) (hin : ∀ l a, SimA K F l a (inner (.ref a)) (mi l)) (hce : CompE ce gens := by first | exact compE_list | exact compE_set) :
    SimClauses K F ce d (fun l nxt => loopC n t c (mi l) nxt) := by
  intro l a I Src nxt σ ρ ρ₀ s h₀ o hI rel hla x₀ h0 hb hm hρ ho hs hne
  refine codeAny_compStartD hg ?_ (fun Q E q => hI.2.1 0 o s _ Q E ho hs q) hce
  refine codeAny_mono (run_compLoop hce (hto _) ht hc (hin l a) hI rel hla x₀ h0 hb hm hρ ho hs n (loopC_ne hne)) fun r s' h => ?_
  cases r with
  | ok f =>
    obtain ⟨f', σ', ρ', e, r1, r2, r4⟩ := h
    exact ⟨σ', ρ', by show loopC n t c (mi l) nxt σ = _; unfold loopC; rw [M.bind_def, e]; rfl, r1, r2, r4⟩
  | error v =>
    obtain ⟨e, σ', ρ', e1, r1, r2, r3⟩ := h
    exact ⟨e, σ', ρ', by show loopC n t c (mi l) nxt σ = _; unfold loopC; rw [M.bind_def, e1], r1, r2, r3⟩

noncomputable def appendAt (l : Nat) (v : V) : M Unit := do
  let _ ← appendG (.obj l) [v]
  pure ()
theorem simA_emit (fk : FOk F) {elt : Expr} {me : M V} (he : SimE K F elt me) (l : Nat) (a : Addr) (hnh : F.nh = true := by rfl) : SimA K F l a (emitL elt F.env (.ref a)) (do let v ← me; appendAt l v) := by
  intro σ ρ s rel hla
  unfold emitL
  refine Run.bind (he σ ρ s rel) fun v σ₁ ρ₁ s₁ w _ rel₁ x₁ rv => ?_
  unfold appendAt
  refine Run.bind (meth_append F fk hnh σ₁ ρ₁ s₁ (.obj l) (.ref a) [v] [w] rel₁ (Rep.obj_iff.mpr ⟨a, getElem?_prefix x₁.pre hla, rfl⟩) (RepL.cons rv RepL.nil)) fun u σ₂ ρ₂ s₂ _ _ rel₂ x₂ _ => ?_
  exact Run.pure rel₂ trivial

end

/-! part F15 -/
set_option autoImplicit false
set_option maxRecDepth 100000
set_option linter.unusedVariables false
open PySem PySem.W PyProof.Rows
section
variable {K : Glo} {F : Frm}

noncomputable def restr (free : List String) (lo : String → Option V) : String → Option V := fun x => if x ∈ free then lo x else none
/-- what makes the accumulator -/
noncomputable def AccOk (K : Glo) (na : Sem Value) (c0 : Cel) : Prop := ∀ (A : Around) (s : Shared) (Q : Value → Shared → Prop) (E : Value → Shared → Prop),
  (∀ o : Obj, o.isFreed = false → (∀ h ρ a, h.get? a = some o → CelRep K h ρ c0 a) → Q (.ref s.heap.objs.size) { s with heap := s.heap.push o }) → wpAny (model K.prog K.w) A na Q E s
theorem accOk_list : AccOk K (newList []) (.lst []) := fun A s Q E h => wpAny_newList (h _ rfl fun h ρ a e => ⟨Nat.zero_le _, [], 0, e, RepL.nil⟩) (by simp [sizeLine_eq])
theorem accOk_set : AccOk K (newSet (.type "set")) (.set []) := fun A s Q E h => wpAny_newSet_of (knd := intKind K.prog K.w) fun led hS => h _ rfl fun h' ρ a e => ⟨List.nodup_nil, by
  obtain ⟨o, es, ep, t, e1, r⟩ := hS
  rw [Heap.get?_push_size _ rfl] at e1
  cases e1
  obtain ⟨r1, r2, r3, r4, r5⟩ := r
  exact ⟨_, es, ep, t, e, r1, r2, r3, fun k => by rw [← r4 k]; simp, r5⟩⟩
noncomputable def compTailC (c0 : Cel) (free : List String) (mc : Nat → (S → Nat → Option (Option V)) → M Unit) (v : V) : M V := fun σ => match okIter v σ with
  | .ok _ _ => match mc σ.st.length (nxtOf v) ⟨σ.st ++ [c0], restr free σ.lo⟩ with
    | .ok _ σ' => .ok (.obj σ.st.length) ⟨σ'.st, σ.lo⟩
    | .exc _ _ => .stuck
    | .stuck => .stuck
  | _ => .stuck
noncomputable abbrev compTail (free : List String) (mc : Nat → (S → Nat → Option (Option V)) → M Unit) (v : V) : M V := compTailC (.lst []) free mc v

theorem okIter_ok {v : V} {σ : S} {u : Unit} {σ' : S} (h : okIter v σ = .ok u σ') : okIter v σ = .ok () σ := by
  cases v with
  | obj l =>
    obtain ⟨us, hc⟩ := chkL_list (show chkL (.obj l) σ = .ok u σ' from h)
    exact chkL_ok hc
  | tup vs => rfl
  | rng a b' c =>
    unfold okIter at h ⊢
    by_cases hsm : Builtin.Range.small a b' c = true
    · simp only [hsm, if_true]
    · simp only [hsm] at h; cases h
  | _ => cases h

structure CompOk (F : Frm) (scope : Scope) (cl : List (Str × Addr)) (free : List String) : Prop where
  clos : closureFor scope F.env = pure cl
  kind : scope.kind = .function
  names : ∀ x ∈ scope.names, x.2 = .local → scope.names.lookup x.1 = some .local
  nocell : ∀ x ∈ scope.names, x.2 ≠ .cell
  free : ∀ x ∈ free, ((relabel scope F.env).names.lookup (Str.ofString x) = some .cell ∨ (relabel scope F.env).names.lookup (Str.ofString x) = some .free) ∧ F.env.kindOf (Str.ofString x) ≠ some .local ∧
    ∀ c, F.env.cells.lookup (Str.ofString x) = some c → cl.lookup (Str.ofString x) = some c
  cells : ∀ x c, cl.lookup x = some c → F.env.cells.lookup x = some c

theorem FrsOk.comp {h : Heap} {scope : Scope} {cl : List (Str × Addr)} {C : Addr} (x : FrsOk K F h) : FrsOk K (compFrm F scope cl C) h := x

theorem wp_comp (fk : FOk F) {ce target iter : Expr} {ifs : List Expr} {gs : List Comprehension} {scope : Scope} {fpos : Pos} {cl : List (Str × Addr)} {free : List String} {mi : M V} {mc : Nat → (S → Nat → Option (Option V)) → M Unit}
    {c0 : Cel} {na : Sem Value} {use : Option (Value → Sem Unit)} {Q : Value → Shared → Prop} {E : Value → Shared → Prop} (hcl : clausesOf ce = ⟨target, iter, ifs, 0⟩ :: gs) (hna : AccOk K na c0) (hs : ∀ x, foldedSetIterable iter F.env x = pure x) (ck : CompOk F scope cl free) (hi : SimE K F iter mi)
    (hc : ∀ C, SimClauses K (compFrm F scope cl C) ce 0 mc) {σ : S} {ρ : List Addr} {s : Shared} (rel : Rel K F σ ρ s) (hne : (mi >>= compTailC c0 free mc) σ ≠ .stuck) (hnh : F.nh = true)
    (hQ : ∀ v σ' ρ' s' w C m, (mi >>= compTailC c0 free mc) σ = .ok v σ' → Rel K F σ' ρ' s' → Ext F.mine ρ ρ' s.heap s'.heap → Rep K s'.heap ρ' v w → s'.heap.Ns C m → C ∉ F.mine → C ∉ ρ' → K.base.get? C = none → s.heap.get? C = none →
      compPost (model K.prog K.w) F.A E use Q w C (.ok .next) s')
    (hE : ∀ v s', EO K F ((mi >>= compTailC c0 free mc) σ) ρ s.heap v s' → E v s') :
    wpAny (model K.prog K.w) F.A (comprehension ce scope F.env fpos na false (eval iter F.env) use) Q E s := by
  refine wpAny_comprehension_free (use := use) hcl hs ck.clos ck.kind ck.names ?_
  refine wpAny_mono (Run.bindWp (P := fun x s₁ => wpAny (model K.prog K.w) F.A (pyIter x) (fun it s₂ => wpAny (model K.prog K.w) F.A na (fun acc s₃ =>
      wpAny (model K.prog K.w) F.A (newFunctionEnv scope F.env.globals cl [] F.env.qual none .none (some F.env)) (fun cenv s₄ =>
        codeAny (model K.prog K.w) F.A (.compStart ce 0 it acc { cenv with scope := relabel scope F.env }) (compPost (model K.prog K.w) F.A E use Q acc cenv.locals) s₄) E s₃) E s₂) E s₁)
    (hi σ ρ s rel) hne ?_) (fun _ _ q => q) (fun v s' q => hE v s' q)
  intro v σ₁ ρ₁ s₁ w e1 e2 rel₁ x₁ rv
  rw [e2] at hne hQ hE
  cases hok : okIter v σ₁ with
  | stuck => exact absurd (by unfold compTailC; rw [hok]) hne
  | exc e y => exact absurd (by unfold compTailC; rw [hok]) hne
  | ok u y =>
    have hok' := okIter_ok hok
    have eT : compTailC c0 free mc v σ₁ = (match mc σ₁.st.length (nxtOf v) ⟨σ₁.st ++ [c0], restr free σ₁.lo⟩ with
      | .ok _ σ' => .ok (.obj σ₁.st.length) ⟨σ'.st, σ₁.lo⟩
      | .exc _ _ => .stuck
      | .stuck => .stuck) := by unfold compTailC; rw [hok]
    obtain ⟨obj, Src, hsrc, hfr, hIt, hpy⟩ := wp_pyIter rel₁ rv hok'
    obtain ⟨f0, f1, f2, f3⟩ := fresh_facts rel₁
    refine hpy _ _ _ ?_
    have rel₂ := rel₁.push obj s₁.toks
    have x₂ : Ext F.mine ρ₁ ρ₁ s₁.heap (s₁.heap.push obj) := Ext.push obj
    refine hna _ _ _ _ fun oa hfa hca => ?_
    have hkp : ∀ b o', (s₁.heap.push obj).get? b = some o' → ((s₁.heap.push obj).push oa).get? b = some o' := fun _ _ e => Heap.get?_push_of_some _ e
    obtain ⟨rel₃, x₃⟩ := rel₂.newAtC (c := c0) (s' := { s₁ with heap := (s₁.heap.push obj).push oa }) hkp (Heap.get?_none_of_le (Nat.le_refl _)) (hca _ _ _ (Heap.get?_push_size _ hfa)) rfl rfl
    refine wpAny_newFunctionEnv ck.nocell (by intro y hy; simp at hy) (fun h₄ hns hsb => ?_) ck.kind
    dsimp only at hns hsb rel₃ x₃ ⊢
    generalize hH : (s₁.heap.push obj).push oa = H at hns hsb rel₃ x₃ ⊢
    have hI : (s₁.heap.push obj).objs.size = s₁.heap.objs.size + 1 := Heap.size_push ..
    have hC : H.objs.size = s₁.heap.objs.size + 2 := by rw [← hH, Heap.size_push, hI]
    generalize hCd : H.objs.size = C at hns hsb hC ⊢
    have hkeep : ∀ b o, H.get? b = some o → h₄.get? b = some o := fun b o e => (hsb.2 b (by rw [← hCd]; exact Nat.ne_of_lt (Heap.lt_size e))).trans (Heap.get?_push_of_some _ e)
    have fC : s₁.heap.get? C = none := Heap.get?_none_of_le (by rw [hC]; (first | lia | omega))
    have bC : K.base.get? C = none := by
      cases e : K.base.get? C with
      | none => rfl
      | some o => have := rel₁.base _ _ e; rw [fC] at this; cases this
    have rel₄ : Rel K (compFrm F scope cl C) ⟨σ₁.st ++ [c0], restr free σ₁.lo⟩ (ρ₁ ++ [(s₁.heap.push obj).objs.size]) { s₁ with heap := h₄, toks := s₁.toks + 0 } := by
      refine { toGRel := rel₃.toGRel.kept hkeep rfl rfl, vars := ?_, loc := ⟨_, hns⟩, cels := ?_, mineAbove := ?_, mineApart := ?_, mineLoc := List.mem_singleton.mpr rfl, frs := (rel₃.frs.kept hkeep).comp }
      · intro x v' e
        have hx : x ∈ free := by
          by_cases h : x ∈ free
          · exact h
          · simp only [restr, if_neg h] at e; cases e
        simp only [restr, if_pos hx] at e
        obtain ⟨w', h1, h2⟩ := rel₃.vars x v' e
        refine ⟨w', ?_, Rep.mono' (List.prefix_refl _) (kept_tup hkeep) h2⟩
        obtain ⟨q1, q2, q3⟩ := ck.free x hx
        rcases h1 with ⟨k1, _⟩ | ⟨k1, c, ec, n⟩
        · exact absurd k1 q2
        · exact .inr ⟨q1, c, q3 c ec, n.keeps hkeep⟩
      · intro x c e
        obtain ⟨v', n⟩ := rel₃.cels x c (ck.cells x c e)
        exact ⟨v', n.keeps hkeep⟩
      · intro a ha
        have : a = C := List.mem_singleton.mp ha
        subst this
        obtain ⟨o, _, _, e, _⟩ := hns
        exact ⟨bC, o, e⟩
      · intro a ha hb
        have : a = C := List.mem_singleton.mp ha
        subst this
        obtain ⟨o, e, _⟩ := rel₃.toGRel.alive hb
        rw [Heap.get?_none_of_le (by rw [hCd]; exact Nat.le_refl _)] at e; cases e
    have x₄ : Ext [C] ρ₁ (ρ₁ ++ [(s₁.heap.push obj).objs.size]) s₁.heap h₄ := by
      refine ⟨List.prefix_append _ _, fun b o e => ⟨o, hkeep b o (by rw [← hH]; exact Heap.get?_push_of_some _ (Heap.get?_push_of_some _ e))⟩, fun a ha => ?_, fun b o e _ _ => ⟨o, hkeep b o (by rw [← hH]; exact Heap.get?_push_of_some _ (Heap.get?_push_of_some _ e)), .refl _⟩,
        fun b o e _ => hkeep b o (by rw [← hH]; exact Heap.get?_push_of_some _ (Heap.get?_push_of_some _ e))⟩
      rcases List.mem_append.mp ha with ha | ha
      · exact .inl ha
      · have := List.mem_singleton.mp ha
        subst this
        exact .inr (Heap.get?_none_of_le (by rw [hI]; (first | lia | omega)))
    have hIC : s₁.heap.objs.size ≠ C := by rw [hC]; (first | lia | omega)
    have hne' : mc σ₁.st.length (nxtOf v) ⟨σ₁.st ++ [c0], restr free σ₁.lo⟩ ≠ .stuck := fun e => hne (by rw [eT, e])
    have main := hc C σ₁.st.length (s₁.heap.push obj).objs.size s₁.heap.objs.size Src (nxtOf v) ⟨σ₁.st ++ [c0], restr free σ₁.lo⟩ (ρ₁ ++ [(s₁.heap.push obj).objs.size]) ρ₁ { s₁ with heap := h₄, toks := s₁.toks + 0 } s₁.heap obj
      (hIt _ (fk.comp ck.kind) hnh) rel₄ (by rw [← rel₁.len, List.getElem?_concat_length]) x₄ f0 f1 (fun h => hIC (List.mem_singleton.mp h))
      (fun h => by
        rcases List.mem_append.mp h with h | h
        · exact f3 h
        · have := List.mem_singleton.mp h; rw [hI] at this; exact absurd this (Nat.ne_of_lt (Nat.lt_succ_self _)))
      (hkeep _ _ (by rw [← hH]; exact Heap.get?_push_of_some _ (Heap.get?_push_size _ hfr))) hsrc hne'
    refine codeAny_mono main fun r s' h => ?_
    cases r with
    | error v' =>
      obtain ⟨x, σ', ρ', em, r1, r2, r3⟩ := h
      have hmo : mc σ₁.st.length (nxtOf v) ⟨σ₁.st ++ [c0], restr free σ₁.lo⟩ = .exc x σ' := em
      rw [hmo] at eT
      exact absurd eT hne
    | ok f =>
      obtain ⟨σ', ρ', em, r1, r2, r4⟩ := h
      rw [em] at eT
      have xn : Ext [] ρ₁ ρ' s₁.heap s'.heap := ⟨r2.pre, r2.alive, r2.new, fun b o e n1 _ => r2.keep b o e n1 (fun hm => by have := List.mem_singleton.mp hm; subst this; rw [fC] at e; cases e), r2.froz⟩
      have relF := rel₁.called r1.toGRel xn fk
      obtain ⟨m, hm⟩ := r1.loc
      have hsC : s.heap.get? C = none := by
        cases e : s.heap.get? C with
        | none => rfl
        | some o => obtain ⟨o', e'⟩ := x₁.alive _ _ e; rw [fC] at e'; cases e'
      have hmC : C ∉ F.mine := fun h => by
        obtain ⟨_, o, e⟩ := rel₁.mineAbove _ h
        rw [fC] at e; cases e
      have := hQ (.obj σ₁.st.length) ⟨σ'.st, σ₁.lo⟩ ρ' s' (.ref (s₁.heap.push obj).objs.size) C m eT relF (x₁.trans (ext_of_nil xn)) (Rep.obj_iff.mpr ⟨_, r4, rfl⟩) hm hmC (r1.mineApart C (List.mem_singleton.mpr rfl)) bC hsC
      cases use <;> exact this

theorem simE_listcomp (fk : FOk F) {elt target iter : Expr} {ifs : List Expr} {gs : List Comprehension} {scope : Scope} {pos : Pos} {cl : List (Str × Addr)} {free : List String} {mi : M V} {mc : Nat → (S → Nat → Option (Option V)) → M Unit}
    (ck : CompOk F scope cl free) (hi : SimE K F iter mi)
    (hc : ∀ C, SimClauses K (compFrm F scope cl C) (.ListComp elt (⟨target, iter, ifs, 0⟩ :: gs) scope pos) 0 mc) (hs : ∀ x, foldedSetIterable iter F.env x = pure x := by intro _; rfl) (hnh : F.nh = true := by rfl) :
    SimE K F (.ListComp elt (⟨target, iter, ifs, 0⟩ :: gs) scope pos) (mi >>= compTail free mc) := by
  intro σ ρ s rel
  refine Run.of_wp fun hne => ?_
  show wpAny _ _ (comprehension (.ListComp elt (⟨target, iter, ifs, 0⟩ :: gs) scope pos) scope F.env _ (newList []) false (eval iter F.env) none) _ _ s
  refine wp_comp fk (use := none) rfl accOk_list hs ck hi hc rel hne hnh ?_ fun _ _ q => q
  intro v σ' ρ' s' w C m e r1 x1 rv hm q1 q2 q3 q4
  exact ⟨m, hm, fun h' hsb => ⟨v, σ', ρ', e, r1.butC q3 q1 q2 hm hsb rfl rfl (rel.noFrame q4), x1.butC q4 hsb, Rep.mono' (List.prefix_refl _) (fun b o e f => (hsb.2 b (ns_ne_tup hm e f)).trans e) rv⟩⟩

end

/-! part F16 -/
set_option autoImplicit false
set_option maxRecDepth 100000
set_option linter.unusedVariables false
open PySem PySem.W PyProof.Rows
section
variable {K : Glo} {F : Frm}
noncomputable def rangeB1 : List V → M V
  | [.int n] => pure (.rng 0 n 1)
  | _ => stuck
theorem built_range1 : BuiltOk K (.type "range") rangeB1 := by
  intro F fk hnh σ ρ s vs ws rel r
  rcases (show rangeB1 vs σ = .stuck ∨ ∃ n, vs = [.int n] by
    rcases vs with _ | ⟨v, _ | ⟨u, r⟩⟩
    · exact .inl rfl
    · cases v <;> first | exact .inl rfl | exact .inr ⟨_, rfl⟩
    · cases v <;> exact .inl rfl) with h | ⟨n, rfl⟩
  · rw [h]; exact Run.stuck
  obtain ⟨x, r', rfl, r1, r2⟩ := RepL.cons_iff.mp r
  obtain rfl := RepL.nil_iff.mp r2
  obtain ⟨t, rfl⟩ := Rep.int_iff.mp r1
  exact Run.ok (call_range_1 ⟨ρ, rel.push _ _, Ext.push _, Rep.rng_iff.mpr ⟨_, _, _, _, rfl, IsRange.new ..⟩⟩)
/-! ### reversed(range(..)) -/
noncomputable def revSmall (a b c : Int) : Bool := Builtin.Range.rangeFitsLong a && Builtin.Range.rangeFitsLong b && Builtin.Range.rangeFitsLong c && Builtin.Range.rangeFitsLong (-c) && Builtin.Range.rangeFitsLong (a - c) && Builtin.Range.rangeFitsLong (Builtin.Range.rangeSize a b c)
theorem range_reversed_meets (r : Addr) (a b c : Int) (t u v : Tok) (hc0 : ¬(!(Builtin.Range.rangeFitsLong a && Builtin.Range.rangeFitsLong b && Builtin.Range.rangeFitsLong c && Builtin.Range.rangeFitsLong (-c) && Builtin.Range.rangeFitsLong (a - c) && Builtin.Range.rangeFitsLong (Builtin.Range.rangeSize a b c))) = true) :
    Meets (Builtin.«range.__reversed__» ⟨[.ref r], []⟩) (fun _ R s => s.heap.get? r = some { cls := .type "range", dict := none, data := .fields #[.int a t, .int b u, .int c v], slots := #[] } ∧
      R (.ok (.ret (Value.ref s.heap.objs.size))) { s with heap := s.heap.push { cls := Value.type (if (Builtin.Range.rangeFitsLong a && Builtin.Range.rangeFitsLong b && Builtin.Range.rangeFitsLong c && Builtin.Range.rangeFitsLong (-c) && Builtin.Range.rangeFitsLong (a - c) && Builtin.Range.rangeFitsLong (Builtin.Range.rangeSize a b c)) = true then "range_iterator" else "longrange_iterator"), data := Data.fields #[rawInt (a + (Builtin.Range.rangeSize a b c - 1) * c), rawInt (Builtin.Range.rangeSize a b c), rawInt (-c)] }, toks := s.toks }) :=
  .of_wp fun prog w A R s h => by obtain ⟨hp, g, d, tk, os⟩ := s; obtain ⟨hl, h⟩ := h; wp_walk; exact ⟨_, rfl, h⟩

noncomputable def revRObj (a b c : Int) : Obj := { cls := .type "range_iterator", data := .fields #[rawInt (a + (Builtin.Range.rangeSize a b c - 1) * c), rawInt (Builtin.Range.rangeSize a b c), rawInt (-c)] }
theorem sub_ri_reversed : isSubtype (.type "range_iterator") (.type "reversed") = pure false := by rw [isSubtype_type]; kernel_rfl

section
variable {prog : Program} {w : World} {A : Around} {E : Value → Shared → Prop} {s : Shared}
theorem call_range_reversed {r : Addr} {a b c : Int} {t u v : Tok} {Q : Value → Shared → Prop} (hr : IsRange s.heap r a b c t u v) (hsm : revSmall a b c = true)
    (h : Q (.ref s.heap.objs.size) { s with heap := s.heap.push (revRObj a b c) }) : wpAny (model prog w) A (call (.builtin "range.__reversed__") [.ref r]) Q E s := by
  have hT : s.TypeIs (.ref r) "range" := ⟨_, hr, rfl⟩
  unfold revSmall at hsm
  refine call_meets F.slot_range_reversed hT F.entry_range_reversed (F.args_range_reversed_1 _) (range_reversed_meets r a b c t u v (by rw [hsm]; simp)) ⟨hr, ?_⟩
  simp only [hsm, if_true]
  exact h

theorem code_reversed_range {r : Addr} {a b c : Int} {t u v : Tok} {Q₁ : Value → Shared → Prop} (hr : IsRange s.heap r a b c t u v) (hsm : revSmall a b c = true)
    (h : Q₁ (.ref s.heap.objs.size) { s with heap := s.heap.push (revRObj a b c) }) :
    codeAny (model prog w) A (.call (.builtin "reversed.__new__") ⟨[.type "reversed", .ref r], []⟩) (wants Q₁ E) s := by
  have hT : s.TypeIs (.ref r) "range" := ⟨_, hr, rfl⟩
  refine codeAny_of_tree ?_
  show wpAny _ A.in1 (do checkBuiltinCall "reversed.__new__" ⟨[.type "reversed", .ref r], []⟩; again (.builtin "reversed.__new__" ⟨[.type "reversed", .ref r], []⟩)) _ _ s
  refine wpAny_bind (wpAny_of_eq (F.newCall_reversed_1 _) (wpAny_pure ⟨plainId_quiet F.plain_reversed_new _, codeAny_builtin F.entry_reversed_new ?_⟩))
  rw [Around.under_plainId F.plain_reversed_new _]
  unfold Builtin.«reversed.__new__»
  refine wpAny_bind (wpAny_of_eq (newClass_reversed _) ?_)
  try dsimp only
  refine wpAny_bind (wpAny_of_eq (a := ()) (by first | rfl | kernel_rfl) ?_)
  refine wpAny_bind (wpAny_of_eq (a := ()) (by first | rfl | kernel_rfl) ?_)
  try dsimp only
  refine wpAny_bind (wpAny_specialOf hT F.slot_range_reversed.lookup ?_)
  try dsimp only
  refine wpAny_bind (wpAny_of_eq (F.slot_range_reversed.bind _) ?_)
  try dsimp only
  first
  | rw [if_neg (show ¬ ((Value.builtin "range.__reversed__" == Value.none) = true) from Bool.false_ne_true)]
  | (show wpAny _ _ (if (Value.builtin "range.__reversed__" == Value.none) = true then _ else _) _ _ _; rw [if_neg (show ¬ ((Value.builtin "range.__reversed__" == Value.none) = true) from Bool.false_ne_true)])
  refine wpAny_bind (wpAny_rule ?_)
  refine wpAny_bind (m := runValue (.call (.builtin "range.__reversed__") ⟨[.ref r], []⟩)) (show wpAny _ _ (call (.builtin "range.__reversed__") [.ref r]) _ _ _ from call_range_reversed hr hsm ?_)
  first
  | exact wpAny_pure h
  | exact wpAny_bind (wpAny_pure (wpAny_pure h))

theorem call_reversed_range {r : Addr} {a b c : Int} {t u v : Tok} {Q : Value → Shared → Prop} (hr : IsRange s.heap r a b c t u v) (hsm : revSmall a b c = true)
    (h : Q (.ref s.heap.objs.size) { s with heap := s.heap.push (revRObj a b c) }) : wpAny (model prog w) A (call (.type "reversed") [.ref r]) Q E s := by
  refine callType_other (U := "range_iterator") (Q₁ := fun obj s₁ => obj = .ref s.heap.objs.size ∧ s₁ = { s with heap := s.heap.push (revRObj a b c) }) (by decide +kernel) F.create_reversed ⟨_, _, F.mro_reversed⟩ F.made_reversed sub_ri_reversed (F.typeCall_reversed_1 _) (code_reversed_range hr hsm ⟨rfl, rfl⟩) ?_
  rintro obj s₁ ⟨rfl, rfl⟩
  exact ⟨⟨_, Heap.get?_push_size _ rfl, rfl⟩, h⟩
end

noncomputable def revR : V → M V
  | .rng 0 b 1 => if 0 ≤ b ∧ b < 1000000 then pure (.rng (b - 1) (-1) (-1)) else stuck
  | _ => stuck

theorem revR_if (q : Int) : revR (.rng 0 q 1) = if 0 ≤ q ∧ q < 1000000 then pure (.rng (q - 1) (-1) (-1)) else stuck := rfl
theorem revR_not {v : V} (h : ¬ ∃ q, v = .rng 0 q 1) : revR v = stuck := by
  cases v with
  | rng a q c =>
    match a, c, h with
    | 0, 1, h => exact absurd ⟨q, rfl⟩ h
    | 0, 0, _ => rfl
    | 0, (n + 2 : Nat), _ => rfl
    | 0, Int.negSucc n, _ => rfl
    | (n + 1 : Nat), _, _ => rfl
    | Int.negSucc n, _, _ => rfl
  | _ => rfl
theorem fits_of {i : Int} (h : -1000000 ≤ i ∧ i ≤ 1000000) : Builtin.Range.rangeFitsLong i = true := by
  unfold Builtin.Range.rangeFitsLong
  simp only [Bool.and_eq_true, decide_eq_true_eq]
  (first | lia | omega)
theorem rangeSize_up {b : Int} (h : 0 ≤ b) : Builtin.Range.rangeSize 0 b 1 = b := by
  rw [rangeSize_one]; split <;> (first | lia | omega)
theorem rangeSize_down {b : Int} (h : 0 ≤ b) : Builtin.Range.rangeSize (b - 1) (-1) (-1) = b := by
  unfold Builtin.Range.rangeSize
  rw [if_neg (by (first | lia | omega))]
  split
  · simp
  · (first | lia | omega)

theorem simS_for_rev (fk : FOk F) {target arg : Expr} {body : List Stmt} {ma : M V} {t : V → M Unit} {b : M Fl} {np cpos : Pos} (pos : Pos) (n : Nat) (hx : F.env.kindOf (Str.ofString "reversed") = some .globalImplicit) (hm : K.mg (Str.ofString "reversed") = none)
    (ha : SimE K F arg ma) (ht : SimT K F target t) (hb : SimSs K F body b)
    (hpl : (starEach [arg] F.env).any (·.1) = false := by rfl) (hst : starEach (arg :: []) F.env = (false, eval arg F.env) :: starEach [] F.env := by rfl)
    (hs : ∀ x, foldedSetIterable (.Call (.Name (Str.ofString "reversed") np) [arg] [] cpos) F.env x = pure x := by intro _; rfl) (hnh : F.nh = true := by rfl) :
    SimS K F (.For target (.Call (.Name (Str.ofString "reversed") np) [arg] [] cpos) body [] pos) (do let v ← ma; let r ← revR v; forG (nxtOf r) t b n 0) := by
  intro σ ρ s rel
  rw [exec_For]
  refine Run.standAt ?_
  refine Run.of_wp fun hne => ?_
  refine wpAny_bind ?_
  rw [eval_CallName]
  refine wpAny_bind (wp_builtin fk rel hx hm (v := .type "reversed") (by decide +kernel) ?_)
  refine wp_callWith rfl (by rw [backTo_any]; exact hpl) ?_
  have hEs : SimEs K F [arg] (do let v ← ma; let vs ← (pure [] : M (List V)); pure (v :: vs)) := simEs_cons ha simEs_nil hst
  have hEq : (do let v ← ma; let r ← revR v; forG (nxtOf r) t b n 0 : M Fl) σ = ((do let v ← ma; let vs ← (pure [] : M (List V)); pure (v :: vs)) >>= fun vs => (match vs with | [v] => (do let r ← revR v; forG (nxtOf r) t b n 0 : M Fl) | _ => stuck)) σ := by
    simp only [M.bind_def]
    cases ma σ <;> rfl
  rw [hEq] at hne ⊢
  refine Run.bindWp (hEs cpos σ ρ s rel) hne fun vs σ₁ ρ₁ s₁ ws e1 e2 rel₁ x₁ rv => ?_
  rw [e2] at hne ⊢
  rcases vs with _ | ⟨v, _ | ⟨v2, vs⟩⟩
  · exact absurd rfl hne
  · obtain ⟨w, r', rfl, rv1, rv2⟩ := RepL.cons_iff.mp rv
    obtain rfl := RepL.nil_iff.mp rv2
    dsimp only at hne ⊢
    have hv : ∃ q, v = .rng 0 q 1 ∧ (0 ≤ q ∧ q < 1000000) := by
      by_cases h : ∃ q, v = .rng 0 q 1
      · obtain ⟨q, rfl⟩ := h
        by_cases h : 0 ≤ q ∧ q < 1000000
        · exact ⟨q, rfl, h⟩
        · exact absurd (show (do let r ← revR (.rng 0 q 1); forG (nxtOf r) t b n 0 : M Fl) σ₁ = .stuck by rw [revR_if, if_neg h]; rfl) hne
      · exact absurd (show (do let r ← revR v; forG (nxtOf r) t b n 0 : M Fl) σ₁ = .stuck by rw [revR_not h]; rfl) hne
    obtain ⟨q, rfl, hq⟩ := hv
    have e3 : (do let r ← revR (.rng 0 q 1); forG (nxtOf r) t b n 0 : M Fl) σ₁ = forG (nxtOf (.rng (q - 1) (-1) (-1))) t b n 0 σ₁ := by
      rw [M.bind_def]; rw [revR_if, if_pos hq]; rfl
    rw [e3] at hne ⊢
    obtain ⟨r, t', u, v', rfl, hR⟩ := Rep.rng_iff.mp rv1
    have hsm : revSmall 0 q 1 = true := by
      unfold revSmall
      simp only [Bool.and_eq_true]
      rw [rangeSize_up hq.1]
      refine ⟨⟨⟨⟨⟨fits_of (by (first | lia | omega)), fits_of (by (first | lia | omega))⟩, fits_of (by (first | lia | omega))⟩, fits_of (by (first | lia | omega))⟩, fits_of (by (first | lia | omega))⟩, fits_of (by (first | lia | omega))⟩
    show wpAny _ _ (PySem.call (.type "reversed") [.ref r]) _ _ s₁
    refine call_reversed_range hR hsm ?_
    obtain ⟨f0, f1, f2, f3⟩ := fresh_facts rel₁
    rw [hs, pureBind]
    refine wpAny_bind (wpAny_standAt ?_)
    have hobj : revRObj 0 q 1 = { cls := .type "range_iterator", dict := none, data := .fields #[rawInt (q - 1), rawInt q, rawInt (-1)], slots := #[] } := by
      unfold revRObj
      rw [rangeSize_up hq.1]
      have : (0 : Int) + (q - 1) * 1 = q - 1 := by (first | lia | omega)
      rw [this]
    have hget : (s₁.heap.push (revRObj 0 q 1)).get? s₁.heap.objs.size = some { cls := .type "range_iterator", dict := none, data := .fields #[rawInt (q - 1), rawInt q, rawInt (-1)], slots := #[] } := by
      rw [Heap.get?_push_size _ rfl, hobj]
    refine wpAny_bind (wpAny_holding (wpAny_pyIter_rangeiter hget ?_))
    have hlen : ((rngLen (q - 1) (-1) (-1) : Nat) : Int) = q := by rw [rngLen_eq, rangeSize_down hq.1]
    refine wpAny_mono (run_forLoop ht hb (iter_range (a := q - 1) (b := -1) (c := -1) fk hnh) (rel₁.push _ s₁.toks) (Ext.push _) f0 f1 f2 f3 hget ⟨Nat.zero_le _, ?_⟩ n hne) (fun _ _ q => q.up x₁) fun _ _ q => q.up x₁
    rw [hlen]; simp
  · exact absurd rfl hne

end

/-! part F17 -/
set_option autoImplicit false
set_option maxRecDepth 100000
set_option linter.unusedVariables false
open PySem PySem.W PyProof.Rows
section
variable {K : Glo} {F : Frm}

/-- a new list that lies somewhere above -/
theorem Rel.newAt {σ : S} {ρ : List Addr} {s s' : Shared} {vs : List V} {ws : List Value} {a : Addr} {n : Nat} (rel : Rel K F σ ρ s) (hk : ∀ b o, s.heap.get? b = some o → s'.heap.get? b = some o) (h0 : s.heap.get? a = none)
    (hL : IsL s'.heap a ws.toArray n) (hr : RepL K s.heap ρ vs ws) (hln : vs.length ≤ 1000000) (hg : s'.gens = s.gens) (ho : s'.os = s.os) :
    Rel K F { σ with st := σ.st ++ [.lst vs] } (ρ ++ [a]) s' ∧ Ext F.mine ρ (ρ ++ [a]) s.heap s'.heap :=
  rel.newAtC hk h0 ⟨hln, ws, n, hL, RepL.mono' (List.prefix_refl _) (kept_tup hk) hr⟩ hg ho

/-! ### sorted of ints -/
noncomputable def intsOf : List V → Option (List Int)
  | [] => some []
  | .int i :: vs => (intsOf vs).map (i :: ·)
  | _ :: _ => none
theorem intsOf_are {h : Heap} {ρ : List Addr} : ∀ {vs : List V} {ws : List Value} {ns : List Int}, RepL K h ρ vs ws → intsOf vs = some ns → IntsAre ws ns
  | [], ws, ns, r, e => by rw [RepL.nil_iff.mp r]; cases e; exact .nil
  | .int i :: vs, ws, ns, r, e => by
    obtain ⟨x, r', rfl, r1, r2⟩ := RepL.cons_iff.mp r
    obtain ⟨t, rfl⟩ := Rep.int_iff.mp r1
    unfold intsOf at e
    cases h' : intsOf vs with
    | none => rw [h'] at e; cases e
    | some ns' => rw [h'] at e; cases e; exact .cons i t (intsOf_are r2 h')
  | .none :: _, _, _, _, e => by cases e
  | .bool _ :: _, _, _, _, e => by cases e
  | .str _ :: _, _, _, _, e => by cases e
  | .tup _ :: _, _, _, _, e => by cases e
  | .obj _ :: _, _, _, _, e => by cases e
  | .fn _ :: _, _, _, _, e => by cases e
  | .rng _ _ _ :: _, _, _, _, e => by cases e
theorem ints_rep {h : Heap} {ρ : List Addr} : ∀ {ws : List Value} {ns : List Int}, IntsAre ws ns → RepL K h ρ (ns.map .int) ws
  | _, _, .nil => RepL.nil
  | _, _, .cons n t r => RepL.cons (Rep.int n t) (ints_rep r)

end

/-! part F18 -/
set_option autoImplicit false
set_option maxRecDepth 100000
set_option linter.unusedVariables false
open PySem PySem.W PyProof.Rows
section
variable {K : Glo} {F : Frm}

/-! ### the defs of a text -/
noncomputable def recAt (p : Program) (i : Nat) : DefRec := match p.main.body[i]? with
  | some (.FunctionDef name a b _ _ _ sc _ _ pos) => ⟨name, a, b, sc, pos⟩
  | _ => ⟨Str.ofString "", { posonlyargs := [], args := [], vararg := none, kwonlyargs := [], kw_defaults := [], kwarg := none, defaults := [] }, [], { kind := .function, names := [], isGenerator := false, isCoroutine := false }, ⟨0, 0, 0, 0⟩⟩

noncomputable def frm (d : DefRec) (pm code doc : Value) (L fa : Addr) (A : Around) : Frm := defFrm (PySem.Calls.docDef d.name d.params d.body d.scope pm code doc) L fa A

theorem FOk.def {d : DefRec} {pm code doc : Value} {L fa : Addr} {A : Around} {n : Nat} (hr : Room A n) (hk : d.scope.kind = .function) : FOk (frm d pm code doc L fa A) :=
  ⟨hk, rfl, rfl, fun _ => hr.1, by have := hr.2.2; show A.units + 1000 < cLine; (first | lia | omega)⟩

noncomputable def HasF (K : Glo) (x : String) (lvl : Nat) (g : Fun) : Prop := ∃ fa fd body, K.mg (Str.ofString x) = some (.ref fa) ∧ DefAt K fa fd body ∧ SimF K lvl (.ref fa) g

theorem lenS {l : List Value} {n : Nat} (h : l.length = n + 1) : ∃ a t, l = a :: t ∧ t.length = n := by
  cases l with
  | nil => cases h
  | cons a t => exact ⟨a, t, rfl, Nat.succ.inj h⟩
theorem len1 {l : List Value} (h : l.length = 1) : ∃ a, l = [a] := by
  obtain ⟨a, t, rfl, h2⟩ := lenS h
  exact ⟨a, by rw [List.eq_nil_of_length_eq_zero h2]⟩
theorem len2 {l : List Value} (h : l.length = 2) : ∃ a b, l = [a, b] := by
  obtain ⟨a, t, rfl, h2⟩ := lenS h
  obtain ⟨b, rfl⟩ := len1 h2
  exact ⟨a, b, rfl⟩
theorem len3 {l : List Value} (h : l.length = 3) : ∃ a b c, l = [a, b, c] := by
  obtain ⟨a, t, rfl, h2⟩ := lenS h
  obtain ⟨b, c, rfl⟩ := len2 h2
  exact ⟨a, b, c, rfl⟩
theorem hasF_of {d : DefRec} {x : String} {params : List String} {lvl : Nat} {mb : M Fl} (hd : d ∈ recsOf K.p) (hx : d.name = Str.ofString x) (hsc : d.scope.kind = .function) (hco : d.scope.isCoroutine = false) (hgen : d.scope.isGenerator = false) (hnd : params.Nodup)
    (hbind : ∀ (pm code doc : Value) (ws : List Value), ws.length = params.length → bindArgs (PySem.Calls.docDef d.name d.params d.body d.scope pm code doc) ⟨ws, []⟩ = pure ((params.map Str.ofString).zip ws))
    (hkind : ∀ n, ∀ y ∈ params, d.scope.names.lookup (Str.ofString y) = some .local ∨ (d.scope.names.lookup (Str.ofString y) = some .cell ∧ ((cellsFrom n d.scope.names []).lookup (Str.ofString y)).isSome = true))
    (hb : ∀ pm code doc L fa A, Room A lvl → FOk (frm d pm code doc L fa A) → SimSs K (frm d pm code doc L fa A) d.body mb) : HasF K x (lvl + 1) (funM params mb) := by
  obtain ⟨a, o, pm, code, doc, h1, h2, h3, h4⟩ := K.top.fn d hd
  have da : DefAt K a (PySem.Calls.docDef d.name d.params d.body d.scope pm code doc) d.body := ⟨⟨o, h2, h3⟩, h4, rfl, rfl, rfl, rfl, hco, hgen, hsc⟩
  refine ⟨a, _, d.body, by rw [← hx]; exact h1, da, ?_⟩
  exact simF_def da hnd (hbind pm code doc) hkind fun L A hr => hb pm code doc L a A hr (FOk.def hr hsc)

theorem simE_callF (fk : FOk F) {x : String} {np pos : Pos} {args : List Expr} {ms : M (List V)} {g : Fun} {lvl : Nat} (hf : HasF K x lvl g) (hr : Room F.A lvl)
    (hs : SimEs K F args ms) (hx : F.env.kindOf (Str.ofString x) = some .globalImplicit := by kernel_rfl)
    (hpl : (starEach args F.env).any (·.1) = false := by rfl) (hdb : (Str.ofString x == ("__debug__" : Str)) = false := by decide) :
    SimE K F (.Call (.Name (Str.ofString x) np) args [] pos) (do let vs ← ms; callF g vs) := by
  obtain ⟨fa, fd, body, h1, h2, h3⟩ := hf
  exact simE_callDef fk hx h1 h2 h3 hr hs hpl hdb

theorem simT_cellD {d : DefRec} {pm code doc : Value} {L fa : Addr} {A : Around} (x : String) (pos : Pos) (fk : FOk (frm d pm code doc L fa A)) {c : Addr} (hk : d.scope.names.lookup (Str.ofString x) = some .cell)
    (hc : (cellsFrom (L + 1) d.scope.names []).lookup (Str.ofString x) = some c) : SimT K (frm d pm code doc L fa A) (.Name (Str.ofString x) pos) (fun v => setv x v) :=
  simT_cell x pos fk hk hc (List.mem_cons_of_mem _ (cellAddrs_of hc)) (cell_inj hc)

end

/-! part F19 -/
set_option autoImplicit false
set_option maxRecDepth 100000
set_option linter.unusedVariables false
open PySem PySem.W PyProof.Rows
section
variable {K : Glo} {F : Frm}

theorem wellAll_ints {P : Params} {h : Heap} : ∀ {vs : List Value} {ns : List Int}, WellAll P h vs (ofPys (ns.map PyData.int)) → IntsAre vs ns
  | _, [], x => by cases x; exact .nil
  | _, n :: ns, x => by
    cases x with
    | cons x1 x2 => cases x1; exact .cons n _ (wellAll_ints x2)
theorem well_script {P : Params} {h : Heap} {a : Addr} {ns : List Int} (x : Well P h (.ref a) (ofPy (PyData.list (ns.map PyData.int)))) : ∃ vs, IsL h a vs.toArray 0 ∧ IntsAre vs ns := by
  cases x with
  | list e r => exact ⟨_, e, wellAll_ints r⟩

theorem room_caller {n : Nat} (h : n ≤ 600) : Room callerA n := by
  refine ⟨rfl, ?_, ?_⟩
  · have h1 : callerA.depth = 301 := by decide +kernel
    have h2 : recursionLimit = 1000 := by decide +kernel
    (first | lia | omega)
  · have h1 : callerA.units = 4 := rfl
    have h2 : cLine = 9900 := by decide +kernel
    (first | lia | omega)

theorem top_law {prog : Program} {w : World} {p : Program} {loose : List Str} {mean mean' : ExcName → Option Value} {mg mb : Str → Option Value} {s₁ : Shared} {fa l : Addr} {c : ClaimW} {cl : Str → Option Addr} {args : List WData}
    (T : Top p loose mean mg mb s₁.heap) (hg : s₁.gens = #[]) {g : Fun} {lvl : Nat} {ws : List Value} {ns : List Int}
    (hf : HasF ⟨prog, w, p, loose, mean, mg, mb, s₁.heap, s₁.os, T⟩ "law" lvl g) (hl : lvl ≤ 600) (hmg : mg (Str.ofString "law") = some (.ref fa))
    (hL : IsL s₁.heap l ws.toArray 0) (hI : IntsAre ws ns) (hn : ns.length ≤ 63) {st' : Store} (hlaw : g [.obj 0] [.lst (ns.map .int)] = .ok (.bool true) st')
    (hraise : ∀ cls, c.raises args cls = false) (hpost : c.post args (.bool true) args = true) :
    codeAny (model prog w) callerA (.call (.ref fa) ⟨[.ref l], []⟩) (GoodW c cl mean' args s₁) s₁ := by
  obtain ⟨fa', fd, body, h1, h2, h3⟩ := hf
  have e : fa' = fa := by
    have h1' : mg (Str.ofString "law") = some (.ref fa') := h1
    rw [hmg] at h1'; cases h1'; rfl
  subst e
  have hlen : ws.length = ns.length := by
    have := (ints_rep (K := ⟨prog, w, p, loose, mean, mg, mb, s₁.heap, s₁.os, T⟩) (h := s₁.heap) (ρ := []) hI).length
    simpa using this
  have gr : GRel ⟨prog, w, p, loose, mean, mg, mb, s₁.heap, s₁.os, T⟩ [.lst (ns.map .int)] [l] s₁ := by
    refine ⟨hg, rfl, fun _ _ e => e, rfl, ?_, by simp, ?_⟩
    · intro k a c' h4 h5
      cases k with
      | zero =>
        simp only [List.getElem?_cons_zero, Option.some.injEq] at h4 h5
        subst h4 h5
        exact ⟨by simp; (first | lia | omega), ws, 0, hL, ints_rep hI⟩
      | succ k => simp at h4
    · intro k a h4 h5
      cases k with
      | zero => exact absurd rfl h5
      | succ k => simp at h4
  have main := h3 callerA (room_caller hl) _ [l] s₁ gr ⟨[], rfl, fun _ h => by cases h⟩ [.obj 0] [.ref l] (RepL.cons (Rep.obj_iff.mpr ⟨l, rfl, rfl⟩) RepL.nil) (by rw [hlaw]; simp)
  refine codeAny_mono main fun r s' h => ?_
  rcases h with ⟨v, st1, w1, ρ', e1, rfl, g1, x1, r1⟩ | ⟨e0, st1, w1, ρ', e1, _⟩
  · rw [hlaw] at e1
    cases e1
    rw [Rep.bool_iff.mp r1]
    exact ⟨.inl ⟨_, .bool true, [], rfl, hraise, .bool true, hpost, unshared_nil⟩, g1.base, g1.os, g1.gens⟩
  · rw [hlaw] at e1; cases e1

end

/-! part F20 -/
set_option autoImplicit false
set_option maxRecDepth 100000
set_option linter.unusedVariables false
open PySem PySem.W PyProof.Rows
section
variable {K : Glo} {F : Frm}
/-! ### x += y, where x is a name and y no list -/
end

/-! part F21 -/
set_option autoImplicit false
set_option maxRecDepth 100000
set_option linter.unusedVariables false
open PySem PySem.W PyProof.Rows
section
variable {K : Glo} {F : Frm}

/-! ### x += y -/
noncomputable def InpOk (K : Glo) (op : Operator) (f : V → V → M V) : Prop :=
  ∀ F : Frm, FOk F → ∀ σ ρ s a b wa wb, Rel K F σ ρ s → Rep K s.heap ρ a wa → Rep K s.heap ρ b wb → Run K F (inplaceOp op wa wb) (Rep K) (f a b σ) ρ s

theorem iseq_list : seqSlot? (.type "list") (dunderI "add") = pure (some (.builtin "list.__iadd__")) := PySem.seqSlot_of PySem.F.slot_list_iadd.lookup (by decide +kernel)
theorem wp_iadd_list {A : Around} {s : Shared} {l b : Addr} {items items2 : Array Value} {n n2 : Nat} {Q : Value → Shared → Prop} {E : Value → Shared → Prop} (hl : IsL s.heap l items n) (hb : IsL s.heap b items2 n2) (h1 : items.size ≤ 1000000) (h2 : items2.size ≤ 1000000)
    (h : Q (.ref l) { s with heap := s.heap.update l (Obj.mapSeq fun x => x ++ items2) }) : wpAny (model K.prog K.w) A (inplaceOp .Add (.ref l) (.ref b)) Q E s := by
  have ha : s.TypeIs (.ref l) "list" := ⟨_, hl, rfl⟩
  have hb' : s.TypeIs (.ref b) "list" := ⟨_, hb, rfl⟩
  have hfi : fillsInplaceSlot (.type "list") "add" (Operator.Add == .Add) = pure false := by
    unfold fillsInplaceSlot
    show (typeLookup (.type "list") (dunderI "add") >>= fun fi => pure (fi.isSome && !isSeqSlot fi)) = pure false
    rw [PySem.F.slot_list_iadd.lookup]; rfl
  unfold inplaceOp
  refine wpAny_holding ?_
  refine wpAny_bind (wpAny_typeOf ha (wpAny_bind (wpAny_of_eq hfi ?_)))
  show wpAny _ A (if false = true then _ else _) Q E s
  rw [if_neg Bool.false_ne_true]
  refine wpAny_bind (binaryOp1_none (nm := "add") ha hb' noFill_list_add ?_)
  refine wpAny_bind (wpAny_of_eq iseq_list ?_)
  refine wpAny_bind (wpAny_rule ?_)
  refine call_meets PySem.F.slot_list_iadd ha PySem.F.entry_list_iadd (PySem.F.args_list_iadd_2 _ _) (AutoSeq1.list___iadd___list_list_0 l items n b items2 n2 ?_ (sizeLine_ge h1) (by rw [sizeLine_eq]; (first | lia | omega))) ⟨hl, hb, h⟩
  have : Builtin.List.listTooLong (items.size + items2.size) = false := by
    unfold Builtin.List.listTooLong
    have hz : sizeLine = _ := sizeLine_eq
    simp only [decide_eq_false_iff_not]
    (first | lia | omega)
  simp [this]

noncomputable def iaddV : V → V → M V
  | .int a, .int b => fun σ => .ok (.int (a + b)) σ
  | .obj l, .obj k => fun σ => if l = 0 then .stuck else match σ.st[l]?, σ.st[k]? with
    | some (.lst xs), some (.lst ys) => if (xs ++ ys).length ≤ 1000000 then .ok (.obj l) { σ with st := σ.st.set l (.lst (xs ++ ys)) } else .stuck
    | _, _ => .stuck
  | _, _ => fun _ => .stuck
theorem inp_add : InpOk K .Add iaddV := by
  intro F fk σ ρ s a b wa wb rel ra rb
  cases a with
  | int i =>
    cases b with
    | int j =>
      obtain ⟨t, rfl⟩ := Rep.int_iff.mp ra
      obtain ⟨u, rfl⟩ := Rep.int_iff.mp rb
      exact Run.ok (PyProof.Rows.iadd_int ⟨ρ, rel.tok _, Ext.refl .., Rep.int ..⟩)
    | _ => exact Run.stuck
  | obj l =>
    cases b with
    | obj k =>
      unfold iaddV
      dsimp only
      by_cases hl0 : l = 0
      · rw [if_pos hl0]; exact Run.stuck
      rw [if_neg hl0]
      cases hl : σ.st[l]? with
      | none => exact Run.stuck
      | some c =>
        cases c with
        | set _ => exact Run.stuck
        | itr _ _ _ => exact Run.stuck
        | lst xs =>
          cases hk : σ.st[k]? with
          | none => exact Run.stuck
          | some c' =>
            cases c' with
            | set _ => exact Run.stuck
            | itr _ _ _ => exact Run.stuck
            | lst ys =>
              dsimp only
              obtain ⟨x, ws, n, rfl, hρ, hL, hr, hn⟩ := rel.list ra hl
              obtain ⟨y, us, n', rfl, hρ', hL', hr', hn'⟩ := rel.list rb hk
              by_cases hz : (xs ++ ys).length ≤ 1000000
              · rw [if_pos hz]
                refine Run.ok (wp_iadd_list hL hL' (by rw [List.size_toArray, hr.length]; exact hn) (by rw [List.size_toArray, hr'.length]; exact hn') ?_)
                obtain ⟨rel', x'⟩ := rel.upd (s' := { s with heap := s.heap.update x (Obj.mapSeq fun z => z ++ us.toArray) }) (vs := xs ++ ys) (ws := ws ++ us) hρ hl0 (Heap.SameBut.update ..) (by
                  have := hL.update (fun z => z ++ us.toArray)
                  rw [List.append_toArray] at this
                  exact this) (hr.append hr') hz rfl rfl
                exact ⟨ρ, rel', x', ra.mono x'⟩
              · rw [if_neg hz]; exact Run.stuck
    | _ => exact Run.stuck
  | _ => exact Run.stuck
theorem exec_AugName (x : Str) (npos pos : Pos) (op : Operator) (value : Expr) (env : Env) : exec (.AugAssign (.Name x npos) op value pos) env = (do
    standAt npos
    let old ← loadName env x
    let v ← holding [old] (eval value env)
    standAt pos
    let new ← operate [old, v] (inplaceOp op old v)
    standAt npos
    bindName env x new
    pure .next) := rfl

theorem run_loadName (fk : FOk F) (x : String) (hc : (Str.ofString x == ("__classdict__" : Str)) = false) {σ : S} {ρ : List Addr} {s : Shared} (rel : Rel K F σ ρ s) : Run K F (loadName F.env (Str.ofString x)) (Rep K) (getv x σ) ρ s := by
  unfold getv
  cases e : σ.lo x with
  | none => exact Run.stuck
  | some v =>
    dsimp only
    obtain ⟨w, h1, h2⟩ := rel.vars x v e
    have fin : ∃ ρ', Rel K F σ ρ' s ∧ Ext F.mine ρ ρ' s.heap s.heap ∧ Rep K s.heap ρ' v w := ⟨ρ, rel, Ext.refl .., h2⟩
    rcases h1 with ⟨k, m, n, em⟩ | ⟨k | k, c, ec, n⟩
    · exact Run.ok (wpAny_loadName_local fk.kind k n em fin)
    · exact Run.ok (wpAny_loadName_cell fk.kind k ec n fin)
    · exact Run.ok (wpAny_loadName_free fk.kind k ec n fin hc)

/-- x op= value, x a local name -/
theorem simS_aug (fk : FOk F) {op : Operator} {f : V → V → M V} (ho : InpOk K op f) (x : String) {npos : Pos} {e : Expr} {m : M V} (pos : Pos) (hk : F.env.kindOf (Str.ofString x) = some .local) (h : SimE K F e m)
    (hc : (Str.ofString x == ("__classdict__" : Str)) = false := by decide) :
    SimS K F (.AugAssign (.Name (Str.ofString x) npos) op e pos) (do let a ← getv x; let b ← m; let c ← f a b; setv x c; pure .next) := by
  intro σ ρ s rel
  rw [exec_AugName]
  refine Run.standAt (Run.bind (run_loadName fk x hc rel) fun a σ₁ ρ₁ s₁ wa _ rel₁ x₁ ra => ?_)
  refine Run.bind (Run.holding (h σ₁ ρ₁ s₁ rel₁)) fun b σ₂ ρ₂ s₂ wb _ rel₂ x₂ rb => ?_
  refine Run.standAt (Run.bind (Run.operate (ho F fk σ₂ ρ₂ s₂ a b wa wb rel₂ (ra.mono x₂) rb)) fun c σ₃ ρ₃ s₃ wc _ rel₃ x₃ rc => ?_)
  refine Run.standAt ?_
  have h1 : Run K F (bindName F.env (Str.ofString x) wc) URep (setv x c σ₃) ρ₃ s₃ := by
    refine Run.ok (wpAny_bindName ?_)
    obtain ⟨mm, hm⟩ := rel₃.loc
    refine wpAny_storeName_local hk hm (fun h' hn hs => ?_) (by rw [fk.kind]; rfl)
    obtain ⟨rel', x'⟩ := rel₃.setLocal (s' := { s₃ with heap := h', toks := s₃.toks + 1 }) hk hm hn hs rc rfl rfl
    exact ⟨ρ₃, rel', x', trivial⟩
  exact Run.bind h1 fun _ σ₄ ρ₄ s₄ _ _ rel₄ _ _ => Run.pure rel₄ rfl

/-! ### the names that a comprehension shares with its frame -/
theorem kne_cell {k : Option NameKind} (h : k = some .cell) : k ≠ some .local := by rw [h]; decide
theorem ck_nil {cells : List (Str × Addr)} : ∀ p ∈ ([] : List (Str × Addr)), cells.lookup p.1 = some p.2 := by intro p hp; cases hp
theorem ck_cons {cells cl : List (Str × Addr)} {x : Str} {a : Addr} (h : cells.lookup x = some a) (hs : ∀ p ∈ cl, cells.lookup p.1 = some p.2) : ∀ p ∈ (x, a) :: cl, cells.lookup p.1 = some p.2 := by
  intro p hp
  rcases List.mem_cons.mp hp with rfl | hp
  · exact h
  · exact hs p hp
theorem ck_cells {cl cells : List (Str × Addr)} (hall : ∀ p ∈ cl, cells.lookup p.1 = some p.2) : ∀ x c, cl.lookup x = some c → cells.lookup x = some c :=
  fun x c h => hall (x, c) (mem_of_lookup h)

end

/-! part S1 -/
set_option autoImplicit false
set_option maxRecDepth 100000
set_option linter.unusedVariables false
open PySem PySem.W PyProof.Rows
section
structure Ask (n : Nat) (ask : Nat → Nat → Bool) : Prop where
  asymm : ∀ i j, i < n → j < n → ask i j = true → ask j i = false
  trans : ∀ i j k, i < n → j < n → k < n → ask j i = false → ask k j = false → ask k i = false
section
variable {n : Nat} {ask : Nat → Nat → Bool}
theorem Ask.le_lt (A : Ask n ask) {i j k : Nat} (hi : i < n) (hj : j < n) (hk : k < n) (h1 : ask j i = false) (h2 : ask j k = true) : ask i k = true := by
  cases e : ask i k with
  | true => rfl
  | false => have := A.trans k i j hk hi hj e h1; rw [h2] at this; cases this
noncomputable def at0 (p : Array Nat) (k : Nat) : Nat := p.getD k 0
theorem at0_eq (p : Array Nat) (k : Nat) : at0 p k = p[k]?.getD 0 := by
  unfold at0; by_cases h : k < p.size <;> simp [Array.getD, h]
theorem at_rev {p : Array Nat} {i j : Nat} (hj : j ≤ p.size) (k : Nat) : at0 (kas_rev p i j) k = if i ≤ k ∧ k < j then at0 p (i + j - 1 - k) else at0 p k := by
  rw [at0_eq]; unfold kas_rev
  rw [getElem?_mirror_all hj]
  split <;> rw [at0_eq]
theorem at_bub {p : Array Nat} {src d : Nat} (hs : src < p.size) (hd : d ≤ src) (k : Nat) : at0 (bubble p src d) k = if k = src - d then at0 p src else if src - d < k ∧ k ≤ src then at0 p (k - 1) else at0 p k := by
  rw [at0_eq, getElem?_bubble hs d hd]
  repeat' split
  all_goals rw [at0_eq]

theorem rev_perm (p : Array Nat) (i j : Nat) : (kas_rev p i j).Perm p := mirror_perm ..
end
section
variable {n : Nat} {ask : Nat → Nat → Bool}
noncomputable def Small (n : Nat) (p : Array Nat) : Prop := ∀ k, at0 p k < n
theorem Small.perm {p q : Array Nat} (h : Small n p) (hp : q.Perm p) : Small n q := by
  intro k
  rw [at0_eq]
  by_cases hk : k < q.size
  · have hm : q[k] ∈ p := hp.mem_iff.mp (Array.getElem_mem hk)
    obtain ⟨j, hj, e⟩ := Array.mem_iff_getElem.mp hm
    have := h j
    rw [at0_eq] at this
    simp only [hj, getElem?_pos, Option.getD_some] at this
    simp only [hk, getElem?_pos, Option.getD_some]
    (first | lia | omega)
  · have := h p.size
    rw [at0_eq] at this
    simp at this
    simp [hk]; (first | lia | omega)
end

end

/-! part S2 -/
set_option autoImplicit false
set_option maxRecDepth 100000
set_option linter.unusedVariables false
open PySem PySem.W PyProof.Rows
section
section
variable {prog : Program} {w : World} {A : Around} {E : Value → Shared → Prop} {s : Shared}

/-- the heap while the sort goes -/
noncomputable def midHeap (h : Heap) (a : Addr) (vs : List Value) : Heap := ((h.update a (Obj.mapSeq fun _ => #[])).push (seqObj "tuple" vs.toArray 0)).push (seqObj "list" #[] 0)
/-- the heap behind collecting the items -/
noncomputable def colHeap (h : Heap) (vs : List Value) : Heap := ((h.push (seqObj "list" #[] 0)).update h.objs.size (Obj.mapSeq (· ++ vs.toArray))).push (seqObj "list" vs.toArray 0)
end

end

/-! part S3 -/
set_option autoImplicit false
set_option maxRecDepth 100000
set_option linter.unusedVariables false
open PySem PySem.W PyProof.Rows
section
variable {K : Glo} {F : Frm}

/-! ### sorted of tuples of ints -/
noncomputable def lexB : List Int → List Int → Bool
  | [], [] => false
  | [], _ :: _ => true
  | _ :: _, [] => false
  | a :: as, b :: bs => if a = b then lexB as bs else decide (a < b)

section
variable {prog : Program} {w : World} {A : Around} {E : Value → Shared → Prop} {s : Shared}
theorem lex_at {Q : Bool → Shared → Prop} : ∀ (xs ys : List Value) (as bs : List Int) (fin : Bool) (i : Nat), IntsAre xs as → IntsAre ys bs → (∀ c : Bool, c = (if as.take (min as.length bs.length) = bs.take (min as.length bs.length) then fin else lexB as bs) → Q c s) →
    KatLex prog w A true fin Q (xs.zip ys) i s
  | [], ys, as, bs, fin, i, hx, hy, h => by
    cases hx
    exact kat_nil (h fin (by simp))
  | x :: xs, [], as, bs, fin, i, hx, hy, h => by
    cases hy
    exact kat_nil (h fin (by simp))
  | x :: xs, y :: ys, as, bs, fin, i, hx, hy, h => by
    cases hx with
    | cons a t hx' =>
      rename_i as'
      cases hy with
      | cons b u hy' =>
        rename_i bs'
        show KatLex prog w A true fin Q ((Value.int a t, Value.int b u) :: xs.zip ys) i s
        refine kat_cons (wpAny_eqBool_int ?_)
        by_cases hab : a = b
        · subst hab
          rw [show (a == a) = true by simp]
          refine kat_yes (lex_at xs ys as' bs' fin (i + 1) hx' hy' fun c hc => h c ?_)
          rw [hc]
          simp only [List.length_cons, Nat.succ_min_succ, List.take_succ_cons, List.cons.injEq, true_and, lexB, if_true]
        · rw [show (a == b) = false by simpa using hab]
          refine kat_no ?_
          have hq : Q (decide (a < b)) s := h _ (by
            simp only [List.length_cons, Nat.succ_min_succ, List.take_succ_cons, List.cons.injEq, hab, false_and, if_false, lexB])
          by_cases hi : i = 0
          · subst hi
            exact oneLt_int hq
          · rw [show (true && i == 0) = false by simpa using hi]
            exact kat_one _ _ (PyProof.Rows.lt_int hq)
theorem lex_eq {as bs : List Int} : (if as.take (min as.length bs.length) = bs.take (min as.length bs.length) then decide (as.length < bs.length) else lexB as bs) = lexB as bs := by
  induction as generalizing bs with
  | nil => cases bs <;> simp [lexB]
  | cons a as ih =>
    cases bs with
    | nil => simp [lexB]
    | cons b bs =>
      simp only [List.length_cons, Nat.succ_min_succ, List.take_succ_cons, List.cons.injEq, lexB]
      by_cases hab : a = b
      · subst hab
        simp only [true_and, if_true, Nat.add_lt_add_iff_right]
        exact ih
      · simp [hab]
end

noncomputable def tupInts : V → Option (List Int)
  | .tup vs => match intsOf vs with
    | some (a :: as) => some (a :: as)
    | _ => none
  | _ => none
theorem tupInts_is {v : V} {t : List Int} (h : tupInts v = some t) : ∃ vs, v = .tup vs ∧ intsOf vs = some t ∧ t ≠ [] := by
  cases v with
  | tup vs =>
    unfold tupInts at h
    dsimp only at h
    cases e : intsOf vs with
    | none => rw [e] at h; cases h
    | some ns =>
      rw [e] at h
      cases ns with
      | nil => cases h
      | cons a as => cases h; exact ⟨vs, rfl, e, by simp⟩
  | _ => cases h
noncomputable def tupsOf : List V → Option (List (List Int)) := mapO tupInts
theorem getD_rep {h : Heap} {ρ : List Addr} {vs : List V} {ws : List Value} (r : RepL K h ρ vs ws) {i : Nat} (hi : i < vs.length) : Rep K h ρ (vs.getD i V.none) (ws.getD i Value.none) := by
  obtain ⟨w, e, q⟩ := r.get? (List.getElem?_eq_getElem hi)
  have hw : i < ws.length := (List.getElem?_eq_some_iff.mp e).1
  rw [List.getD_eq_getElem?_getD, List.getD_eq_getElem?_getD, e, List.getElem?_eq_getElem hi]
  exact q
theorem maps_rep {h : Heap} {ρ : List Addr} {vs : List V} {ws : List Value} (r : RepL K h ρ vs ws) : ∀ is : List Nat, (∀ i ∈ is, i < vs.length) → RepL K h ρ (is.map fun i => vs.getD i V.none) (is.map fun i => ws.getD i Value.none)
  | [], _ => RepL.nil
  | i :: is, hi => RepL.cons (getD_rep r (hi i List.mem_cons_self)) (maps_rep r is fun j hj => hi j (List.mem_cons_of_mem _ hj))

/-- the tuples as they lie -/
theorem tups_at {h : Heap} {ρ : List Addr} : ∀ {vs : List V} {ws : List Value} {ts : List (List Int)}, RepL K h ρ vs ws → tupsOf vs = some ts → ts.length = vs.length ∧
    (∀ i, i < vs.length → ∃ a o xs n, ws.getD i Value.none = .ref a ∧ h.get? a = some o ∧ Froz o ∧ o.cls = .type "tuple" ∧ o.data = .seq xs n ∧ IntsAre xs.toList (ts.getD i []) ∧ ts.getD i [] ≠ [])
  | [], ws, ts, r, e => by cases e; exact ⟨rfl, fun i hi => by simp at hi⟩
  | v :: vs, ws, ts, r, e => by
    obtain ⟨w, ws', rfl, r1, r2⟩ := RepL.cons_iff.mp r
    obtain ⟨t, ts', e1, e2, rfl⟩ := mapO_cons e
    obtain ⟨l1, l2⟩ := tups_at r2 e2
    obtain ⟨us, rfl, e3, hne⟩ := tupInts_is e1
    obtain ⟨_, a, xs, rfl, ht, rx⟩ := Rep.tup_iff.mp r1
    obtain ⟨o, ho, hc, n, hd⟩ := ht
    refine ⟨by simp [l1], fun i hi => ?_⟩
    cases i with
    | zero => exact ⟨a, o, xs.toArray, n, rfl, ho, .inl ⟨hc, _, n, hd⟩, hc, hd, by simpa using intsOf_are rx e3, hne⟩
    | succ i => simpa using l2 i (by simpa using hi)

theorem lexB_asymm : ∀ as bs : List Int, lexB as bs = true → lexB bs as = false
  | [], [], h => by cases h
  | [], _ :: _, _ => rfl
  | _ :: _, [], h => by cases h
  | a :: as, b :: bs, h => by
    unfold lexB at h ⊢
    by_cases hab : a = b
    · subst hab
      simp only [if_true] at h ⊢
      exact lexB_asymm as bs h
    · rw [if_neg hab] at h
      rw [if_neg (Ne.symm hab)]
      simp at h ⊢; (first | lia | omega)
theorem lexB_trans : ∀ as bs cs : List Int, lexB bs as = false → lexB cs bs = false → lexB cs as = false
  | [], [], [], _, _ => rfl
  | [], _ :: _, [], _, h => by cases h
  | [], _, _ :: _, _, _ => rfl
  | _ :: _, [], _, h, _ => by cases h
  | _ :: _, _ :: _, [], _, h => by cases h
  | a :: as, b :: bs, c :: cs, h1, h2 => by
    unfold lexB at h1 h2 ⊢
    by_cases hab : b = a
    · subst hab
      simp only [if_true] at h1
      by_cases hcb : c = b
      · subst hcb
        simp only [if_true] at h2 ⊢
        exact lexB_trans as bs cs h1 h2
      · rw [if_neg hcb] at h2 ⊢
        exact h2
    · rw [if_neg hab] at h1
      by_cases hcb : c = b
      · subst hcb
        rw [if_neg hab]; exact h1
      · rw [if_neg hcb] at h2
        simp at h1 h2
        rw [if_neg (by (first | lia | omega))]
        simp; (first | lia | omega)
theorem lexB_total : ∀ as bs : List Int, lexB as bs = false → lexB bs as = false → as = bs
  | [], [], _, _ => rfl
  | [], _ :: _, h, _ => by cases h
  | _ :: _, [], _, h => by cases h
  | a :: as, b :: bs, h1, h2 => by
    unfold lexB at h1 h2
    by_cases hab : a = b
    · subst hab
      simp only [if_true] at h1 h2
      rw [lexB_total as bs h1 h2]
    · rw [if_neg hab] at h1
      rw [if_neg (Ne.symm hab)] at h2
      simp at h1 h2; (first | lia | omega)
theorem mid_keep {h : Heap} {ws : List Value} : ∀ b o, h.get? b = some o → (midHeap (colHeap h ws) (h.objs.size + 1) ws).get? b = some o := by
  intro b o e
  have hlt : b < h.objs.size := Heap.lt_size e
  unfold midHeap colHeap
  refine Heap.get?_push_of_some _ (Heap.get?_push_of_some _ ?_)
  rw [Heap.get?_update_ne _ _ _ _ (Nat.ne_of_lt (Nat.lt_succ_of_lt hlt))]
  refine Heap.get?_push_of_some _ ?_
  rw [Heap.get?_update_ne _ _ _ _ (Nat.ne_of_lt hlt)]
  exact Heap.get?_push_of_some _ e
theorem sortedAll_keep {h : Heap} {xs : List Value} {out : Array Value} : ∀ b o, h.get? b = some o → (sortedAll h xs out).get? b = some o := by
  intro b o e
  have hlt : b < h.objs.size := Heap.lt_size e
  have hne1 : b ≠ h.objs.size := Nat.ne_of_lt hlt
  have hne2 : b ≠ h.objs.size + 1 := Nat.ne_of_lt (Nat.lt_succ_of_lt hlt)
  unfold sortedAll sortedHeap
  rw [Heap.get?_update_ne _ _ _ _ hne2]
  refine Heap.get?_push_of_some _ (Heap.get?_push_of_some _ ?_)
  rw [Heap.get?_update_ne _ _ _ _ hne2]
  refine Heap.get?_push_of_some _ ?_
  rw [Heap.get?_update_ne _ _ _ _ hne1]
  exact Heap.get?_push_of_some _ e
theorem sortedAll_out {h : Heap} {xs : List Value} {out : Array Value} : ∃ m, IsL (sortedAll h xs out) (h.objs.size + 1) out m := by
  have hsz : ((h.push (seqObj "list" #[] 0)).update h.objs.size (Obj.mapSeq (· ++ xs.toArray))).objs.size = h.objs.size + 1 := by
    rw [Heap.size_update, size_push']
  have hoL : (((h.push (seqObj "list" #[] 0)).update h.objs.size (Obj.mapSeq (· ++ xs.toArray))).push (seqObj "list" xs.toArray 0)).get? (h.objs.size + 1) = some (seqObj "list" xs.toArray 0) := by
    rw [← hsz]; exact Heap.get?_push_size _ rfl
  unfold sortedAll sortedHeap
  have h1 := get?_update_seq hoL (fun _ => (#[] : Array Value))
  exact ⟨_, get?_update_seq (Heap.get?_push_of_some (seqObj "list" #[] 0) (Heap.get?_push_of_some (seqObj "tuple" xs.toArray 0) h1)) (fun _ => out)⟩

theorem katTups_of {h : Heap} : ∀ {ws : List Value} {ts : List (List Int)}, ts.length = ws.length → (∀ i, i < ws.length → ∃ a o xs n, ws.getD i Value.none = .ref a ∧ h.get? a = some o ∧ o.cls = .type "tuple" ∧ o.data = .seq xs n ∧ IntsAre xs.toList (ts.getD i []) ∧ ts.getD i [] ≠ []) →
    ∃ fs, KatTups h ws fs ∧ fs.length = ws.length ∧ ∀ v ∈ fs, ∃ i t, v = .int i t
  | [], ts, _, _ => ⟨[], KatTups.nil, rfl, fun v hv => by simp at hv⟩
  | w :: ws, [], e, _ => by simp at e
  | w :: ws, t :: ts, e, hh => by
    obtain ⟨fs, k1, k2, k3⟩ := katTups_of (ws := ws) (ts := ts) (by simpa using e) (fun i hi => by simpa using hh (i + 1) (by simpa using hi))
    obtain ⟨a, o, xs, n, e1, ho, hc, hd, hI, hne⟩ := hh 0 (by simp)
    simp only [List.getD_cons_zero] at e1 hI hne
    subst e1
    cases hx : xs.toList with
    | nil => rw [hx] at hI; cases hI; exact absurd rfl hne
    | cons x r =>
      have hx0 : xs[0]? = some x := by
        have : xs.toList[0]? = some x := by rw [hx]; rfl
        simpa using this
      rw [hx] at hI
      cases hI with
      | cons i t' _ =>
        exact ⟨_, KatTups.cons ho hc hd hx0 k1, by simp [k2], fun v hv => by
          rcases List.mem_cons.mp hv with rfl | hv
          · exact ⟨i, t', rfl⟩
          · exact k3 v hv⟩

end

/-! part S4 -/
set_option autoImplicit false
set_option maxRecDepth 100000
set_option linter.unusedVariables false
open PySem PySem.W PyProof.Rows
section
section
variable {prog : Program} {w : World} {A : Around} {E : Value → Shared → Prop} {s : Shared}
theorem list_sort_rev (a : Addr) : Builtin.«list.sort» ⟨[.ref a], [(Str.ofString "reverse", .bool true)]⟩ = (do
    let items ← Builtin.List.listItems (.ref a)
    Builtin.List.listUpdate (.ref a) fun _ => #[]
    let before ← seqEpoch a
    let held ← newTuple items.toList
    let keyStore ← newList []
    holding [held, keyStore] do
      rule "list.sort.reverse"
      let kind ← if items.size < 2 then pure general' else keyKind' items
      let ((), s) ← (if items.size < 2 then pure () else sortRuns').run (SortSt.mk' kind (items.zip items).reverse #[] 7 none)
      let sorted := (arrOf s).map (·.2)
      let touched := (← seqEpoch a) != before
      Builtin.List.listUpdate (.ref a) fun _ => sorted.reverse
      if let some e := failedOf s then rule "list.sort.comparison-raised"; throw e
      if touched then rule "list.sort.modified"; raiseError "ValueError" "list modified during sort"
      ret .none) := rfl

theorem pairs_rev (vs : List Value) : (vs.toArray.zip vs.toArray).reverse = pairsOf vs.reverse := by
  apply Array.toList_inj.mp
  rw [pairsOf_toList]
  simp only [Array.toList_reverse, Array.toList_zip]
  apply List.ext_getElem
  · simp
  · intro i h1 h2
    simp [List.getElem_reverse, List.getElem_zip]

theorem args_sorted_rev (a : Value) : argsOk "sorted" ⟨[a], [(Str.ofString "reverse", .bool true)]⟩ := by unfold argsOk; kernel_rfl
theorem args_list_sort_rev (a : Value) : argsOk "list.sort" ⟨[a], [(Str.ofString "reverse", .bool true)]⟩ := by unfold argsOk; kernel_rfl

end

end

/-! part S5 -/
set_option autoImplicit false
set_option maxRecDepth 100000
set_option linter.unusedVariables false
open PySem PySem.W PyProof.Rows
section
variable {K : Glo} {F : Frm}

section
variable {prog : Program} {w : World} {A : Around} {E : Value → Shared → Prop} {s : Shared}
theorem small_snd {vs : List Value} : ((vs.toArray.zip vs.toArray).map (·.2)) = vs.toArray := by
  apply Array.toList_inj.mp
  simp only [Array.toList_map, Array.toList_zip]
  exact List.map_snd_zip (Nat.le_refl _)
theorem arrOf_mk (k : SortKind) (a : Array Keyed) : arrOf (SortSt.mk' k a #[] 7 none) = a := rfl
theorem small_rev {vs : List Value} (h : vs.length < 2) : vs.reverse = vs := by
  rcases vs with _ | ⟨a, _ | ⟨b, l⟩⟩
  · rfl
  · rfl
  · exact absurd h (by rw [List.length_cons, List.length_cons]; exact Nat.not_lt.mpr (Nat.le_add_left 2 _))
theorem sort_small {a : Addr} {vs : List Value} {n : Nat} {P : PySem.Fin → Shared → Prop} (ho : s.heap.get? a = some (seqObj "list" vs.toArray n)) (h2 : vs.length < 2)
    (h : P (.done (.ret .none)) { s with heap := sortedHeap s.heap a vs vs.toArray }) (kw : List (Str × Value)) (hkw : kw = [] ∨ kw = [(Str.ofString "reverse", .bool true)]) :
    wpAny (model prog w) A (Builtin.«list.sort» ⟨[.ref a], kw⟩) P E s := by
  have ha : a < s.heap.objs.size := Heap.lt_size ho
  obtain ⟨e1, ho1⟩ : ∃ e1, (s.heap.update a (Obj.mapSeq fun _ => (#[] : Array Value))).get? a = some (seqObj "list" #[] e1) := ⟨_, get?_update_seq ho (fun _ => #[])⟩
  have ho6 : (midHeap s.heap a vs).get? a = some (seqObj "list" #[] e1) := by
    unfold midHeap
    rw [Heap.get?_push_ne _ _ _ (by rw [size_push', Heap.size_update]; exact Nat.ne_of_lt (Nat.lt_succ_of_lt ha)), Heap.get?_push_ne _ _ _ (by rw [Heap.size_update]; exact Nat.ne_of_lt ha)]
    exact ho1
  have hn2 : vs.toArray.size < 2 := by rw [List.size_toArray]; (first | lia | omega)
  rcases hkw with rfl | rfl
  · rw [list_sort_plain]
    refine wpAny_bind (listItems_at ho rfl ?_)
    refine wpAny_bind (listUpdate_at ho rfl ?_ (by rw [List.size_toArray, sizeLine_eq]; (first | lia | omega)) (Nat.zero_le _))
    refine wpAny_bind (seqEpoch_at ho1 rfl ?_)
    refine wpAny_bind (wpAny_newTuple ?_ (by show vs.length ≤ _; rw [sizeLine_eq]; (first | lia | omega)))
    refine wpAny_bind (wpAny_newList ?_ (Nat.zero_le _))
    refine wpAny_holding ?_
    show wpAny (model prog w) A _ P E { s with heap := midHeap s.heap a vs }
    dsimp only
    rw [if_pos hn2, if_pos hn2]
    refine wpAny_bind (wpAny_pure ?_)
    rw [StateT.run_pure]
    refine wpAny_bind (wpAny_pure ?_)
    dsimp only
    rw [arrOf_mk]
    rw [small_snd]
    refine wpAny_bind (seqEpoch_at ho6 rfl ?_)
    refine wpAny_bind (listUpdate_at ho6 rfl ?_ (Nat.zero_le _) (by rw [List.size_toArray, sizeLine_eq]; (first | lia | omega)))
    simp only [bne_self_eq_false, Bool.false_eq_true, if_false]
    exact wpAny_pure h
  · rw [list_sort_rev]
    refine wpAny_bind (listItems_at ho rfl ?_)
    refine wpAny_bind (listUpdate_at ho rfl ?_ (by rw [List.size_toArray, sizeLine_eq]; (first | lia | omega)) (Nat.zero_le _))
    refine wpAny_bind (seqEpoch_at ho1 rfl ?_)
    refine wpAny_bind (wpAny_newTuple ?_ (by show vs.length ≤ _; rw [sizeLine_eq]; (first | lia | omega)))
    refine wpAny_bind (wpAny_newList ?_ (Nat.zero_le _))
    refine wpAny_holding ?_
    show wpAny (model prog w) A _ P E { s with heap := midHeap s.heap a vs }
    dsimp only
    refine wpAny_bind (wpAny_rule ?_)
    rw [if_pos hn2, if_pos hn2]
    refine wpAny_bind (wpAny_pure ?_)
    rw [StateT.run_pure]
    refine wpAny_bind (wpAny_pure ?_)
    dsimp only
    have e : ((vs.toArray.zip vs.toArray).reverse.map (·.2)).reverse = vs.toArray := by
      rw [pairs_rev, small_rev h2]
      show ((vs.toArray.zip vs.toArray).map (·.2)).reverse = _
      rw [small_snd]
      apply Array.toList_inj.mp
      rw [Array.toList_reverse]
      exact small_rev h2
    rw [arrOf_mk]
    rw [e]
    refine wpAny_bind (seqEpoch_at ho6 rfl ?_)
    refine wpAny_bind (listUpdate_at ho6 rfl ?_ (Nat.zero_le _) (by rw [List.size_toArray, sizeLine_eq]; (first | lia | omega)))
    simp only [bne_self_eq_false, Bool.false_eq_true, if_false]
    exact wpAny_pure h
end

section
variable {prog : Program} {w : World} {A : Around} {E : Value → Shared → Prop} {s : Shared}
theorem sorted_small {l : Addr} {vs : List Value} {Q : Value → Shared → Prop} (hl : s.heap.IsList l vs.toArray) (h2 : vs.length < 2)
    (h : Q (.ref (s.heap.objs.size + 1)) { s with heap := sortedAll s.heap vs vs.toArray }) (kw : List (Str × Value)) (hkw : kw = [] ∨ kw = [(Str.ofString "reverse", .bool true)]) :
    wpAny (model prog w) A (call (.builtin "sorted") [.ref l] kw) Q E s := by
  refine call_function_entry_kw kind_sorted plain_sorted entry_sorted (by rcases hkw with rfl | rfl; exact args_sorted1 _; exact args_sorted_rev _) ?_
  unfold Builtin.«sorted»
  refine wpAny_bind (m := checkCount "sorted" 1 1 _) (wpAny_pure ?_)
  refine wpAny_bind (collect_list hl ?_ (by rw [sizeLine_eq]; (first | lia | omega)))
  refine wpAny_bind (wpAny_newList ?_ (by rw [sizeLine_eq]; (first | lia | omega)))
  have hsz : ((s.heap.push (seqObj "list" #[] 0)).update s.heap.objs.size (Obj.mapSeq (· ++ vs.toArray))).objs.size = s.heap.objs.size + 1 := by
    rw [Heap.size_update, size_push']
  have hoL : (colHeap s.heap vs).get? (s.heap.objs.size + 1) = some (seqObj "list" vs.toArray 0) := by
    unfold colHeap
    rw [← hsz]; exact Heap.get?_push_size _ rfl
  show wpAny _ _ _ _ _ { s with heap := colHeap s.heap vs }
  rw [hsz]
  refine wpAny_bind (wpAny_holding (wpAny_call_entry_kw slot_list_sort ⟨_, hoL, rfl⟩ entry_list_sort (sort_small (s := { s with heap := colHeap s.heap vs }) hoL h2 ⟨_, rfl, ?_⟩ kw hkw) (by rcases hkw with rfl | rfl; exact args_list_sort _; exact args_list_sort_rev _)))
  exact wpAny_pure ⟨_, rfl, h⟩
end
end

/-! part F22 -/
set_option autoImplicit false
set_option maxRecDepth 100000
set_option linter.unusedVariables false
open PySem PySem.W PyProof.Rows
section
variable {K : Glo} {F : Frm}
end

/-! part F23 -/
set_option autoImplicit false
set_option maxRecDepth 100000
set_option linter.unusedVariables false
open PySem PySem.W PyProof.Rows
section
variable {K : Glo} {F : Frm}
open PySem.SeqAt PySem.MeetsSeq PySem.MeetsSeq3
end

/-! part F24 -/
set_option autoImplicit false
set_option maxRecDepth 100000
set_option linter.unusedVariables false
open PySem PySem.W PyProof.Rows
section
variable {K : Glo} {F : Frm}

/-! ### min, max of data -/
noncomputable def CmpH (prog : Program) (w : World) (A : Around) (op : CmpOp) (h₀ : Heap) (P : Nat → Value → Prop) (bt : Nat → Nat → Bool) : Prop :=
  ∀ i j vi vj (s : Shared) (Q : Value → Shared → Prop) (E : Value → Shared → Prop), P i vi → P j vj → (∀ b o, h₀.get? b = some o → s.heap.get? b = some o) → Q (.bool (bt i j)) s → wpAny (model prog w) A (richCompare op vi vj) Q E s
noncomputable def allCmp (cd : PyData → PyData → Option Bool) (ds : List PyData) : Bool := ds.all fun a => ds.all fun b => (cd a b).isSome
noncomputable def btOf (cd : PyData → PyData → Option Bool) (ds : List PyData) (i j : Nat) : Bool := match ds[i]?, ds[j]? with
  | some a, some b => (cd a b).getD false
  | _, _ => false
theorem allCmp_get {cd : PyData → PyData → Option Bool} {ds : List PyData} {i j : Nat} {a b : PyData} (h : allCmp cd ds = true) (h1 : ds[i]? = some a) (h2 : ds[j]? = some b) : ∃ r, cd a b = some r := by
  have := (List.all_eq_true.mp ((List.all_eq_true.mp h) a (List.mem_of_getElem? h1))) b (List.mem_of_getElem? h2)
  exact Option.isSome_iff_exists.mp this
theorem mapO_get {α β : Type} {f : α → Option β} : ∀ {vs : List α} {ds : List β} {i : Nat} {v : α}, mapO f vs = some ds → vs[i]? = some v → ∃ d, ds[i]? = some d ∧ f v = some d
  | [], _, _, _, _, h => by simp at h
  | u :: vs, ds, i, v, hd, h => by
    unfold mapO at hd
    cases e1 : f u with
    | none => rw [e1] at hd; simp at hd
    | some d =>
      cases e2 : mapO f vs with
      | none => rw [e1, e2] at hd; simp at hd
      | some ds' =>
        rw [e1, e2] at hd
        simp only [Option.some.injEq] at hd
        subst hd
        cases i with
        | zero => simp at h; subst h; exact ⟨d, by simp, e1⟩
        | succ i =>
          obtain ⟨d', h1, h2⟩ := mapO_get (i := i) e2 (by simpa using h)
          exact ⟨d', by simpa using h1, h2⟩
theorem argBest_lt (bt : Nat → Nat → Bool) {n : Nat} (h : 0 < n) : argBest bt (n - 1) < n := by
  have key : ∀ k, argBest bt k ≤ k := by
    intro k
    induction k with
    | zero => exact Nat.le_refl _
    | succ k ih => unfold argBest; split <;> (first | lia | omega)
  have := key (n - 1); (first | lia | omega)

section
variable {prog : Program} {w : World} {A : Around} {R : Result → Shared → Prop} {I : Addr} {fp wr : List Addr} {n : Nat} {P : Nat → Value → Prop} {St : Nat → Heap → Prop} {h₀ : Heap}

theorem min_loopH (W : Walks prog w A.in1 I fp wr n P St) (bt : Nat → Nat → Bool) (hcmp : CmpH prog w A.in1 .Lt h₀ P bt) (hw : ∀ b ∈ wr, h₀.get? b = none) (S : Addr) (hSf : S ∉ fp) (hS0 : h₀.get? S = none) :
    ∀ (k j : Nat) (s : Shared) (vb : Value) (c : Nat), n - (j + 1) = k → j + 1 ≤ n → St (j + 1) s.heap → P (argBest bt j) vb → (∀ b o, h₀.get? b = some o → s.heap.get? b = some o) →
    s.heap.get? S = some { cls := .type "list", dict := none, data := .seq #[vb, vb] c, slots := #[] } →
    (∀ v h' tk, P (argBest bt (n - 1)) v → (∀ b o, b ∉ wr → b ≠ S → s.heap.get? b = some o → h'.get? b = some o) → R (.ok (.ret v)) { s with heap := h', toks := tk }) →
    codeAny (model prog w) A (.builtin "min.loop" ⟨[.ref I, .none, .ref S], []⟩) R s := by
  have hSw : S ∉ wr := fun h => hSf (W.sub _ h)
  have hname : (toString "min" ++ toString ".loop" : String) = "min.loop" := by decide
  have step : ∀ {s s' : Heap}, (∀ b o, h₀.get? b = some o → s.get? b = some o) → (∀ b o, b ∉ wr → s.get? b = some o → s'.get? b = some o) → ∀ b o, h₀.get? b = some o → s'.get? b = some o := by
    intro s s' h1 h2 b o e
    refine h2 b o (fun hb => ?_) (h1 b o e)
    rw [hw b hb] at e; cases e
  intro k
  induction k with
  | zero =>
    intro j s vb c hk hj hst hPb hX hS hR
    have hin : j + 1 = n := by (first | lia | omega)
    refine codeAny_builtin PySem.F.entry_min_loop ?_
    rw [Around.under_plainId PySem.F.plain_min_loop _]
    show wpAny _ A.in1 (seqItems? (.ref S) >>= _) _ _ s
    refine wpAny_bind (wpAny_seqItems hS rfl ?_)
    show wpAny _ A.in1 (tryCatch (pyNext (.ref I)) _ >>= _) _ _ s
    refine wpAny_bind (wpAny_tryCatch (W.done s _ _ (hin ▸ hst) fun h' tk hk' => ?_))
    have hS' := hk' S _ hSw hS
    show wpAny _ A.in1 (updateSeq S (fun _ => #[]) >>= _) _ _ _
    refine wpAny_bind ?_
    refine wpAny_updateSeq hS' rfl (wpAny_bind (wpAny_letGo (wpAny_pure ?_)))
    refine hR vb _ tk (by rw [← hin]; exact hPb) fun b o hbw hbS e => (Heap.get?_update_other _ _ (Ne.symm hbS)).trans (hk' b o hbw e)
  | succ k ih =>
    intro j s vb c hk hj hst hPb hX hS hR
    have hlt : j + 1 < n := by (first | lia | omega)
    refine codeAny_builtin PySem.F.entry_min_loop ?_
    rw [Around.under_plainId PySem.F.plain_min_loop _]
    show wpAny _ A.in1 (seqItems? (.ref S) >>= _) _ _ s
    refine wpAny_bind (wpAny_seqItems hS rfl ?_)
    show wpAny _ A.in1 (tryCatch (pyNext (.ref I)) _ >>= _) _ _ s
    refine wpAny_bind (wpAny_tryCatch (W.item (j + 1) s _ _ hlt hst fun v h' tk hP hst' hk' => ?_))
    have hS' := hk' S _ hSw hS
    have hX' := step hX hk'
    show wpAny _ A.in1 (tryCatch (holding [v, v] (richCompare .Lt v vb >>= _)) _ >>= _) _ _ _
    refine wpAny_bind (wpAny_tryCatch (wpAny_holding (wpAny_bind (hcmp (j + 1) (argBest bt j) v vb _ _ _ hP hPb hX' ?_))))
    refine wpAny_bind (wpAny_holding (wpAny_truthy_bool ?_))
    refine wpAny_bind (wpAny_letGo (wpAny_pure ?_))
    cases hb : bt (j + 1) (argBest bt j) with
    | true =>
      simp only [if_true]
      refine wpAny_bind ?_
      refine wpAny_updateSeq hS' rfl (wpAny_bind (wpAny_letGo ?_))
      rw [hname]
      have other : ∀ b o, b ≠ S → h'.get? b = some o → (h'.update S (Obj.mapSeq fun _ => #[v, v])).get? b = some o := fun b o hbS e => (Heap.get?_update_other _ _ (Ne.symm hbS)).trans e
      refine wpAny_pure ⟨plainId_quiet PySem.F.plain_min_loop _, ih (j + 1) _ v _ (by (first | lia | omega)) hlt (W.frame _ _ _ hst' fun b hbf o e => ?_) (by simp only [argBest, hb, if_true]; exact hP) (fun b o e => ?_) (Heap.get?_update_self _ hS' rfl)
        fun v' h'' tk'' hP' hk'' => ?_⟩
      · exact other b o (fun h => hSf (by rw [← h]; exact hbf)) e
      · exact other b o (fun h => by rw [h, hS0] at e; cases e) (hX' b o e)
      · exact hR v' h'' tk'' hP' fun b o hbw hbS e => hk'' b o hbw hbS (other b o hbS (hk' b o hbw e))
    | false =>
      simp only [Bool.false_eq_true, if_false]
      refine wpAny_bind (wpAny_letGo ?_)
      rw [hname]
      refine wpAny_pure ⟨plainId_quiet PySem.F.plain_min_loop _, ih (j + 1) _ vb c (by (first | lia | omega)) hlt hst' (by simp only [argBest, hb, Bool.false_eq_true, if_false]; exact hPb) hX' hS' fun v' h'' tk'' hP' hk'' => ?_⟩
      exact hR v' h'' tk'' hP' fun b o hbw hbS e => hk'' b o hbw hbS (hk' b o hbw e)

theorem min_firstH (W : Walks prog w A.in1 I fp wr n P St) (bt : Nat → Nat → Bool) (hcmp : CmpH prog w A.in1 .Lt h₀ P bt) (hw : ∀ b ∈ wr, h₀.get? b = none) (S : Addr) (hSf : S ∉ fp) (hS0 : h₀.get? S = none) (hn : 0 < n) {s : Shared} {c : Nat} (hst : St 0 s.heap)
    (hX : ∀ b o, h₀.get? b = some o → s.heap.get? b = some o)
    (hS : s.heap.get? S = some { cls := .type "list", dict := none, data := .seq #[] c, slots := #[] })
    (hR : ∀ v h' tk, P (argBest bt (n - 1)) v → (∀ b o, b ∉ wr → b ≠ S → s.heap.get? b = some o → h'.get? b = some o) → R (.ok (.ret v)) { s with heap := h', toks := tk }) :
    codeAny (model prog w) A (.builtin "min.loop" ⟨[.ref I, .none, .ref S], []⟩) R s := by
  have hSw : S ∉ wr := fun h => hSf (W.sub _ h)
  have hname : (toString "min" ++ toString ".loop" : String) = "min.loop" := by decide
  refine codeAny_builtin PySem.F.entry_min_loop ?_
  rw [Around.under_plainId PySem.F.plain_min_loop _]
  show wpAny _ A.in1 (seqItems? (.ref S) >>= _) _ _ s
  refine wpAny_bind (wpAny_seqItems hS rfl ?_)
  show wpAny _ A.in1 (tryCatch (pyNext (.ref I)) _ >>= _) _ _ s
  refine wpAny_bind (wpAny_tryCatch (W.item 0 s _ _ hn hst fun v h' tk hP hst' hk' => ?_))
  have hS' := hk' S _ hSw hS
  show wpAny _ A.in1 (updateSeq S (fun _ => #[v, v]) >>= _) _ _ _
  refine wpAny_bind ?_
  refine wpAny_updateSeq hS' rfl ?_
  rw [hname]
  have other : ∀ b o, b ≠ S → h'.get? b = some o → (h'.update S (Obj.mapSeq fun _ => #[v, v])).get? b = some o := fun b o hbS e => (Heap.get?_update_other _ _ (Ne.symm hbS)).trans e
  refine wpAny_pure ⟨plainId_quiet PySem.F.plain_min_loop _, min_loopH W bt hcmp hw S hSf hS0 _ 0 _ v _ rfl hn (W.frame _ _ _ hst' fun b hbf o e => ?_) hP (fun b o e => ?_) (Heap.get?_update_self _ hS' rfl) fun v' h'' tk'' hP' hk'' => ?_⟩
  · exact other b o (fun h => hSf (by rw [← h]; exact hbf)) e
  · exact other b o (fun h => by rw [h, hS0] at e; cases e) (hk' b o (fun hb => by rw [hw b hb] at e; cases e) (hX b o e))
  · exact hR v' h'' tk'' hP' fun b o hbw hbS e => hk'' b o hbw hbS (other b o hbS (hk' b o hbw e))
end

section
variable {prog : Program} {w : World} {A : Around} {E : Value → Shared → Prop} {s : Shared}


theorem call_min_walkH {x : Value} {Q : Value → Shared → Prop}
    (h : wpAny (model prog w) A.in1 (pyIter x) (fun it s₂ => ∃ I fp wr n P St bt h₀, it = .ref I ∧ Walks prog w A.in1 I fp wr n P St ∧ St 0 s₂.heap ∧ (∀ b ∈ fp, b < s₂.heap.objs.size) ∧ 0 < n ∧ CmpH prog w A.in1 .Lt h₀ P bt ∧ (∀ b ∈ wr, h₀.get? b = none) ∧
      (∀ b o, h₀.get? b = some o → s₂.heap.get? b = some o) ∧
      ∀ v h' tk, P (argBest bt (n - 1)) v → (∀ b o, b ∉ wr → s₂.heap.get? b = some o → h'.get? b = some o) → Q v { s₂ with heap := h', toks := tk }) E s) :
    wpAny (model prog w) A (call (.builtin "min") [x]) Q E s := by
  have hname : (toString "min" ++ toString ".loop" : String) = "min.loop" := by decide
  refine call_function_tree PySem.F.kind_min PySem.F.plain_min PySem.F.entry_min (PySem.F.args_min1 _) ?_
  show wpAny _ A.in1 (Builtin.Builtins.bindParams "min" ["key", "default"] 0 ⟨[], []⟩ >>= _) _ _ s
  refine wpAny_bind (wpAny_of_eq (show Builtin.Builtins.bindParams "min" ["key", "default"] 0 ⟨[], []⟩ = pure [none, none] from rfl) ?_)
  refine wpAny_bind (wpAny_pure ?_)
  refine wpAny_bind (wpAny_mono h (fun it s₂ h₂ => ?_) fun _ _ e => e)
  obtain ⟨I, fp, wr, n, P, St, bt, h₀, rfl, W, hst, hfp, hn, hcmp, hw, hX, hQ⟩ := h₂
  refine wpAny_bind (wpAny_newObj_type ?_)
  have hSf : s₂.heap.objs.size ∉ fp := fun hm => Nat.lt_irrefl _ (hfp _ hm)
  have hS0 : h₀.get? s₂.heap.objs.size = none := by
    cases e : h₀.get? s₂.heap.objs.size with
    | none => rfl
    | some o => exact absurd (Heap.lt_size (hX _ o e)) (Nat.lt_irrefl _)
  rw [hname]
  refine wpAny_pure ⟨plainId_quiet PySem.F.plain_min_loop _, min_firstH W bt hcmp hw s₂.heap.objs.size hSf hS0 hn (W.frame _ _ _ hst fun b _ o e => Heap.get?_push_of_some _ e) (fun b o e => Heap.get?_push_of_some _ (hX b o e)) (Heap.get?_push_size _ rfl) fun v h' tk hP hk => ?_⟩
  exact hQ v h' tk hP fun b o hbw e => hk b o hbw (Nat.ne_of_lt (Heap.lt_size e)) (Heap.get?_push_of_some _ e)

end

section
/-- min of the items of a list, or of two -/
noncomputable def minL (vs : List V) : M V := fun σ => match mapO (toD σ.st 6) vs with
  | some ds => if 0 < vs.length ∧ allCmp ltD ds = true then .ok (vs.getD (argBest (btOf ltD ds) (vs.length - 1)) .none) σ else .stuck
  | none => .stuck
noncomputable def minD : List V → M V
  | [.obj l] => fun σ => match σ.st[l]? with
    | some (.lst vs) => minL vs σ
    | _ => .stuck
  | [a, b] => minL [a, b]
  | _ => fun _ => .stuck
theorem min_cmp {A : Around} {σ : S} {ρ : List Addr} {s : Shared} {vs : List V} {ws : List Value} {ds : List PyData} (g : GRel K σ.st ρ s) (r : RepL K s.heap ρ vs ws) (hd : mapO (toD σ.st 6) vs = some ds) (hall : allCmp ltD ds = true) (hu : A.units + 7 < cLine) :
    CmpH K.prog K.w A .Lt s.heap (fun i v => ws.toArray[i]? = some v) (btOf ltD ds) := by
  intro i j vi vj s' Q E hi hj hX hQ
  have g' : GRel K σ.st ρ { s with heap := s'.heap } := g.kept hX rfl rfl
  have r' := r.mono (Ext.kept (mine := []) hX)
  obtain ⟨ui, e1, ri⟩ := r'.getW (i := i) (by simpa using hi)
  obtain ⟨uj, e2, rj⟩ := r'.getW (i := j) (by simpa using hj)
  obtain ⟨di, f1, t1⟩ := mapO_get hd e1
  obtain ⟨dj, f2, t2⟩ := mapO_get hd e2
  obtain ⟨as, r1, c1, p1⟩ := toD_reads g' 6 ui vi di t1 ri
  obtain ⟨bs, r2, c2, p2⟩ := toD_reads g' 6 uj vj dj t2 rj
  obtain ⟨x, hx⟩ := allCmp_get hall f1 f2
  have hb : btOf ltD ds i j = x := by
    unfold btOf
    rw [f1, f2]; dsimp only; rw [hx]; rfl
  rw [hb] at hQ
  exact ltAt_reads di dj A s' vi vj as bs x r1 r2 c1 c2 (by (first | lia | omega)) hx K.prog K.w E Q hQ
noncomputable def minLB : List V → M V
  | [.obj l] => fun σ => match σ.st[l]? with
    | some (.lst vs) => minL vs σ
    | _ => .stuck
  | _ => fun _ => .stuck
theorem built_minLB : BuiltOk K (.builtin "min") minLB := by
  intro F fk hnh σ ρ s vs ws rel r
  have hu := fk.units
  rcases (show minLB vs σ = .stuck ∨ ∃ x, vs = [.obj x] by
    rcases vs with _ | ⟨v, _ | ⟨u, r⟩⟩
    · exact .inl rfl
    · cases v <;> first | exact .inl rfl | exact .inr ⟨_, rfl⟩
    · cases v <;> exact .inl rfl) with h | ⟨l, rfl⟩
  · rw [h]; exact Run.stuck
  unfold minLB
  dsimp only
  obtain ⟨x, r', rfl, r1, r2⟩ := RepL.cons_iff.mp r
  obtain rfl := RepL.nil_iff.mp r2
  cases hl : σ.st[l]? with
  | none => exact Run.stuck
  | some c =>
    cases c with
    | set _ => exact Run.stuck
    | itr _ _ _ => exact Run.stuck
    | lst us =>
      dsimp only
      unfold minL
      cases hd : mapO (toD σ.st 6) us with
      | none => exact Run.stuck
      | some ds =>
        dsimp only
        by_cases hz : 0 < us.length ∧ allCmp ltD ds = true
        · rw [if_pos hz]
          obtain ⟨a, xs, n, rfl, hρ, hL, hr, hn⟩ := rel.list r1 hl
          have hxl : xs.length = us.length := hr.length
          have hlt : a < s.heap.objs.size := by obtain ⟨_, e, _⟩ := hL.isList; exact Heap.lt_size e
          refine Run.ok (call_min_walkH (wpAny_pyIter_list hL.isList ?_))
          refine ⟨_, [s.heap.objs.size, a], [s.heap.objs.size], xs.toArray.size, _, _, btOf ltD ds, s.heap, rfl, Walks.list (A := F.A.in1) (by show F.A.handled = none; exact fk.hd hnh) _ a (Nat.ne_of_lt hlt) xs.toArray, ⟨⟨_, Heap.get?_push_size _ rfl, rfl, rfl⟩, hL.isList.push _⟩, ?_, by simp; (first | lia | omega), min_cmp rel.toGRel hr hd hz.2 (by have : F.A.in1.units = F.A.units + 1 := rfl; (first | lia | omega)), ?_, fun b o e => Heap.get?_push_of_some _ e, ?_⟩
          · intro b hb
            show b < (s.heap.push _).objs.size
            rw [Heap.size_push]
            simp only [List.mem_cons, List.not_mem_nil, or_false] at hb
            rcases hb with rfl | rfl
            · exact Nat.lt_succ_self _
            · exact Nat.lt_succ_of_lt hlt
          · intro b hb
            rw [List.mem_singleton.mp hb]
            exact Heap.get?_none_of_le (Nat.le_refl _)
          · intro v h' tk hP hk
            have hk' : ∀ b o, s.heap.get? b = some o → h'.get? b = some o := fun b o e => hk b o (by simp; exact Nat.ne_of_lt (Heap.lt_size e)) (Heap.get?_push_of_some _ e)
            refine ⟨ρ, rel.kept hk' rfl rfl, Ext.kept hk', ?_⟩
            have hsz : xs.toArray.size - 1 = us.length - 1 := by simp; (first | lia | omega)
            rw [hsz] at hP
            have hlt2 := argBest_lt (btOf ltD ds) hz.1
            obtain ⟨u, e1, ru⟩ := (hr.mono (Ext.kept (mine := []) hk')).getW (by simpa using hP)
            rw [List.getD_eq_getElem?_getD, e1]; exact ru
        · rw [if_neg hz]; exact Run.stuck
end

section
variable {prog : Program} {w : World} {A : Around} {R : Result → Shared → Prop} {I : Addr} {fp wr : List Addr} {n : Nat} {P : Nat → Value → Prop} {St : Nat → Heap → Prop} {h₀ : Heap}
end

section
variable {prog : Program} {w : World} {A : Around} {E : Value → Shared → Prop} {s : Shared}
end

section
end

end

/-! part F26 -/
set_option autoImplicit false
set_option maxRecDepth 100000
set_option linter.unusedVariables false
open PySem PySem.W PyProof.Rows
section
variable {K : Glo} {F : Frm}
end

/-! part F27 -/
set_option autoImplicit false
set_option maxRecDepth 100000
set_option linter.unusedVariables false
open PySem PySem.W PyProof.Rows
section
variable {K : Glo} {F : Frm}
/-! ### t[:b] of a tuple -/
section
variable {prog : Program} {w : World} {A : Around} {E : Value → Shared → Prop} {s : Shared}
end
end

/-! part F29 -/
set_option autoImplicit false
set_option maxRecDepth 100000
set_option linter.unusedVariables false
open PySem PySem.W PyProof.Rows
section
variable {K : Glo} {F : Frm}

/-! ### the frame while an exception is handled -/
noncomputable def Fh (F : Frm) (v : Value) : Frm := ⟨F.env, F.A.mark (some v), F.mine, false⟩
theorem FOk.h (fk : FOk F) (v : Value) : FOk (Fh F v) := ⟨fk.kind, fk.glob, fk.blt, (fun q => by cases q), fk.units⟩
theorem Rel.h {σ : S} {ρ : List Addr} {s : Shared} (rel : Rel K F σ ρ s) (v : Value) : Rel K (Fh F v) σ ρ s :=
  { toGRel := rel.toGRel, vars := rel.vars, loc := rel.loc, cels := rel.cels, mineAbove := rel.mineAbove, mineApart := rel.mineApart, mineLoc := rel.mineLoc, frs := rel.frs }
theorem Rel.unh {σ : S} {ρ : List Addr} {s : Shared} {v : Value} (rel : Rel K (Fh F v) σ ρ s) : Rel K F σ ρ s :=
  { toGRel := rel.toGRel, vars := rel.vars, loc := rel.loc, cels := rel.cels, mineAbove := rel.mineAbove, mineApart := rel.mineApart, mineLoc := rel.mineLoc, frs := rel.frs }
noncomputable def S.del (σ : S) (x : String) : S := { σ with lo := fun y => if y = x then none else σ.lo y }
theorem Rel.del {σ : S} {ρ : List Addr} {s : Shared} (rel : Rel K F σ ρ s) (x : String) : Rel K F (σ.del x) ρ s :=
  { toGRel := rel.toGRel, vars := fun y v e => by
      by_cases hy : y = x
      · simp only [S.del, hy, if_true] at e; cases e
      · simp only [S.del, if_neg hy] at e; exact rel.vars y v e
    loc := rel.loc, cels := rel.cels, mineAbove := rel.mineAbove, mineApart := rel.mineApart, mineLoc := rel.mineLoc, frs := rel.frs }
/-- a name that the plain state does not know is bound, or unbound -/
theorem Rel.setRaw {σ : S} {ρ : List Addr} {s s' : Shared} {x : String} {w : Option Value} {m : Str → Option Value} (rel : Rel K F σ ρ s) (hx : σ.lo x = none) (hm : s.heap.Ns F.env.locals m)
    (hn : s'.heap.Ns F.env.locals (fun y => if y = Str.ofString x then w else m y)) (hs : Heap.SameBut F.env.locals s.heap s'.heap) (hg : s'.gens = s.gens) (ho : s'.os = s.os) : Rel K F σ ρ s' ∧ Ext F.mine ρ ρ s.heap s'.heap := by
  have ht : ∀ b o, s.heap.get? b = some o → Froz o → b ≠ F.env.locals := fun b o e f => ns_ne_tup hm e f
  have hal : ∃ o, s'.heap.get? F.env.locals = some o := by obtain ⟨o, _, _, e, _⟩ := hn; exact ⟨o, e⟩
  have ext : Ext F.mine ρ ρ s.heap s'.heap := Ext.mineBut rel.mineLoc hs hal ht
  have hfr : FrsOk K F s'.heap := rel.frs.next fun b o es n g d => by
    by_cases hb : b = F.env.locals
    · subst hb
      obtain ⟨o', es', ep', g', d', _⟩ := hn
      exact ⟨o', _, _, g', d'⟩
    · exact ⟨o, es, n, (hs.2 b hb).trans g, d⟩
  refine ⟨{ toGRel := rel.toGRel.mineBut (rel.mineAbove _ rel.mineLoc).1 (rel.mineApart _ rel.mineLoc) hs ht hg ho, vars := ?_, loc := ⟨_, hn⟩, cels := ?_, mineAbove := ?_, mineApart := rel.mineApart, mineLoc := rel.mineLoc, frs := hfr }, ext⟩
  · intro y u e
    have hy : y ≠ x := fun q => by rw [q, hx] at e; cases e
    obtain ⟨w', h1, h2⟩ := rel.vars y u e
    refine ⟨w', ?_, h2.mono ext⟩
    rcases h1 with ⟨k1, m1, n1, e1⟩ | ⟨k1, c, e1, n1⟩
    · refine .inl ⟨k1, _, hn, ?_⟩
      have hne : ¬ Str.ofString y = Str.ofString x := fun q => hy (ofString_inj q)
      rw [if_neg hne]
      obtain ⟨o1, es1, ep1, g1, d1, _, f1⟩ := n1
      obtain ⟨o2, es2, ep2, g2, d2, _, f2⟩ := hm
      rw [g1] at g2; cases g2; rw [d1] at d2; cases d2
      rw [← f2, f1]; exact e1
    · exact .inr ⟨k1, c, e1, n1.sameBut hs (fun q => cell_ne_ns n1 hm q.symm)⟩
  · intro y c e
    obtain ⟨v', n⟩ := rel.cels y c e
    exact ⟨v', n.sameBut hs (fun q => cell_ne_ns n hm q.symm)⟩
  · intro b hb
    obtain ⟨h1, o, h2⟩ := rel.mineAbove b hb
    obtain ⟨o', h3⟩ := ext.alive b o h2
    exact ⟨h1, o', h3⟩

/-! ### what stands in a handler's first statement -/
/-- the name n holds an exception with words msg -/
noncomputable def Caught (F : Frm) (n : Str) (v : Value) (cls : String) (msg : Str) (h : Heap) : Prop := ∃ a t tok m, v = .ref a ∧ h.Ns F.env.locals m ∧ m n = some (.ref a) ∧ h.ExcAt a cls (.ref t) ∧ h.TupAt t [.str msg tok]
noncomputable def SimEX (P : Heap → Prop) (K : Glo) (F : Frm) (e : Expr) (m : M V) : Prop := ∀ σ ρ s, Rel K F σ ρ s → P s.heap → Run K F (eval e F.env) (fun h ρ v w => P h ∧ Rep K h ρ v w) (m σ) ρ s
noncomputable def SimEsX (P : Heap → Prop) (K : Glo) (F : Frm) (es : List Expr) (m : M (List V)) : Prop := ∀ (pos : Pos) σ ρ s, Rel K F σ ρ s → P s.heap → Run K F (spliced (backTo pos (starEach es F.env))) (fun h ρ v w => P h ∧ RepL K h ρ v w) (m σ) ρ s
noncomputable def SimSX (P : Heap → Prop) (K : Glo) (F : Frm) (st : Stmt) (m : M Fl) : Prop := ∀ σ ρ s, Rel K F σ ρ s → P s.heap → Run K F (exec st F.env) (FlRep K) (m σ) ρ s
noncomputable def SimSsX (P : Heap → Prop) (K : Glo) (F : Frm) (st : List Stmt) (m : M Fl) : Prop := ∀ σ ρ s, Rel K F σ ρ s → P s.heap → Run K F (execs st F.env) (FlRep K) (m σ) ρ s
section
variable {P : Heap → Prop}
theorem simEX_name (fk : FOk F) (x : String) (pos : Pos) (hd : (Str.ofString x == ("__debug__" : Str)) = false := by decide) (hc : (Str.ofString x == ("__classdict__" : Str)) = false := by decide) :
    SimEX P K F (.Name (Str.ofString x) pos) (getv x) := by
  intro σ ρ s rel hP
  unfold getv
  cases e : σ.lo x with
  | none => exact Run.stuck
  | some v =>
    dsimp only
    obtain ⟨w, h1, h2⟩ := rel.vars x v e
    refine Run.ok (wpAny_Name ?_ hd)
    have fin : ∃ ρ', Rel K F σ ρ' s ∧ Ext F.mine ρ ρ' s.heap s.heap ∧ P s.heap ∧ Rep K s.heap ρ' v w := ⟨ρ, rel, Ext.refl .., hP, h2⟩
    rcases h1 with ⟨k, m, n, em⟩ | ⟨k | k, c, ec, n⟩
    · exact wpAny_loadName_local fk.kind k n em fin
    · exact wpAny_loadName_cell fk.kind k ec n fin
    · exact wpAny_loadName_free fk.kind k ec n fin hc
theorem simEsX_nil : SimEsX P K F [] (pure []) := fun _ _ _ _ rel hP => Run.pure rel ⟨hP, RepL.nil⟩
theorem simEsX_cons {e : Expr} {es : List Expr} {m : M V} {ms : M (List V)} (he : SimEX P K F e m) (hs : SimEsX P K F es ms)
    (hst : starEach (e :: es) F.env = (false, eval e F.env) :: starEach es F.env := by rfl) : SimEsX P K F (e :: es) (do let v ← m; let vs ← ms; pure (v :: vs)) := by
  intro pos σ ρ s rel hP
  rw [hst]
  show Run K F (spliced ((false, eval e F.env) :: backTo pos (starEach es F.env))) _ _ ρ s
  rw [spliced_cons_eq]
  refine Run.bind (he σ ρ s rel hP) fun a σ₁ ρ₁ s₁ wa _ rel₁ x₁ ra => ?_
  refine Run.bind (Run.holding (hs pos σ₁ ρ₁ s₁ rel₁ ra.1)) fun b σ₂ ρ₂ s₂ wb _ rel₂ x₂ rb => ?_
  exact Run.pure rel₂ ⟨rb.1, RepL.cons (ra.2.mono x₂) rb.2⟩
theorem simSX_return_tuple {es : List Expr} {ms : M (List V)} (k : Nat) (pos tpos : Pos) (hs : SimEsX P K F es ms) : SimSX P K F (.Return (some (.Tuple es k tpos)) pos) (do let v ← (do let vs ← ms; mkT vs); pure (.ret v)) := by
  intro σ ρ s rel hP
  rw [exec_Return_some]
  refine Run.standAt (Run.bind (R := Rep K) (m := (do let vs ← ms; mkT vs)) ?_ fun v σ₁ ρ₁ s₁ w _ rel₁ x₁ r => Run.pure rel₁ ⟨w, rfl, r⟩)
  show Run K F (do standAt tpos; newTuple (← spliced (backTo tpos (starEach es F.env)))) (Rep K) _ ρ s
  refine Run.standAt (Run.bind (hs tpos σ ρ s rel hP) fun a σ₁ ρ₁ s₁ wa _ rel₁ x₁ ra => ?_)
  unfold mkT
  split
  · exact run_newTuple rel₁ ra.2 ‹_›
  · exact Run.stuck
theorem simSsX_cons {st : Stmt} {sts : List Stmt} {m ms : M Fl} (h : SimSX P K F st m) (hs : SimSs K F sts ms) : SimSsX P K F (st :: sts) (seqM m ms) := by
  intro σ ρ s rel hP
  show Run K F (do match ← exec st F.env with | .next => execs sts F.env | f => pure f) _ _ ρ s
  refine Run.bind (h σ ρ s rel hP) fun f σ₁ ρ₁ s₁ wf _ rel₁ x₁ rf => ?_
  cases f with
  | next => have : wf = .next := rf; subst this; exact hs σ₁ ρ₁ s₁ rel₁
  | brk => have : wf = .brk := rf; subst this; exact Run.pure rel₁ rfl
  | cont => have : wf = .cont := rf; subst this; exact Run.pure rel₁ rfl
  | ret v => obtain ⟨w, e, r⟩ := rf; subst e; exact Run.pure rel₁ ⟨w, rfl, r⟩
theorem simSsX_one {st : Stmt} {m : M Fl} (h : SimSX P K F st m) : SimSsX P K F [st] m := by
  intro σ ρ s rel hP
  have := simSsX_cons h simSs_nil σ ρ s rel hP
  have e : seqM m (pure .next) σ = m σ := by
    unfold seqM
    rw [M.bind_def]
    cases m σ with
    | stuck => rfl
    | exc x y => rfl
    | ok f y => cases f <;> rfl
  rw [e] at this; exact this
end
/-- str(n) of what was caught -/
theorem simEX_strOf (fk : FOk F) {n : String} {v : Value} {cls N : String} {msg : Str} (FX : ExcStrFacts cls N) {np ap pos : Pos} (hx : F.env.kindOf (Str.ofString "str") = some .globalImplicit) (hm : K.mg (Str.ofString "str") = none)
    (hn : F.env.kindOf (Str.ofString n) = some .local) (hst : starEach [.Name (Str.ofString n) ap] F.env = [(false, eval (.Name (Str.ofString n) ap) F.env)] := by rfl)
    (hd : (Str.ofString n == ("__debug__" : Str)) = false := by decide) :
    SimEX (Caught F (Str.ofString n) v cls msg) K F (.Call (.Name (Str.ofString "str") np) [.Name (Str.ofString n) ap] [] pos) (pure (.str msg)) := by
  intro σ ρ s rel hP
  have hP0 := hP
  obtain ⟨a, t, tok, m, h1, h2, h3, h4, h5⟩ := hP
  refine Run.ok ?_
  rw [eval_CallName]
  refine wpAny_bind (wp_builtin fk rel hx hm (v := .type "str") (by decide +kernel) ?_)
  refine wp_callWith rfl (by rw [backTo_any, hst]; rfl) ?_
  rw [hst]
  show wpAny _ _ (spliced ((false, eval (.Name (Str.ofString n) ap) F.env) :: backTo pos [])) _ _ s
  rw [spliced_cons_eq]
  refine wpAny_bind (wpAny_Name (wpAny_loadName_local fk.kind hn h2 h3 ?_) hd)
  refine wpAny_bind (wpAny_holding (wpAny_pure ?_))
  refine wpAny_pure ?_
  have hu := fk.units
  exact P.str_of_exc_one FX (by (first | lia | omega)) h4 h5 ⟨ρ, rel, Ext.refl .., hP0, Rep.str ..⟩

end

/-! part F30 -/
set_option autoImplicit false
set_option maxRecDepth 100000
set_option linter.unusedVariables false
open PySem PySem.W PyProof.Rows
section
variable {K : Glo} {F : Frm}

/-! ### try: .. except T as n: .. -/
noncomputable def tryM (body : M Fl) (h : Exc → M Fl) : M Fl := fun σ => match body σ with
  | .ok f σ' => .ok f σ'
  | .exc e σ' => h e σ'
  | .stuck => .stuck
noncomputable def noH : Exc → M Fl := fun _ => stuck
noncomputable def hndM (T n : String) (mh : Str → M Fl) (rest : Exc → M Fl) : Exc → M Fl := fun e σ =>
  if e.cls = T then (match mh e.msg (σ.del n) with
    | .ok f σ' => .ok f (σ'.del n)
    | _ => .stuck)
  else if e.cls = "IndexError" ∨ e.cls = "TypeError" then rest e σ else .stuck

noncomputable def SimHs (K : Glo) (F : Frm) (hs : List ExceptHandler) (h : Exc → M Fl) : Prop := ∀ e σ ρ ρ₀ h₀ s v, Rel K F σ ρ s → Ext F.mine ρ₀ ρ h₀ s.heap → XRepN K F e h₀ v s → h e σ ≠ .stuck →
  wpAny (model K.prog K.w) F.A (handleBy v F.env hs) (QO K F (FlRep K) (h e σ) ρ₀ h₀) (EO K F (h e σ) ρ₀ h₀) s
theorem simHs_nil : SimHs K F [] noH := fun _ _ _ _ _ _ _ _ _ _ hne => absurd rfl hne

structure ExcT (T : String) : Prop where
  exc : isSubtype (.type T) (.type "BaseException") = pure true
  nt : isSubtype (.type ((Manifest.find? T).elim "type" fun x => x.metatype)) (.type "tuple") = pure false
  self : isSubtype (.type T) (.type T) = pure true
  ix : "IndexError" ≠ T → isSubtype (.type "IndexError") (.type T) = pure false
  ty : "TypeError" ≠ T → isSubtype (.type "TypeError") (.type T) = pure false
theorem excT_TypeError : ExcT "TypeError" := ⟨by rw [isSubtype_type]; kernel_rfl, by rw [isSubtype_type]; kernel_rfl, by rw [isSubtype_type]; kernel_rfl, fun _ => by rw [isSubtype_type]; kernel_rfl, fun h => absurd rfl h⟩

theorem simHs_as (fk : FOk F) {T n : String} {np pos : Pos} {b₀ : Stmt} {suite : List Stmt} {rest : List ExceptHandler} {mh : Str → M Fl} {mr : Exc → M Fl} (HT : ExcT T)
    (hx : F.env.kindOf (Str.ofString T) = some .globalImplicit) (hm : K.mg (Str.ofString T) = none) (hb : bootBuiltins (Str.ofString T) = some (.type T)) (hn : F.env.kindOf (Str.ofString n) = some .local)
    (hs : ∀ v msg, SimSsX (Caught (Fh F v) (Str.ofString n) v T msg) K (Fh F v) (b₀ :: suite) (mh msg)) (hr : SimHs K F rest mr)
    (hnn : Str.ofString T ≠ "__name__" := by decide) (hdd : (Str.ofString T == ("__debug__" : Str)) = false := by decide) :
    SimHs K F (.ExceptHandler (some (.Name (Str.ofString T) np)) (some (Str.ofString n)) (b₀ :: suite) pos :: rest) (hndM T n mh mr) := by
  intro e σ ρ ρ₀ h₀ s v rel ext x hne
  have x0 := x
  obtain ⟨X, hfresh, hX, hcls, a, t, tok, oe, vs, rfl, haX, ht, ha, hc, hd, h0, hst⟩ := x0
  have hT : s.TypeIs (.ref a) e.cls := ⟨oe, ha, hc⟩
  unfold hndM at hne ⊢
  by_cases hq : e.cls = T
  · rw [if_pos hq] at hne ⊢
    subst hq
    refine wpAny_handleBy_builtin_as (X := e.cls) (T := e.cls) (b := true) HT.exc HT.nt HT.self ?_
    refine wp_builtin (F := Fh F (.ref a)) (fk.h _) (rel.h _) hx hm hb ⟨rfl, hT, ?_⟩ hnn hdd
    rw [if_pos rfl]
    refine XRepB.flight (F := Fh F (.ref a)) (e := e) (ρ₀ := ρ₀) (h₀ := h₀) x (rel.h _) ext (.inl rfl) fun s₂ rel₂ ext₂ x₂ => ?_
    obtain ⟨X₂, f₂, g₂, _, a', t', tok', oe', vs', q1, q2, q3, q4, q5, q6, q7, q8⟩ := x₂
    cases q1
    have rel₂' := (rel₂.del n)
    obtain ⟨m, hm₂⟩ := rel₂.loc
    refine wpAny_storeName_local (env := F.env) hn hm₂ (fun h' hn' hs' => ?_) (by rw [show F.env.scope.kind = .function from fk.kind]; rfl)
    obtain ⟨rel₃, x₃⟩ := rel₂'.setRaw (s' := { s₂ with heap := h', toks := s₂.toks + 1 }) (x := n) (w := some (.ref a)) (by simp [S.del]) hm₂ hn' hs' rfl rfl
    have hal : a ≠ F.env.locals := fun q => (g₂ a q2).2 (q ▸ rel.mineLoc)
    have hcaught : Caught (Fh F (.ref a)) (Str.ofString n) (.ref a) e.cls e.msg h' := by
      obtain ⟨o3, g3, c3, n3, d3⟩ := q3
      refine ⟨a, t', tok', _, rfl, hn', by simp, ⟨oe', vs', (hs'.2 a hal).trans q4, q5, q6, q7⟩, ?_⟩
      exact ⟨o3, n3, x₃.froz t' o3 g3 (.inl ⟨c3, _, n3, d3⟩), c3, d3⟩
    have hrun := hs (.ref a) e.msg (σ.del n) ρ { s₂ with heap := h', toks := s₂.toks + 1 } rel₃ hcaught
    cases em : mh e.msg (σ.del n) with
    | stuck => rw [em] at hne; exact absurd rfl hne
    | exc y z => rw [em] at hne; exact absurd rfl hne
    | ok f σ' =>
      (try rw [em] at hrun); (try rw [em] at hne); (try dsimp only at hne ⊢)
      refine wpAny_mono hrun (fun wf s₄ h₄ => ?_) fun _ _ h => h.elim
      obtain ⟨ρ', rel₄, x₄, rf⟩ := h₄
      obtain ⟨m₄, hm₄⟩ := rel₄.loc
      refine wpAny_nameGoes_keeps hn hm₄ (by rw [show F.env.scope.kind = .function from fk.kind]; rfl) fun h₅ u hn₅ hs₅ => ?_
      obtain ⟨rel₅, x₅⟩ := (rel₄.unh.del n).setRaw (s' := { s₄ with heap := h₅, toks := s₄.toks + 1 }) (x := n) (w := u) (by simp [S.del]) hm₄ hn₅ hs₅ rfl rfl
      refine ⟨f, σ'.del n, ρ', rfl, rel₅, ((ext₂.trans x₃).trans x₄).trans x₅, ?_⟩
      cases f with
      | ret v' =>
        obtain ⟨w, e1, r1⟩ := rf
        exact ⟨w, e1, r1.mono x₅⟩
      | _ => exact rf
  · rw [if_neg hq] at hne ⊢
    by_cases hk : e.cls = "IndexError" ∨ e.cls = "TypeError"
    · rw [if_pos hk] at hne ⊢
      have hsub : isSubtype (.type e.cls) (.type T) = pure false := by
        rcases hk with h | h
        · rw [h] at hq ⊢; exact HT.ix hq
        · rw [h] at hq ⊢; exact HT.ty hq
      refine wpAny_handleBy_builtin_as (X := e.cls) (T := T) (b := false) HT.exc HT.nt hsub ?_
      refine wp_builtin (F := Fh F (.ref a)) (fk.h _) (rel.h _) hx hm hb ⟨rfl, hT, ?_⟩ hnn hdd
      rw [if_neg Bool.false_ne_true]
      exact hr e σ ρ ρ₀ h₀ s _ rel ext x hne
    · rw [if_neg hk] at hne; exact absurd rfl hne

theorem simS_try (fk : FOk F) {body : List Stmt} {h₀ : ExceptHandler} {hs : List ExceptHandler} {pos : Pos} {mb : M Fl} {mh : Exc → M Fl} (hb : SimSs K F body mb) (hh : SimHs K F (h₀ :: hs) mh) :
    SimS K F (.Try body (h₀ :: hs) [] [] pos) (tryM mb mh) := by
  intro σ ρ s rel
  refine Run.of_wp fun hne => ?_
  refine wpAny_Try_except ?_
  unfold tryM at hne ⊢
  have hrun := hb σ ρ s rel
  cases em : mb σ with
  | stuck => rw [em] at hne; exact absurd rfl hne
  | ok f σ' =>
    (try rw [em] at hrun); (try rw [em] at hne); (try dsimp only at hne ⊢)
    refine wpAny_mono hrun (fun wf s₁ h₁ => ?_) fun _ _ h => h.elim
    obtain ⟨ρ', rel₁, x₁, rf⟩ := h₁
    have fin : QO K F (FlRep K) (.ok f σ') ρ s.heap wf s₁ := ⟨f, σ', ρ', rfl, rel₁, x₁, rf⟩
    cases f with
    | next => have : wf = .next := rf; subst this; exact wpAny_execs_nil fin
    | brk => have : wf = .brk := rf; subst this; exact fin
    | cont => have : wf = .cont := rf; subst this; exact fin
    | ret v => obtain ⟨w, e, r⟩ := id rf; subst e; exact fin
  | exc e σ' =>
    (try rw [em] at hrun); (try rw [em] at hne); (try dsimp only at hne ⊢)
    refine wpAny_mono hrun (fun _ _ h => h.elim) fun v s₁ h₁ => ?_
    obtain ⟨ρ', rel₁, x₁, xr⟩ := h₁
    refine xr.noted rel₁ x₁ fun s₂ rel₂ x₂ xn => ?_
    refine XRepB.flight xn rel₂ x₂ (.inl rfl) fun s₃ rel₃ x₃ xf => ?_
    refine hh e σ' ρ' ρ s.heap s₃ v rel₃ x₃ ?_ hne
    obtain ⟨X', f', g', hc', a', t', tok', oe', vs', q1, q2, q3, q4, q5, q6, q7, q8⟩ := xf
    refine ⟨X', f', g', hc', a', t', tok', oe', vs', q1, q2, q3, q4, q5, q6, q7, ?_⟩
    rcases q8 with ⟨q, _⟩ | ⟨T', oT', ts', fl', r1, r2, r3, r4, r5, r6, r7, r8⟩
    · cases q
    · exact .inr ⟨T', oT', ts', fl', r1, r2, r3, r4, r5, r6, r7, r8.1⟩

end

/-! part F31 -/
set_option autoImplicit false
set_option maxRecDepth 100000
set_option linter.unusedVariables false
open PySem PySem.W PyProof.Rows
section
variable {K : Glo} {F : Frm}
/-! ### list(x) of a list or a tuple -/
noncomputable def listB : List V → M V
  | [.obj l] => fun σ => match σ.st[l]? with
    | some (.lst vs) => .ok (.obj σ.st.length) { σ with st := σ.st ++ [.lst vs] }
    | _ => .stuck
  | [.tup vs] => fun σ => .ok (.obj σ.st.length) { σ with st := σ.st ++ [.lst vs] }
  | _ => stuck

theorem list_out {σ : S} {ρ : List Addr} {s : Shared} {T : String} {o : Obj} {it : Addr} {items : List Value} {n : Nat} {vs : List V} (rel : Rel K F σ ρ s) (hT : T = "list" ∨ T = "tuple")
    (ho : s.heap.get? it = some o) (hc : o.cls = .type T) (hd : o.data = .seq items.toArray n) (hr : RepL K s.heap ρ vs items) (hn : vs.length ≤ 1000000) :
    wpAny (model K.prog K.w) F.A (PySem.call (.type "list") [.ref it]) (fun v s' => ∃ ρ', Rel K F { σ with st := σ.st ++ [.lst vs] } ρ' s' ∧ Ext F.mine ρ ρ' s.heap s'.heap ∧ Rep K s'.heap ρ' (.obj σ.st.length) v) (fun _ _ => False) s := by
  refine call_list_seq it hT ho hc hd (fun h' c' hk hD => ?_) (sizeLine_ge (by rw [List.size_toArray, hr.length]; exact hn))
  obtain ⟨rel', x'⟩ := rel.newAt (s' := { s with heap := h' }) (a := s.heap.objs.size) (n := c') hk (Heap.get?_none_of_le (Nat.le_refl _)) hD hr hn rfl rfl
  exact ⟨_, rel', x', Rep.obj_iff.mpr ⟨_, by rw [← rel.len]; exact List.getElem?_concat_length, rfl⟩⟩

theorem built_list : BuiltOk K (.type "list") listB := by
  intro F fk hnh σ ρ s vs ws rel r
  rcases (show listB vs σ = .stuck ∨ (∃ x, vs = [.obj x]) ∨ ∃ x, vs = [.tup x] by
    rcases vs with _ | ⟨v, _ | ⟨u, r⟩⟩
    · exact .inl rfl
    · cases v <;> first | exact .inl rfl | exact .inr (.inl ⟨_, rfl⟩) | exact .inr (.inr ⟨_, rfl⟩)
    · cases v <;> exact .inl rfl) with h | ⟨l, rfl⟩ | ⟨us, rfl⟩
  · rw [h]; exact Run.stuck
  · unfold listB
    dsimp only
    obtain ⟨x, r', rfl, r1, r2⟩ := RepL.cons_iff.mp r
    obtain rfl := RepL.nil_iff.mp r2
    cases hl : σ.st[l]? with
    | none => exact Run.stuck
    | some c =>
      cases c with
      | set _ => exact Run.stuck
      | itr _ _ _ => exact Run.stuck
      | lst us =>
        dsimp only
        obtain ⟨a, xs, n, rfl, hρ, hL, hr, hn⟩ := rel.list r1 hl
        exact Run.ok (list_out rel (.inl rfl) hL rfl rfl hr hn)
  · obtain ⟨x, r', rfl, r1, r2⟩ := RepL.cons_iff.mp r
    obtain rfl := RepL.nil_iff.mp r2
    obtain ⟨hz, a, xs, rfl, ⟨o, ho, hc, n, hd⟩, hr⟩ := Rep.tup_iff.mp r1
    exact Run.ok (list_out rel (.inr rfl) ho hc hd hr hz)

end

/-! part F32 -/
set_option autoImplicit false
set_option maxRecDepth 100000
set_option linter.unusedVariables false
open PySem PySem.W PyProof.Rows
section
variable {K : Glo} {F : Frm}

/-! ### less than, where TypeError counts -/
noncomputable def ltWords (a b : String) : String := s!"'{"<"}' not supported between instances of '{a}' and '{b}'"
noncomputable def te0 : PyData → PyData → Option (String × String)
  | .int _, y => match y with
    | .str _ => some ("int", "str")
    | _ => none
  | .str _, y => match y with
    | .int _ => some ("str", "int")
    | _ => none
  | _, _ => none
noncomputable def teAll : List PyData → List PyData → Option (String × String)
  | x :: xs, y :: ys => if PyData.eqv x y = true then teAll xs ys else te0 x y
  | _, _ => none
noncomputable def teD : PyData → PyData → Option (String × String)
  | .tuple _, y => match y with
    | .none => some ("tuple", "NoneType")
    | _ => none
  | .list xs, y => match y with
    | .list ys => teAll xs ys
    | _ => none
  | x, y => te0 x y
noncomputable def teX (a b : V) : M V := fun σ => match toD σ.st 6 a, toD σ.st 6 b with
  | some d, some d' => match teD d d' with
    | some p => .exc ⟨"TypeError", Str.ofString (ltWords p.1 p.2)⟩ σ
    | none => .stuck
  | _, _ => .stuck
noncomputable def ltX (a b : V) : M V := fun σ => match ltV a b σ with
  | .stuck => teX a b σ
  | r => r

open PySem.SeqAt PySem.MeetsSeq PySem.MeetsSeq3
section
variable {prog : Program} {w : World} {A : Around} {E : Value → Shared → Prop} {s : Shared}
theorem lt_declined {a b : Value} {Ta Tb ida idb : String} {Q : Value → Shared → Prop} (hh : A.handled = none) (ha : s.TypeIs a Ta) (hb : s.TypeIs b Tb)
    (hne : (Value.type Ta != Value.type Tb) = true) (hsub : isSubtype (.type Tb) (.type Ta) = pure false) (h1 : Slot Ta (cmpInfo .Lt).2.1 ida) (h2 : Slot Tb (cmpInfo .Lt).2.2 idb)
    (hna : (Value.type Ta == Value.type "builtin_function_or_method") = false) (hnb : (Value.type Tb == Value.type "builtin_function_or_method") = false)
    (hc1 : ∀ Q' : Value → Shared → Prop, Q' .notImplemented s → wpAny (model prog w) A (call (.builtin ida) [a, b]) Q' E s)
    (hc2 : ∀ Q' : Value → Shared → Prop, Q' .notImplemented s → wpAny (model prog w) A (call (.builtin idb) [b, a]) Q' E s)
    (hr : [a, b].any Value.onHeap = false ∨ A.units < cLine) (hw : (Str.ofString (ltWords (shownName Ta) (shownName Tb))).length ≤ sizeLine)
    (h : E (.ref (s.heap.objs.size + 1)) { s with heap := excHeap s.heap "TypeError" (Str.ofString (ltWords (shownName Ta) (shownName Tb))) s.toks, toks := s.toks + 1 }) : wpAny (model prog w) A (richCompare .Lt a b) Q E s := by
  rcases hi : cmpInfo CmpOp.Lt with ⟨sym, f, r⟩
  have hs : sym = "<" := by have := congrArg Prod.fst hi; exact this.symm
  subst hs
  rw [hi] at h1 h2
  simp only [richCompare, hi, ha.oneThing_none]
  try with_reducible refine wpAny_holding ?_
  refine wpAny_bind (wpAny_cRoomFor_or hr ?_)
  refine wpAny_bind (wpAny_typeOf ha (wpAny_bind (wpAny_typeOf hb ?_)))
  simp only [hne, if_true]
  refine wpAny_bind (wpAny_of_eq hsub ?_)
  simp only [Bool.false_eq_true, if_false, Bool.not_false, if_true]
  refine wpAny_bind (m := tryCompare a _ b) (wpAny_tryCompare_declines ha h1 (hc1 _ ⟨rfl, ?_⟩))
  refine wpAny_bind (m := tryCompare b _ a) (wpAny_tryCompare_declines hb h2 (hc2 _ ⟨rfl, ?_⟩))
  refine wpAny_bind (wpAny_rule (wpAny_bind (wpAny_typeNameOf' ha hna (wpAny_bind (wpAny_typeNameOf' hb hnb ?_)))))
  exact raise_made plainExc_TypeError hh hw h

theorem tuple_lt_none (l : Addr) (items : Array Value) (n : Nat) (dd : Option Addr) (sl : Array (Option Value)) :
    Meets (Builtin.«tuple.__lt__» ⟨[.ref l, .none], []⟩) (fun _ R s => s.heap.get? l = some { cls := .type "tuple", dict := dd, data := .seq items n, slots := sl } ∧ R (.ok (.ret .notImplemented)) s) :=
  .of_wp fun prog w A R s h => by obtain ⟨hp, g, d, tk, os⟩ := s; obtain ⟨hl, h⟩ := h; have f1 := F.sub_NoneType_tuple; wp_walk using wpAny_loadPart' hl; exact ⟨_, rfl, h⟩
theorem none_gt_ref (l : Addr) : Gives (Builtin.«NoneType.__gt__» ⟨[.none, .ref l], []⟩) (.val .notImplemented) :=
  .of_wp fun M A E s Q h => by obtain ⟨hp, g, d, tk, os⟩ := s; wp_walk; exact ⟨_, rfl, h⟩
theorem int_lt_str (i : Int) (t : Tok) (x : Str) (u : Tok) : Gives (Builtin.«int.__lt__» ⟨[.int i t, .str x u], []⟩) (.val .notImplemented) :=
  .of_wp fun M A E s Q h => by obtain ⟨hp, g, d, tk, os⟩ := s; wp_walk; exact ⟨_, rfl, h⟩
theorem int_gt_str (i : Int) (t : Tok) (x : Str) (u : Tok) : Gives (Builtin.«int.__gt__» ⟨[.int i t, .str x u], []⟩) (.val .notImplemented) :=
  .of_wp fun M A E s Q h => by obtain ⟨hp, g, d, tk, os⟩ := s; wp_walk; exact ⟨_, rfl, h⟩
theorem str_lt_int (i : Int) (t : Tok) (x : Str) (u : Tok) : Gives (Builtin.«str.__lt__» ⟨[.str x u, .int i t], []⟩) (.val .notImplemented) :=
  .of_wp fun M A E s Q h => by obtain ⟨hp, g, d, tk, os⟩ := s; wp_walk; exact ⟨_, rfl, h⟩
theorem str_gt_int (i : Int) (t : Tok) (x : Str) (u : Tok) : Gives (Builtin.«str.__gt__» ⟨[.str x u, .int i t], []⟩) (.val .notImplemented) :=
  .of_wp fun M A E s Q h => by obtain ⟨hp, g, d, tk, os⟩ := s; wp_walk; exact ⟨_, rfl, h⟩

/-- a < b is a TypeError that names x and y -/
noncomputable def TeAt (A : Around) (s : Shared) (a b : Value) (x y : String) : Prop := ∀ (prog : Program) (w : World) (Q : Value → Shared → Prop) (E : Value → Shared → Prop),
  E (.ref (s.heap.objs.size + 1)) { s with heap := excHeap s.heap "TypeError" (Str.ofString (ltWords x y)) s.toks, toks := s.toks + 1 } → wpAny (model prog w) A (richCompare .Lt a b) Q E s
theorem teAt_tuple_none {l : Addr} {items : Array Value} (hh : A.handled = none) (hu : A.units < cLine) (hl : s.heap.IsTuple l items) : TeAt A s (.ref l) .none "tuple" "NoneType" := by
  intro prog w Q E h
  obtain ⟨⟨cls, dd, data, sl⟩, ho, hc, n, hd⟩ := id hl
  simp only at hc hd
  subst hc hd
  exact lt_declined hh ⟨_, ho, rfl⟩ rfl (by decide) F.sub_NoneType_tuple F.slot_tuple_lt F.slot_NoneType_gt_refl (by decide) (by decide)
    (fun _ hq => call_meets F.slot_tuple_lt ⟨_, ho, rfl⟩ F.entry_tuple_lt (F.args_tuple_lt_2 _ _) (tuple_lt_none l items n dd sl) ⟨ho, hq⟩)
    (fun _ hq => call_gives F.slot_NoneType_gt_refl rfl F.entry_NoneType_gt (F.args_NoneType_gt_2 _ _) (none_gt_ref l) hq) (.inr hu) (by decide +kernel) h
theorem teAt_int_str {i : Int} {t : Tok} {x : Str} {u : Tok} (hh : A.handled = none) : TeAt A s (.int i t) (.str x u) "int" "str" := by
  intro prog w Q E h
  exact lt_declined hh (typeIs_int s i t) (typeIs_str s x u) (by decide) F.sub_str_int F.slot_int_lt F.slot_str_gt_refl (by decide) (by decide)
    (fun _ hq => call_gives F.slot_int_lt (typeIs_int s i t) F.entry_int_lt (F.args_int_lt_2 _ _) (int_lt_str i t x u) hq)
    (fun _ hq => call_gives F.slot_str_gt_refl (typeIs_str s x u) F.entry_str_gt (F.args_str_gt_2 _ _) (str_gt_int i t x u) hq) (.inl rfl) (by decide +kernel) h
theorem teAt_str_int {i : Int} {t : Tok} {x : Str} {u : Tok} (hh : A.handled = none) : TeAt A s (.str x u) (.int i t) "str" "int" := by
  intro prog w Q E h
  exact lt_declined hh (typeIs_str s x u) (typeIs_int s i t) (by decide) F.sub_int_str F.slot_str_lt F.slot_int_gt_refl (by decide) (by decide)
    (fun _ hq => call_gives F.slot_str_lt (typeIs_str s x u) F.entry_str_lt (F.args_str_lt_2 _ _) (str_lt_int i t x u) hq)
    (fun _ hq => call_gives F.slot_int_gt_refl (typeIs_int s i t) F.entry_int_gt (F.args_int_gt_2 _ _) (int_gt_str i t x u) hq) (.inl rfl) (by decide +kernel) h
theorem te0_reads {d d' : PyData} {a b : Value} {as bs : List Addr} {p : String × String} (hh : A.handled = none) (r1 : Reads s.heap a d as) (r2 : Reads s.heap b d' bs) (e : te0 d d' = some p) :
    TeAt A s a b p.1 p.2 := by
  cases r1 with
  | int i t =>
    cases r2 with
    | str x u => cases e; exact teAt_int_str hh
    | _ => cases e
  | str x u =>
    cases r2 with
    | int i t => cases e; exact teAt_str_int hh
    | _ => cases e
  | _ => cases e

/-- the first unlike pair raises -/
noncomputable def TeLex (A : Around) (s : Shared) (p : String × String) : List (Value × Value) → Prop
  | [] => False
  | (x, y) :: rest => ∃ e, EqAt A s x y e ∧ (if e = true then TeLex A s p rest else TeAt A s x y p.1 p.2)
noncomputable def TeSpec (p : String × String) (R : Result → Shared → Prop) (s : Shared) : Prop := R (.error (.ref (s.heap.objs.size + 1))) { s with heap := excHeap s.heap "TypeError" (Str.ofString (ltWords p.1 p.2)) s.toks, toks := s.toks + 1 }
theorem te_loopAt (l b : Addr) (items items2 : Array Value) (n n2 : Nat) (dd dd2 : Option Addr) (sl sl2 : Array (Option Value)) (p : String × String) (k : Nat) :
    ∀ i : Nat, min items.size items2.size - i = k → Meets (Builtin.«list.__eq__.loop» ⟨[.ref l, .ref b, rawInt i, rawInt 0], []⟩)
      (fun A R s => s.heap.get? l = some { cls := .type "list", dict := dd, data := .seq items n, slots := sl } ∧ s.heap.get? b = some { cls := .type "list", dict := dd2, data := .seq items2 n2, slots := sl2 } ∧
        TeLex A.in1 s p ((items.toList.zip items2.toList).drop i) ∧ TeSpec p R s) := by
  induction k with
  | zero =>
    intro i hk prog w A R s h
    obtain ⟨hl, hb, he, h⟩ := h
    have hd : (items.toList.zip items2.toList).drop i = [] := List.drop_eq_nil_of_le (by rw [List.length_zip, Array.length_toList, Array.length_toList]; (first | lia | omega))
    rw [hd] at he
    exact he.elim
  | succ k ih =>
    intro i hk prog w A R s h
    obtain ⟨hp, g, d, tk, os⟩ := s; obtain ⟨hl, hb, he, h⟩ := h
    wp_walk using wpAny_loadPart' hl, wpAny_loadPart' hb
    have hlt : i < items.size := n_lt_l hk
    have hlt2 : i < items2.size := n_lt_r hk
    have hi1 : items[((i : Nat) : Int).toNat]? = some items[i] := by simp [hlt]
    have hi2 : items2[((i : Nat) : Int).toNat]? = some items2[i] := by simp [hlt2]
    have hd : (items.toList.zip items2.toList).drop i = (items[i], items2[i]) :: (items.toList.zip items2.toList).drop (i + 1) := by
      rw [List.drop_eq_getElem_cons (by simp; (first | lia | omega))]; simp
    have hc : ((i : Int) + 1) = ((i + 1 : Nat) : Int) := by push_cast; rfl
    rw [hd] at he
    obtain ⟨e, he1, he2⟩ := he
    rw [hi1, hi2]
    refine wpAny_bind (he1 prog w _ _ ?_)
    cases e with
    | true =>
      simp only [if_true] at he2
      wp_walk
      rw [hc]
      exact ⟨plainId_quiet plain_eq_loop _, codeAny_builtin entry_eq_loop (by
        rw [Around.under_plainId plain_eq_loop _]
        exact ih (i + 1) (n_next hk) prog w A R _ ⟨hl, hb, he2, h⟩)⟩
    | false =>
      simp only [Bool.false_eq_true, if_false] at he2 ⊢
      refine wpAny_bind (listItems_at hl rfl (wpAny_bind (listItems_at hb rfl ?_)))
      rw [hi1, hi2]
      exact wpAny_bind (he2 prog w _ _ h)
theorem list_teAt (l b : Addr) (items items2 : Array Value) (n n2 : Nat) (dd dd2 : Option Addr) (sl sl2 : Array (Option Value)) (p : String × String) :
    Meets (Builtin.«list.__lt__» ⟨[.ref l, .ref b], []⟩)
      (fun A R s => s.heap.get? l = some { cls := .type "list", dict := dd, data := .seq items n, slots := sl } ∧ s.heap.get? b = some { cls := .type "list", dict := dd2, data := .seq items2 n2, slots := sl2 } ∧
        TeLex A.in1 s p (items.toList.zip items2.toList) ∧ TeSpec p R s) := by
  intro prog w A R s h
  obtain ⟨hp, g, d, tk, os⟩ := s; obtain ⟨hl, hb, he, h⟩ := h
  have f3 := AutoSeq1.sub_list_list
  wp_walk using wpAny_loadPart' hl, wpAny_loadPart' hb
  exact ⟨plainId_quiet plain_eq_loop _, codeAny_builtin entry_eq_loop (by
    rw [Around.under_plainId plain_eq_loop _]
    exact te_loopAt l b items items2 n n2 dd dd2 sl sl2 p _ 0 rfl prog w A R _ ⟨hl, hb, by simpa using he, h⟩)⟩
theorem TeAt.lists {l b : Addr} {items items2 : Array Value} {p : String × String} (hl : s.heap.IsList l items) (hb : s.heap.IsList b items2) (hu : A.units < cLine)
    (he : TeLex A.in1 s p (items.toList.zip items2.toList)) : TeAt A s (.ref l) (.ref b) p.1 p.2 := fun prog w Q E h => by
  obtain ⟨⟨cls, dd, data, sl⟩, ho, hc, n, hd⟩ := id hl
  obtain ⟨⟨cls2, dd2, data2, sl2⟩, ho2, hc2, n2, hd2⟩ := id hb
  simp only at hc hd hc2 hd2
  subst hc hd hc2 hd2
  exact richCompare_meets_room (op := .Lt) ⟨_, ho, rfl⟩ ⟨_, ho2, rfl⟩ PySem.F.slot_list_lt PySem.F.entry_list_lt (PySem.F.args_list_lt_2 _ _) (list_teAt l b items items2 n n2 dd dd2 sl sl2 p)
    ⟨ho, ho2, he, h⟩ hu
theorem teLex_reads {p : String × String} (hh : A.handled = none) : ∀ (xs ys : List PyData) (vs ws : List Value) (as bs : List Addr), ReadsAll s.heap vs xs as → ReadsAll s.heap ws ys bs → PyData.canLayAll0 xs = true → PyData.canLayAll0 ys = true →
    A.units + min (PyData.depthAll xs) (PyData.depthAll ys) < cLine → teAll xs ys = some p → TeLex A s p (vs.zip ws)
  | [], ys, vs, ws, as, bs, ra, rb, ha, hb, hu, e => by cases e
  | x :: xs, [], vs, ws, as, bs, ra, rb, ha, hb, hu, e => by cases e
  | x :: xs, y :: ys, vs, ws, as, bs, ra, rb, ha, hb, hu, e => by
    cases ra with
    | cons ra1 ra2 =>
      cases rb with
      | cons rb1 rb2 =>
        simp only [PyData.canLayAll0, Bool.and_eq_true] at ha hb
        have hu1 : A.units + min x.depth y.depth < cLine := room_head (by simpa [PyData.depthAll] using hu)
        have hu2 : A.units + min (PyData.depthAll xs) (PyData.depthAll ys) < cLine := room_tail (by simpa [PyData.depthAll] using hu)
        refine ⟨PyData.eqv x y, eqAt_reads x y A s _ _ _ _ ra1 rb1 ha.1 hb.1 hu1, ?_⟩
        unfold teAll at e
        cases he : PyData.eqv x y with
        | true =>
          rw [he, if_pos rfl] at e
          rw [if_pos rfl]
          exact teLex_reads hh xs ys _ _ _ _ ra2 rb2 ha.2 hb.2 hu2 e
        | false =>
          rw [he, if_neg (by decide)] at e
          rw [if_neg (by decide)]
          exact te0_reads hh ra1 rb1 e
theorem teAt_reads {d d' : PyData} {a b : Value} {as bs : List Addr} {p : String × String} (hh : A.handled = none) (r1 : Reads s.heap a d as) (r2 : Reads s.heap b d' bs) (c1 : d.canLay0 = true) (c2 : d'.canLay0 = true)
    (hu : A.units + min d.depth d'.depth < cLine) (e : teD d d' = some p) : TeAt A s a b p.1 p.2 := by
  cases d with
  | tuple xs =>
    cases d' <;> first | (cases e; done) | skip
    cases e
    cases r1 with
    | tuple hl hc hd _ => cases r2; exact teAt_tuple_none hh (by (first | lia | omega)) ⟨_, hl, hc, _, hd⟩
  | list xs =>
    cases d' <;> first | (cases e; done) | skip
    cases r1 with
    | list h1 h2 h3 h4 =>
      cases r2 with
      | list k1 k2 k3 k4 => exact TeAt.lists ⟨_, h1, h2, _, h3⟩ ⟨_, k1, k2, _, k3⟩ (room_here hu) (teLex_reads (A := A.in1) hh _ _ _ _ _ _ h4 k4 c1 c2 (room_in hu) e)
  | _ => exact te0_reads hh r1 r2 e
end

noncomputable def CmpOkX (K : Glo) (op : CmpOp) (f : V → V → M V) : Prop :=
  ∀ F : Frm, FOk F → F.nh = true → ∀ σ ρ s a b wa wb, Rel K F σ ρ s → Rep K s.heap ρ a wa → Rep K s.heap ρ b wb → Run K F (compareOp op wa wb) (Rep K) (f a b σ) ρ s
theorem cmp_ltX : CmpOkX K .Lt ltX := by
  intro F fk nh σ ρ s a b wa wb rel ra rb
  have h0 := cmp_lt F fk σ ρ s a b wa wb rel ra rb
  unfold ltX
  cases e : ltV a b σ with
  | ok v σ' => rw [e] at h0; exact h0
  | exc x σ' => rw [e] at h0; exact h0
  | stuck =>
    dsimp only
    unfold teX
    cases e1 : toD σ.st 6 a with
    | none => exact Run.stuck
    | some d =>
      cases e2 : toD σ.st 6 b with
      | none => exact Run.stuck
      | some d' =>
        obtain ⟨as, r1, c1, p1⟩ := toD_reads rel.toGRel 6 a wa d e1 ra
        obtain ⟨bs, r2, c2, p2⟩ := toD_reads rel.toGRel 6 b wb d' e2 rb
        dsimp only
        cases e3 : teD d d' with
        | none => exact Run.stuck
        | some p =>
          have hu := fk.units
          exact teAt_reads (fk.hd nh) r1 r2 c1 c2 (by (first | lia | omega)) e3 K.prog K.w _ _ (x_made rel (by decide))
theorem simB_cmpX (fk : FOk F) {op : CmpOp} {f : V → V → M V} (ho : CmpOkX K op f) {tr : V → M Bool} (ht : TruOk K tr) {l r : Expr} {ml mr : M V} (pos : Pos) (hl : SimE K F l ml) (hr : SimE K F r mr)
    (hm : behindInMarks op r = false := by rfl) (hnh : F.nh = true := by rfl) :
    SimB K F (.Compare l [op] [r] pos) (do let a ← ml; let b ← mr; let c ← f a b; tr c) := by
  intro σ ρ s rel
  have e : isTrue (.Compare l [op] [r] pos) F.env (eval (.Compare l [op] [r] pos) F.env) = (do let left ← eval l F.env; let rv ← holding [left] (eval r F.env); standAt pos; let c ← operate [left, rv] (compareOp op left rv); holding [c] (truthy c)) := by
    rw [isTrue_Compare1]
    simp only [markedBehindIn_of_false hm]
  rw [e]
  refine Run.bind (hl σ ρ s rel) fun a σ₁ ρ₁ s₁ wa _ rel₁ x₁ ra => ?_
  refine Run.bind (Run.holding (hr σ₁ ρ₁ s₁ rel₁)) fun b σ₂ ρ₂ s₂ wb _ rel₂ x₂ rb => ?_
  refine Run.standAt (Run.bind (Run.operate (ho F fk hnh σ₂ ρ₂ s₂ a b wa wb rel₂ (ra.mono x₂) rb)) fun c σ₃ ρ₃ s₃ wc _ rel₃ x₃ rc => ?_)
  exact Run.holding (ht F fk σ₃ ρ₃ s₃ c wc rel₃ rc)
theorem ltX_ok {a b r : V} {σ σ' : S} (h : ltV a b σ = .ok r σ') : ltX a b σ = .ok r σ' := by unfold ltX; rw [h]
end

/-! part F33 -/
set_option autoImplicit false
set_option maxRecDepth 100000
set_option linter.unusedVariables false
open PySem PySem.W PyProof.Rows
section
variable {K : Glo} {F : Frm}
end

/-! part F34 -/
set_option autoImplicit false
set_option maxRecDepth 100000
set_option linter.unusedVariables false
open PySem PySem.W PyProof.Rows
section
variable {K : Glo} {F : Frm}
end

/-! part F35 -/
set_option autoImplicit false
set_option maxRecDepth 100000
set_option linter.unusedVariables false
open PySem PySem.W PyProof.Rows
section
variable {K : Glo} {F : Frm}
end

/-! part H1 -/
set_option autoImplicit false
set_option linter.unusedVariables false
section
/-! ### heaps, plain -/
section
variable {α : Type} [Inhabited α]

noncomputable def nth (vs : List α) (i : Nat) : α := vs[i]?.getD default
theorem nth_set_self {vs : List α} {i : Nat} {x : α} (h : i < vs.length) : nth (vs.set i x) i = x := by
  unfold nth; rw [List.getElem?_set_self h]; rfl
theorem nth_set_ne {vs : List α} {i j : Nat} {x : α} (h : i ≠ j) : nth (vs.set i x) j = nth vs j := by
  unfold nth; rw [List.getElem?_set_ne h]
theorem nth_eq {vs : List α} {i : Nat} (h : i < vs.length) : vs[i]? = some (nth vs i) := by
  unfold nth; rw [List.getElem?_eq_getElem h]; rfl
theorem nth_getElem {vs : List α} {i : Nat} (h : i < vs.length) : nth vs i = vs[i] := by
  unfold nth; rw [List.getElem?_eq_getElem h]; rfl
theorem nth_mem {vs : List α} {i : Nat} (h : i < vs.length) : nth vs i ∈ vs := by rw [nth_getElem h]; exact List.getElem_mem h

/-- the way up (by WellFounded.fix: a compiled termination_by keeps the whole source text) -/
noncomputable def sd (lt : α → α → Bool) (x : α) (start : Nat) (vs : List α) (pos : Nat) : List α :=
  WellFounded.fix (C := fun _ : Nat => List α → List α) Nat.lt_wfRel.wf (fun pos rec vs =>
    if h : start < pos then
      if lt x (nth vs ((pos - 1) / 2)) = true then rec ((pos - 1) / 2) (show (pos - 1) / 2 < pos by (first | lia | omega)) (vs.set pos (nth vs ((pos - 1) / 2)))
      else vs.set pos x
    else vs.set pos x) pos vs
theorem sd_def (lt : α → α → Bool) (x : α) (start : Nat) (vs : List α) (pos : Nat) : sd lt x start vs pos =
    if h : start < pos then
      if lt x (nth vs ((pos - 1) / 2)) = true then sd lt x start (vs.set pos (nth vs ((pos - 1) / 2))) ((pos - 1) / 2)
      else vs.set pos x
    else vs.set pos x := by
  conv => lhs; unfold sd; rw [WellFounded.fix_eq]
  rfl

/-- the way down to a leaf -/
noncomputable def kid (lt : α → α → Bool) (vs : List α) (pos : Nat) : Nat :=
  if 2 * pos + 2 < vs.length ∧ lt (nth vs (2 * pos + 1)) (nth vs (2 * pos + 2)) = false then 2 * pos + 2 else 2 * pos + 1
theorem kid_gt (lt : α → α → Bool) (vs : List α) (pos : Nat) : pos < kid lt vs pos := by unfold kid; split <;> (first | lia | omega)
theorem kid_lt {lt : α → α → Bool} {vs : List α} {pos : Nat} (h : 2 * pos + 1 < vs.length) : kid lt vs pos < vs.length := by unfold kid; split <;> (first | lia | omega)
theorem kid_par (lt : α → α → Bool) (vs : List α) (pos : Nat) : (kid lt vs pos - 1) / 2 = pos := by unfold kid; split <;> (first | lia | omega)

noncomputable def down (lt : α → α → Bool) (vs : List α) (pos : Nat) : List α × Nat :=
  WellFounded.fix (C := fun _ : List α × Nat => List α × Nat) (measure fun p : List α × Nat => p.1.length - p.2).wf (fun p rec =>
    if h : 2 * p.2 + 1 < p.1.length then rec (p.1.set p.2 (nth p.1 (kid lt p.1 p.2)), kid lt p.1 p.2) (show (p.1.set p.2 (nth p.1 (kid lt p.1 p.2))).length - kid lt p.1 p.2 < p.1.length - p.2 by
      have := kid_gt lt p.1 p.2
      have := kid_lt (lt := lt) h
      rw [List.length_set]; (first | lia | omega)) else p) (vs, pos)
theorem down_def (lt : α → α → Bool) (vs : List α) (pos : Nat) : down lt vs pos = if h : 2 * pos + 1 < vs.length then down lt (vs.set pos (nth vs (kid lt vs pos))) (kid lt vs pos) else (vs, pos) := by
  conv => lhs; unfold down; rw [WellFounded.fix_eq]
  rfl

noncomputable def su (lt : α → α → Bool) (vs : List α) (pos : Nat) : List α :=
  sd lt (nth vs pos) pos ((down lt vs pos).1.set (down lt vs pos).2 (nth vs pos)) (down lt vs pos).2

theorem down_length (lt : α → α → Bool) : ∀ (k : Nat) (vs : List α) (pos : Nat), vs.length - pos ≤ k → (down lt vs pos).1.length = vs.length := by
  intro k
  induction k with
  | zero => intro vs pos h; rw [down_def, dif_neg (by (first | lia | omega))]
  | succ k ih =>
    intro vs pos h
    rw [down_def]
    split
    · rename_i hc
      have := kid_gt lt vs pos
      rw [ih _ _ (by simp; (first | lia | omega))]; simp
    · rfl
theorem down_pos_lt (lt : α → α → Bool) : ∀ (k : Nat) (vs : List α) (pos : Nat), vs.length - pos ≤ k → pos < vs.length → (down lt vs pos).2 < vs.length := by
  intro k
  induction k with
  | zero => intro vs pos h h2; (first | lia | omega)
  | succ k ih =>
    intro vs pos h h2
    rw [down_def]
    split
    · rename_i hc
      have h3 := kid_gt lt vs pos
      have h4 := kid_lt (lt := lt) hc
      have := ih (vs.set pos (nth vs (kid lt vs pos))) (kid lt vs pos) (by simp; (first | lia | omega)) (by simpa using h4)
      simpa using this
    · exact h2
theorem swap_perm {vs : List α} {i j : Nat} {x : α} (hi : i < vs.length) (hj : j < vs.length) (hne : i ≠ j) : ((vs.set i (nth vs j)).set j x).Perm (vs.set i x) := by
  have h := List.set_set_perm (as := vs.set i x) (i := i) (j := j) (by simpa using hi) (by simpa using hj)
  have e1 : (vs.set i x)[j]'(by simpa using hj) = nth vs j := by
    rw [List.getElem_set_ne hne, nth_getElem hj]
  have e2 : (vs.set i x)[i]'(by simpa using hi) = x := by rw [List.getElem_set_self]
  rw [e1, e2, List.set_set] at h
  exact h

theorem sd_perm (lt : α → α → Bool) (x : α) (start : Nat) : ∀ (pos : Nat) (vs : List α), pos < vs.length → (sd lt x start vs pos).Perm (vs.set pos x) := by
  intro pos
  induction pos using Nat.strongRecOn with
  | _ pos ih =>
    intro vs hp
    rw [sd_def]
    split
    · split
      · refine (ih _ (by (first | lia | omega)) _ (by simp; (first | lia | omega))).trans ?_
        exact swap_perm hp (by (first | lia | omega)) (by (first | lia | omega))
      · exact List.Perm.refl _
    · exact List.Perm.refl _
theorem down_perm (lt : α → α → Bool) (x : α) : ∀ (k : Nat) (vs : List α) (pos : Nat), vs.length - pos ≤ k → pos < vs.length → ((down lt vs pos).1.set (down lt vs pos).2 x).Perm (vs.set pos x) := by
  intro k
  induction k with
  | zero => intro vs pos h h2; (first | lia | omega)
  | succ k ih =>
    intro vs pos h h2
    rw [down_def]
    split
    · rename_i hc
      have h3 := kid_gt lt vs pos
      have h4 := kid_lt (lt := lt) hc
      exact (ih _ _ (by simp; (first | lia | omega)) (by simpa using h4)).trans (swap_perm h2 h4 (by (first | lia | omega)))
    · exact List.Perm.refl _
theorem set_nth {vs : List α} {i : Nat} : vs.set i (nth vs i) = vs := by
  by_cases h : i < vs.length
  · rw [nth_getElem h]; exact List.set_getElem_self h
  · exact List.set_eq_of_length_le (by (first | lia | omega))
theorem su_perm (lt : α → α → Bool) (vs : List α) (pos : Nat) (h : pos < vs.length) : (su lt vs pos).Perm vs := by
  unfold su
  have h1 := down_pos_lt lt _ vs pos (Nat.le_refl _) h
  have h2 := down_length lt _ vs pos (Nat.le_refl _)
  refine (sd_perm lt _ _ _ _ (by rw [List.length_set, h2]; exact h1)).trans ?_
  rw [List.set_set]
  refine (down_perm lt _ _ vs pos (Nat.le_refl _) h).trans ?_
  rw [set_nth]

/-! the order -/
noncomputable def HeapFrom (lt : α → α → Bool) (s : Nat) (vs : List α) : Prop := ∀ j, 0 < j → j < vs.length → s ≤ (j - 1) / 2 → lt (nth vs j) (nth vs ((j - 1) / 2)) = false

noncomputable def Desc (s p : Nat) : Prop := WellFounded.fix (C := fun _ : Nat => Prop) Nat.lt_wfRel.wf (fun p rec => if h : s < p then rec ((p - 1) / 2) (show (p - 1) / 2 < p by (first | lia | omega)) else p = s) p
theorem Desc_def (s p : Nat) : Desc s p = if h : s < p then Desc s ((p - 1) / 2) else p = s := by
  conv => lhs; unfold Desc; rw [WellFounded.fix_eq]
  rfl
theorem desc_iff (s p : Nat) : Desc s p ↔ p = s ∨ (s < p ∧ Desc s ((p - 1) / 2)) := by
  rw [Desc_def]
  split
  · rename_i h
    exact ⟨fun x => .inr ⟨h, x⟩, fun x => by
      rcases x with x | x
      · (first | lia | omega)
      · exact x.2⟩
  · rename_i h
    exact ⟨fun x => .inl x, fun x => by
      rcases x with x | x
      · exact x
      · exact absurd x.1 h⟩
theorem Desc.refl (s : Nat) : Desc s s := by rw [desc_iff]; exact .inl rfl
theorem Desc.up {s p : Nat} (h : Desc s p) (hlt : s < p) : Desc s ((p - 1) / 2) := by
  rw [desc_iff] at h; rcases h with h | h
  · (first | lia | omega)
  · exact h.2
theorem Desc.le {s p : Nat} (h : Desc s p) : s ≤ p := by
  rw [desc_iff] at h; rcases h with h | h <;> (first | lia | omega)
theorem Desc.kid {s p c : Nat} (h : Desc s p) (hc : (c - 1) / 2 = p) (hlt : p < c) : Desc s c := by
  rw [desc_iff]; right
  have := h.le
  exact ⟨by (first | lia | omega), by rw [hc]; exact h⟩

/-- a heap with a hole at pos -/
structure Hole (lt : α → α → Bool) (s : Nat) (vs : List α) (pos : Nat) : Prop where
  pair : ∀ j, 0 < j → j < vs.length → s ≤ (j - 1) / 2 → j ≠ pos → (j - 1) / 2 ≠ pos → lt (nth vs j) (nth vs ((j - 1) / 2)) = false
  skip : s < pos → ∀ j, 0 < j → j < vs.length → (j - 1) / 2 = pos → lt (nth vs j) (nth vs ((pos - 1) / 2)) = false
  desc : Desc s pos
  lt : pos < vs.length

theorem Hole.set {lt : α → α → Bool} {s : Nat} {vs : List α} {pos : Nat} (h : Hole lt s vs pos) (x : α) : Hole lt s (vs.set pos x) pos where
  pair := fun j h0 hl hs hj hp => by
    rw [List.length_set] at hl
    rw [nth_set_ne (Ne.symm hj), nth_set_ne (Ne.symm hp)]; exact h.pair j h0 hl hs hj hp
  skip := fun hs j h0 hl hp => by
    rw [List.length_set] at hl
    have := h.lt
    rw [nth_set_ne (by (first | lia | omega)), nth_set_ne (by (first | lia | omega))]; exact h.skip hs j h0 hl hp
  desc := h.desc
  lt := by rw [List.length_set]; exact h.lt

variable {P : α → Prop} {lt : α → α → Bool}

omit [Inhabited α] in
theorem all_set {vs : List α} {i : Nat} {x : α} (h : ∀ a ∈ vs, P a) (hx : P x) : ∀ a ∈ vs.set i x, P a := by
  intro a ha
  rcases List.mem_or_eq_of_mem_set ha with h1 | h1
  · exact h a h1
  · subst h1; exact hx

theorem heapFrom_half (lt : α → α → Bool) (vs : List α) : HeapFrom lt (vs.length / 2) vs := by
  intro j h0 hl hs; (first | lia | omega)

theorem desc_zero : ∀ p : Nat, Desc 0 p := by
  intro p
  induction p using Nat.strongRecOn with
  | _ p ih =>
    rw [desc_iff]
    by_cases h : p = 0
    · exact .inl h
    · exact .inr ⟨by (first | lia | omega), ih _ (by (first | lia | omega))⟩
theorem nth_append_left {vs ws : List α} {i : Nat} (h : i < vs.length) : nth (vs ++ ws) i = nth vs i := by
  unfold nth; rw [List.getElem?_append_left h]
/-- pop -/
noncomputable def hpop (lt : α → α → Bool) (vs : List α) : α × List α :=
  if vs.length ≤ 1 then (nth vs 0, []) else (nth vs 0, su lt ((vs.eraseIdx (vs.length - 1)).set 0 (nth vs (vs.length - 1))) 0)
theorem eraseLast_append {vs : List α} (h : 0 < vs.length) : vs.eraseIdx (vs.length - 1) ++ [nth vs (vs.length - 1)] = vs := by
  rw [List.eraseIdx_eq_take_drop_succ, List.drop_eq_nil_of_le (by (first | lia | omega)), List.append_nil, nth_getElem (by (first | lia | omega))]
  have := List.take_append_getElem (l := vs) (i := vs.length - 1) (by (first | lia | omega))
  rw [this, List.take_of_length_le (by (first | lia | omega))]
theorem hpop_perm (lt : α → α → Bool) {vs : List α} (h : 0 < vs.length) : ((hpop lt vs).1 :: (hpop lt vs).2).Perm vs := by
  unfold hpop
  split
  · rename_i h1
    match vs, h with
    | [a], _ => exact List.Perm.refl _
    | _ :: _ :: _, _ => simp at h1
  · rename_i h1
    have hlen : (vs.eraseIdx (vs.length - 1)).length = vs.length - 1 := by rw [List.length_eraseIdx]; simp; (first | lia | omega)
    dsimp only
    refine (List.Perm.cons _ (su_perm lt _ 0 (by rw [List.length_set]; (first | lia | omega)))).trans ?_
    have h2 := eraseLast_append h
    generalize hL : nth vs (vs.length - 1) = lst at h2 ⊢
    generalize hE : vs.eraseIdx (vs.length - 1) = es at h2 hlen ⊢
    have h3 : nth vs 0 = nth es 0 := by rw [← h2, nth_append_left (by (first | lia | omega))]
    rw [h3, ← h2]
    match es, hlen with
    | [], hlen => simp at hlen; (first | lia | omega)
    | e :: es, _ =>
      show (e :: lst :: es).Perm (e :: es ++ [lst])
      exact List.Perm.cons _ (List.perm_append_singleton lst es).symm
end

end

/-! part Q1 -/
set_option autoImplicit false
set_option maxRecDepth 100000
set_option linter.unusedVariables false
open PySem PySem.W PyProof.Rows
section
/-! _siftdown -/
noncomputable def siftdown_w1_c : M Bool := (do let a ← (getv "pos"); let b ← (getv "startpos"); let c ← gtV a b; truV c)
noncomputable def siftdown_w1_b : M Fl := (seqM (do let v ← (do let a ← (do let a ← (getv "pos"); let b ← (pure (V.int 1) : M V); subV a b); let b ← (pure (V.int 1) : M V); shrV a b); (fun v => setv "parentpos" v) v; pure .next : M Fl) (seqM (do let v ← (do let o ← (getv "heap"); let i ← (getv "parentpos"); getI o i); (fun v => setv "parent" v) v; pure .next : M Fl) (seqM (do if (← (do let a ← (getv "newitem"); let b ← (getv "parent"); let c ← ltX a b; truV c)) = true then (seqM (do let v ← (getv "parent"); (fun v => do let a ← (getv "heap"); let b ← (getv "pos"); setI a b v) v; pure .next : M Fl) (seqM (do let v ← (getv "parentpos"); (fun v => setv "pos" v) v; pure .next : M Fl) (pure .cont : M Fl))) else (pure .next : M Fl) : M Fl) (pure .brk : M Fl))))
noncomputable def siftdown_m : M Fl := (seqM (do let v ← (do let o ← (getv "heap"); let i ← (getv "pos"); getI o i); (fun v => setv "newitem" v) v; pure .next : M Fl) (seqM (whileM siftdown_w1_c siftdown_w1_b 4096) (do let v ← (getv "newitem"); (fun v => do let a ← (getv "heap"); let b ← (getv "pos"); setI a b v) v; pure .next : M Fl)))
noncomputable def f_siftdown : Fun := funM ["heap", "startpos", "pos"] siftdown_m

/-! heappush -/
noncomputable def heappush_m : M Fl := (seqM (do let _ ← (do let ov ← (getv "heap"); chkL ov; let vs ← (do let v ← (getv "item"); let vs ← (pure [] : M (List V)); pure (v :: vs)); appendG ov vs); pure .next : M Fl) (do let _ ← (do let vs ← (do let v ← (getv "heap"); let vs ← (do let v ← (pure (V.int 0) : M V); let vs ← (do let v ← (do let a ← (do let vs ← (do let v ← (getv "heap"); let vs ← (pure [] : M (List V)); pure (v :: vs)); lenB vs); let b ← (pure (V.int 1) : M V); subV a b); let vs ← (pure [] : M (List V)); pure (v :: vs)); pure (v :: vs)); pure (v :: vs)); callF f_siftdown vs); pure .next : M Fl))
noncomputable def f_heappush : Fun := funM ["heap", "item"] heappush_m

/-! _siftup -/
noncomputable def siftup_w1_c : M Bool := (do let a ← (getv "childpos"); let b ← (getv "endpos"); let c ← ltV a b; truV c)
noncomputable def siftup_w1_b : M Fl := (seqM (do let v ← (do let a ← (getv "childpos"); let b ← (pure (V.int 1) : M V); addV a b); (fun v => setv "rightpos" v) v; pure .next : M Fl) (seqM (do if (← (do if (← (do let a ← (getv "rightpos"); let b ← (getv "endpos"); let c ← ltV a b; truV c)) = true then (do if (← (do let b ← (do let a ← (do let o ← (getv "heap"); let i ← (getv "childpos"); getI o i); let b ← (do let o ← (getv "heap"); let i ← (getv "rightpos"); getI o i); let c ← ltX a b; truV c); pure (!b))) = true then (pure true : M Bool) else pure false) else pure false)) = true then (do let v ← (getv "rightpos"); (fun v => setv "childpos" v) v; pure .next : M Fl) else (pure .next : M Fl) : M Fl) (seqM (do let v ← (do let o ← (getv "heap"); let i ← (getv "childpos"); getI o i); (fun v => do let a ← (getv "heap"); let b ← (getv "pos"); setI a b v) v; pure .next : M Fl) (seqM (do let v ← (getv "childpos"); (fun v => setv "pos" v) v; pure .next : M Fl) (do let v ← (do let a ← (do let a ← (pure (V.int 2) : M V); let b ← (getv "pos"); mulV a b); let b ← (pure (V.int 1) : M V); addV a b); (fun v => setv "childpos" v) v; pure .next : M Fl)))))
noncomputable def siftup_m : M Fl := (seqM (do let v ← (do let vs ← (do let v ← (getv "heap"); let vs ← (pure [] : M (List V)); pure (v :: vs)); lenB vs); (fun v => setv "endpos" v) v; pure .next : M Fl) (seqM (do let v ← (getv "pos"); (fun v => setv "startpos" v) v; pure .next : M Fl) (seqM (do let v ← (do let o ← (getv "heap"); let i ← (getv "pos"); getI o i); (fun v => setv "newitem" v) v; pure .next : M Fl) (seqM (do let v ← (do let a ← (do let a ← (pure (V.int 2) : M V); let b ← (getv "pos"); mulV a b); let b ← (pure (V.int 1) : M V); addV a b); (fun v => setv "childpos" v) v; pure .next : M Fl) (seqM (whileM siftup_w1_c siftup_w1_b 4096) (seqM (do let v ← (getv "newitem"); (fun v => do let a ← (getv "heap"); let b ← (getv "pos"); setI a b v) v; pure .next : M Fl) (do let _ ← (do let vs ← (do let v ← (getv "heap"); let vs ← (do let v ← (getv "startpos"); let vs ← (do let v ← (getv "pos"); let vs ← (pure [] : M (List V)); pure (v :: vs)); pure (v :: vs)); pure (v :: vs)); callF f_siftdown vs); pure .next : M Fl)))))))
noncomputable def f_siftup : Fun := funM ["heap", "pos"] siftup_m

/-! heappop -/
noncomputable def heappop_m : M Fl := (seqM (do let v ← (do let ov ← (getv "heap"); chkL ov; let vs ← (pure [] : M (List V)); pop0G ov vs); (fun v => setv "lastelt" v) v; pure .next : M Fl) (seqM (do if (← (do let v ← (getv "heap"); truV v)) = true then (seqM (do let v ← (do let o ← (getv "heap"); let i ← (pure (V.int 0) : M V); getI o i); (fun v => setv "returnitem" v) v; pure .next : M Fl) (seqM (do let v ← (getv "lastelt"); (fun v => do let a ← (getv "heap"); let b ← (pure (V.int 0) : M V); setI a b v) v; pure .next : M Fl) (seqM (do let _ ← (do let vs ← (do let v ← (getv "heap"); let vs ← (do let v ← (pure (V.int 0) : M V); let vs ← (pure [] : M (List V)); pure (v :: vs)); pure (v :: vs)); callF f_siftup vs); pure .next : M Fl) (do let v ← (getv "returnitem"); pure (.ret v) : M Fl)))) else (pure .next : M Fl) : M Fl) (do let v ← (getv "lastelt"); pure (.ret v) : M Fl)))
noncomputable def f_heappop : Fun := funM ["heap"] heappop_m

/-! heapify -/
noncomputable def heapify_l1_t : V → M Unit := (fun v => setv "i" v)
noncomputable def heapify_l1_b : M Fl := (do let _ ← (do let vs ← (do let v ← (getv "x"); let vs ← (do let v ← (getv "i"); let vs ← (pure [] : M (List V)); pure (v :: vs)); pure (v :: vs)); callF f_siftup vs); pure .next : M Fl)
noncomputable def heapify_m : M Fl := (seqM (do let v ← (do let vs ← (do let v ← (getv "x"); let vs ← (pure [] : M (List V)); pure (v :: vs)); lenB vs); (fun v => setv "n" v) v; pure .next : M Fl) (do let v ← (do let vs ← (do let v ← (do let a ← (getv "n"); let b ← (pure (V.int 2) : M V); fdivV a b); let vs ← (pure [] : M (List V)); pure (v :: vs)); rangeB1 vs); let r ← revR v; forG (nxtOf r) heapify_l1_t heapify_l1_b 4096 0))
noncomputable def f_heapify : Fun := funM ["x"] heapify_m

end

/-! part H2 -/
set_option autoImplicit false
set_option maxRecDepth 100000
set_option linter.unusedVariables false
open PySem PySem.W PyProof.Rows
section
/-! ### what M-programs do -/
noncomputable def MW {α : Type} (m : M α) (σ : S) (Q : α → S → Prop) : Prop := ∃ a σ', m σ = .ok a σ' ∧ Q a σ'
section
variable {α β : Type} {σ : S}
theorem MW.mono {m : M α} {Q Q' : α → S → Prop} (h : MW m σ Q) (k : ∀ a σ', Q a σ' → Q' a σ') : MW m σ Q' := by
  obtain ⟨a, σ', e, q⟩ := h; exact ⟨a, σ', e, k _ _ q⟩
theorem MW_fun_ok {m : S → Res S α} {Q : α → S → Prop} {a : α} {σ' : S} (e : m σ = .ok a σ') : MW m σ Q ↔ Q a σ' := by
  constructor
  · rintro ⟨a', σ'', e', q⟩; rw [e] at e'; cases e'; exact q
  · exact fun q => ⟨a, σ', e, q⟩
theorem MW_pure {a : α} {Q : α → S → Prop} : MW (pure a : M α) σ Q ↔ Q a σ := MW_fun_ok rfl
theorem MW_bind {m : M α} {f : α → M β} {Q : β → S → Prop} : MW (m >>= f) σ Q ↔ MW m σ (fun a σ' => MW (f a) σ' Q) := by
  constructor
  · rintro ⟨b, σ', e, q⟩
    rw [M.bind_def] at e
    cases em : m σ with
    | ok a σ₁ => rw [em] at e; exact ⟨a, σ₁, em, b, σ', e, q⟩
    | exc x y => rw [em] at e; cases e
    | stuck => rw [em] at e; cases e
  · rintro ⟨a, σ₁, em, b, σ', e, q⟩
    exact ⟨b, σ', by rw [M.bind_def, em]; exact e, q⟩
theorem MW_seq {a b : M Fl} {Q : Fl → S → Prop} : MW (seqM a b) σ Q ↔ MW a σ (fun f σ' => match f with | .next => MW b σ' Q | .brk => Q .brk σ' | .cont => Q .cont σ' | .ret v => Q (.ret v) σ') := by
  unfold seqM
  rw [MW_bind]
  constructor
  · rintro ⟨f, σ', e, q⟩
    refine ⟨f, σ', e, ?_⟩
    cases f <;> first | exact q | exact MW_pure.mp q
  · rintro ⟨f, σ', e, q⟩
    refine ⟨f, σ', e, ?_⟩
    cases f <;> first | exact q | exact MW_pure.mpr q
theorem MW_getv {x : String} {Q : V → S → Prop} : MW (getv x) σ Q ↔ ∃ v, σ.lo x = some v ∧ Q v σ := by
  constructor
  · rintro ⟨a, σ', e, q⟩
    unfold getv at e
    cases h : σ.lo x with
    | none => rw [h] at e; cases e
    | some v => rw [h] at e; cases e; exact ⟨_, rfl, q⟩
  · rintro ⟨v, e, q⟩
    exact ⟨v, σ, by unfold getv; rw [e], q⟩
theorem MW_setv {x : String} {v : V} {Q : Unit → S → Prop} : MW (setv x v) σ Q ↔ Q () (σ.put x v) := MW_fun_ok rfl
theorem MW_tru {b : Bool} {Q : Bool → S → Prop} : MW (truV (.bool b)) σ Q ↔ Q b σ := MW_fun_ok rfl
theorem MW_lt_int {a b : Int} {Q : V → S → Prop} : MW (ltV (.int a) (.int b)) σ Q ↔ Q (.bool (decide (a < b))) σ := by
  refine MW_fun_ok ?_
  rfl
theorem MW_shr {a : Int} {Q : V → S → Prop} : MW (shrV (.int a) (.int 1)) σ Q ↔ 0 ≤ a ∧ Q (.int (a / 2)) σ := by
  by_cases h : 0 ≤ a
  · rw [MW_fun_ok (a := .int (a / 2)) (σ' := σ) (by show (if 0 ≤ a then Res.ok (V.int (a / 2)) σ else .stuck) = _; rw [if_pos h])]; simp [h]
  · constructor
    · rintro ⟨_, _, e, _⟩; have e : (if 0 ≤ a then Res.ok (V.int (a / 2)) σ else .stuck) = _ := e; rw [if_neg h] at e; cases e
    · exact fun q => absurd q.1 h
theorem MW_mul {a b : Int} {Q : V → S → Prop} : MW (mulV (.int a) (.int b)) σ Q ↔ (-1000000000 < a ∧ a < 1000000000) ∧ Q (.int (a * b)) σ := by
  by_cases h : -1000000000 < a ∧ a < 1000000000
  · rw [MW_fun_ok (a := .int (a * b)) (σ' := σ) (by unfold mulV; dsimp only; rw [if_pos h])]; simp [h]
  · constructor
    · rintro ⟨_, _, e, _⟩; unfold mulV at e; dsimp only at e; rw [if_neg h] at e; cases e
    · exact fun q => absurd q.1 h
theorem MW_fdiv {a b : Int} {Q : V → S → Prop} : MW (fdivV (.int a) (.int b)) σ Q ↔ (0 < b ∧ b < 1000000000) ∧ Q (.int (a / b)) σ := by
  by_cases h : 0 < b ∧ b < 1000000000
  · rw [MW_fun_ok (a := .int (a / b)) (σ' := σ) (by unfold fdivV; dsimp only; rw [if_pos h])]; simp [h]
  · constructor
    · rintro ⟨_, _, e, _⟩; unfold fdivV at e; dsimp only at e; rw [if_neg h] at e; cases e
    · exact fun q => absurd q.1 h
theorem MW_fmod {a b : Int} {Q : V → S → Prop} : MW (fmodV (.int a) (.int b)) σ Q ↔ (0 < b ∧ b < 1000000000) ∧ Q (.int (a % b)) σ := by
  by_cases h : 0 < b ∧ b < 1000000000
  · rw [MW_fun_ok (a := .int (a % b)) (σ' := σ) (by unfold fmodV; dsimp only; rw [if_pos h])]; simp [h]
  · constructor
    · rintro ⟨_, _, e, _⟩; unfold fmodV at e; dsimp only at e; rw [if_neg h] at e; cases e
    · exact fun q => absurd q.1 h
theorem ix_nat {n j : Nat} : ix n (j : Int) = if j < n then some j else none := by
  unfold ix; rw [if_pos (by (first | lia | omega))]; simp
theorem MW_getI {l : Nat} {k : Int} {vs : List V} {j : Nat} {v : V} {Q : V → S → Prop} (h : σ.st[l]? = some (.lst vs)) (hk : ix vs.length k = some j) (hv : vs[j]? = some v) : MW (getI (.obj l) (.int k)) σ Q ↔ Q v σ := by
  refine MW_fun_ok ?_
  unfold getI
  dsimp only
  rw [h]
  dsimp only
  rw [hk]
  dsimp only
  rw [hv]
theorem MW_getT {vs : List V} {k : Int} {j : Nat} {v : V} {Q : V → S → Prop} (hk : ix vs.length k = some j) (hv : vs[j]? = some v) : MW (getI (.tup vs) (.int k)) σ Q ↔ Q v σ := by
  refine MW_fun_ok ?_
  unfold getI
  dsimp only
  rw [hk]
  dsimp only
  rw [hv]
theorem MW_setI {l : Nat} {k : Int} {vs : List V} {v : V} {j : Nat} {Q : Unit → S → Prop} (h : σ.st[l]? = some (.lst vs)) (hl : l ≠ 0) (hk : k = j) (hj : j < vs.length) :
    MW (setI (.obj l) (.int k) v) σ Q ↔ Q () { σ with st := σ.st.set l (.lst (vs.set j v)) } := by
  refine MW_fun_ok ?_
  subst hk
  unfold setI
  dsimp only
  rw [h]
  dsimp only
  rw [Int.toNat_natCast, if_pos ⟨hl, by (first | lia | omega), hj⟩]
theorem MW_len {l : Nat} {vs : List V} {Q : V → S → Prop} (h : σ.st[l]? = some (.lst vs)) : MW (lenB [.obj l]) σ Q ↔ Q (.int vs.length) σ := by
  refine MW_fun_ok ?_
  unfold lenB
  dsimp only
  rw [h]
theorem MW_truL {l : Nat} {vs : List V} {Q : Bool → S → Prop} (h : σ.st[l]? = some (.lst vs)) : MW (truV (.obj l)) σ Q ↔ Q (!vs.isEmpty) σ := by
  refine MW_fun_ok ?_
  unfold truV
  dsimp only
  rw [h]
theorem MW_chkL {l : Nat} {vs : List V} {Q : Unit → S → Prop} (h : σ.st[l]? = some (.lst vs)) : MW (chkL (.obj l)) σ Q ↔ Q () σ := MW_fun_ok (chkL_ok h)
theorem MW_append {l : Nat} {vs : List V} {v : V} {Q : V → S → Prop} (h : σ.st[l]? = some (.lst vs)) (hl : l ≠ 0) (hn : vs.length < 1000000) : MW (appendG (.obj l) [v]) σ Q ↔ Q .none { σ with st := σ.st.set l (.lst (vs ++ [v])) } := by
  refine MW_fun_ok ?_
  unfold appendG
  dsimp only
  rw [h]
  dsimp only
  rw [if_pos ⟨hl, hn⟩]
theorem MW_pop {l : Nat} {vs : List V} {v : V} {Q : V → S → Prop} (h : σ.st[l]? = some (.lst vs)) (hl : l ≠ 0) (hv : vs[vs.length - 1]? = some v) : MW (pop0G (.obj l) []) σ Q ↔ Q v { σ with st := σ.st.set l (.lst (vs.eraseIdx (vs.length - 1))) } := by
  refine MW_fun_ok ?_
  unfold pop0G
  dsimp only
  rw [if_neg hl, h]
  dsimp only
  rw [hv]
theorem MW_newL {vs : List V} {Q : V → S → Prop} (hn : vs.length ≤ 1000000) : MW (newL vs) σ Q ↔ Q (.obj σ.st.length) { σ with st := σ.st ++ [.lst vs] } := by
  refine MW_fun_ok ?_
  simp only [newL, if_pos hn]
theorem MW_mkT {vs : List V} {Q : V → S → Prop} (hn : vs.length ≤ 1000000) : MW (mkT vs) σ Q ↔ Q (.tup vs) σ := by
  refine MW_fun_ok ?_
  simp only [mkT, if_pos hn]
theorem MW_callF {g : Fun} {vs : List V} {v : V} {st' : Store} {Q : V → S → Prop} (h : g vs σ.st = .ok v st') : MW (callF g vs) σ Q ↔ Q v { σ with st := st' } := by
  refine MW_fun_ok ?_
  unfold callF
  rw [h]

theorem MW_for {nxt : S → Nat → Option (Option V)} {t : V → M Unit} {b : M Fl} {Q : Fl → S → Prop} (N : Nat) (I : Nat → S → Prop)
    (hend : ∀ σ, I N σ → nxt σ N = some none ∧ Q .next σ)
    (h : ∀ i σ, i < N → I i σ → ∃ v, nxt σ i = some (some v) ∧ MW (t v) σ (fun _ σ₁ => MW b σ₁ (fun f σ₂ => match f with | .next => I (i + 1) σ₂ | .cont => I (i + 1) σ₂ | .brk => Q .next σ₂ | .ret v => Q (.ret v) σ₂))) :
    ∀ (n i : Nat) (σ : S), i ≤ N → N - i < n → I i σ → MW (forG nxt t b n i) σ Q := by
  intro n
  induction n with
  | zero => intro i σ _ hk; (first | lia | omega)
  | succ n ih =>
    intro i σ hi hk hI
    by_cases hN : i = N
    · subst hN
      obtain ⟨e, q⟩ := hend σ hI
      refine ⟨.next, σ, ?_, q⟩
      rw [forG]; dsimp only; rw [e]
    · obtain ⟨v, e, hw⟩ := h i σ (by (first | lia | omega)) hI
      have key : MW (do
        t v
        match ← b with
        | .next => forG nxt t b n (i + 1)
        | .cont => forG nxt t b n (i + 1)
        | .brk => pure .next
        | .ret v => pure (.ret v)) σ Q := by
        rw [MW_bind]
        refine hw.mono fun _ σ₁ h1 => ?_
        rw [MW_bind]
        refine h1.mono fun f σ₂ hf => ?_
        cases f with
        | next => exact ih (i + 1) σ₂ (by (first | lia | omega)) (by (first | lia | omega)) hf
        | cont => exact ih (i + 1) σ₂ (by (first | lia | omega)) (by (first | lia | omega)) hf
        | brk => exact MW_pure.mpr hf
        | ret v => exact MW_pure.mpr hf
      obtain ⟨a, σ', e2, q⟩ := key
      refine ⟨a, σ', ?_, q⟩
      rw [forG]; dsimp only; rw [e]; exact e2
end

/-! steps -/
section
variable {α β γ : Type} {σ : S}
theorem w_as {m : M α} {f : α → M β} {g : β → M γ} {Q : γ → S → Prop} (k : MW (m >>= fun a => f a >>= g) σ Q) : MW ((m >>= f) >>= g) σ Q :=
  MW_bind.mpr (MW_bind.mpr ((MW_bind.mp k).mono fun _ _ h => MW_bind.mp h))
theorem w_pure {a : α} {f : α → M β} {Q : β → S → Prop} (k : MW (f a) σ Q) : MW ((pure a : M α) >>= f) σ Q := k
theorem w_if {c : Prop} [Decidable c] {a b : M α} {f : α → M β} {Q : β → S → Prop} (k : MW (if c then a >>= f else b >>= f) σ Q) : MW ((if c then a else b) >>= f) σ Q := by
  split at k
  · rename_i h; rw [if_pos h]; exact k
  · rename_i h; rw [if_neg h]; exact k
theorem w_t {a b : M α} {Q : α → S → Prop} (k : MW a σ Q) : MW (if true = true then a else b) σ Q := k
theorem w_f {a b : M α} {Q : α → S → Prop} (k : MW b σ Q) : MW (if false = true then a else b) σ Q := k
theorem w_get {x : String} {v : V} {f : V → M β} {Q : β → S → Prop} (h : σ.lo x = some v) (k : MW (f v) σ Q) : MW (getv x >>= f) σ Q := MW_bind.mpr (MW_getv.mpr ⟨v, h, k⟩)
theorem w_set {x : String} {v : V} {f : Unit → M β} {Q : β → S → Prop} (k : MW (f ()) (σ.put x v) Q) : MW (setv x v >>= f) σ Q := k
theorem w_add {a b : Int} {f : V → M β} {Q : β → S → Prop} (k : MW (f (.int (a + b))) σ Q) : MW (addV (.int a) (.int b) >>= f) σ Q := k
theorem w_sub {a b : Int} {f : V → M β} {Q : β → S → Prop} (k : MW (f (.int (a - b))) σ Q) : MW (subV (.int a) (.int b) >>= f) σ Q := k
theorem w_neg {a : Int} {f : V → M β} {Q : β → S → Prop} (k : MW (f (.int (-a))) σ Q) : MW (negV (.int a) >>= f) σ Q := k
theorem w_tru {b : Bool} {f : Bool → M β} {Q : β → S → Prop} (k : MW (f b) σ Q) : MW (truV (.bool b) >>= f) σ Q := k
theorem w_lt {a b : Int} {f : V → M β} {Q : β → S → Prop} (k : MW (f (.bool (decide (a < b)))) σ Q) : MW (ltV (.int a) (.int b) >>= f) σ Q := MW_bind.mpr (MW_lt_int.mpr k)
theorem w_gt {a b : Int} {f : V → M β} {Q : β → S → Prop} (k : MW (f (.bool (decide (b < a)))) σ Q) : MW (gtV (.int a) (.int b) >>= f) σ Q := k
theorem w_ge {a b : Int} {f : V → M β} {Q : β → S → Prop} (k : MW (f (.bool (decide (b ≤ a)))) σ Q) : MW (geV (.int a) (.int b) >>= f) σ Q := k
theorem w_le {a b : Int} {f : V → M β} {Q : β → S → Prop} (k : MW (f (.bool (decide (a ≤ b)))) σ Q) : MW (leV (.int a) (.int b) >>= f) σ Q := k
theorem w_end {m : M α} {f : α → M β} {Q : β → S → Prop} (k : MW m σ (fun a σ' => MW (f a) σ' Q)) : MW (m >>= f) σ Q := MW_bind.mpr k
theorem w_seq {a b : M Fl} {Q : Fl → S → Prop} (k : MW a σ (fun f σ' => match f with | .next => MW b σ' Q | .brk => Q .brk σ' | .cont => Q .cont σ' | .ret v => Q (.ret v) σ')) : MW (seqM a b) σ Q := MW_seq.mpr k
theorem e_pure {a : α} {Q : α → S → Prop} (k : Q a σ) : MW (pure a : M α) σ Q := ⟨a, σ, rfl, k⟩
theorem e_set {x : String} {v : V} {Q : Unit → S → Prop} (k : Q () (σ.put x v)) : MW (setv x v) σ Q := MW_setv.mpr k
theorem e_tru {b : Bool} {Q : Bool → S → Prop} (k : Q b σ) : MW (truV (.bool b)) σ Q := MW_tru.mpr k
theorem e_get {x : String} {v : V} {Q : V → S → Prop} (h : σ.lo x = some v) (k : Q v σ) : MW (getv x) σ Q := MW_getv.mpr ⟨v, h, k⟩
end

theorem funM_of {params : List String} {body : M Fl} {vs : List V} {st st' : Store} {v : V} (hl : vs.length = params.length)
    (h : MW body ⟨st, bindP params vs⟩ (fun f σ' => (match f with | .ret u => u | _ => .none) = v ∧ σ'.st = st')) : funM params body vs st = .ok v st' := by
  obtain ⟨f, σ', e, h1, h2⟩ := h
  unfold funM
  rw [if_pos hl, e]
  subst h1 h2
  cases f <;> rfl

end

/-! part H3 -/
set_option autoImplicit false
set_option maxRecDepth 100000
set_option linter.unusedVariables false
set_option linter.unusedSimpArgs false
open PySem PySem.W PyProof.Rows
section
variable {P : V → Prop} {lt : V → V → Bool}

theorem set_get {st : Store} {l : Nat} {ws : List V} {c : Cel} (h : st[l]? = some c) : (st.set l (.lst ws))[l]? = some (.lst ws) := by
  rw [List.getElem?_set_self]; exact (List.getElem?_eq_some_iff.mp h).1
theorem set_id {st : Store} {l : Nat} {ws : List V} (h : st[l]? = some (.lst ws)) : st.set l (.lst ws) = st := by
  obtain ⟨h1, h2⟩ := List.getElem?_eq_some_iff.mp h
  rw [← h2]; exact List.set_getElem_self h1
theorem w_getN {l j : Nat} {k : Int} {vs : List V} {σ : S} {Q : V → S → Prop} (h : σ.st[l]? = some (.lst vs)) (hk : k = j) (hj : j < vs.length) (q : Q (nth vs j) σ) : MW (getI (.obj l) (.int k)) σ Q := by
  subst hk
  exact (MW_getI h (by rw [ix_nat, if_pos hj]) (nth_eq hj)).mpr q

end

/-! part H4 -/
set_option autoImplicit false
set_option maxRecDepth 100000
set_option linter.unusedVariables false
set_option linter.unusedSimpArgs false
open PySem PySem.W PyProof.Rows
section
variable {P : V → Prop} {lt : V → V → Bool}
theorem revR_eq {q : Int} (hq : 0 ≤ q ∧ q < 1000000) : revR (.rng 0 q 1) = pure (.rng (q - 1) (-1) (-1)) := by rw [revR_if, if_pos hq]
theorem nxt_rng (a b c : Int) (σ : S) (i : Nat) : nxtOf (.rng a b c) σ i = some (if i < rngLen a b c then some (.int (a + i * c)) else none) := rfl

end

/-! part H5 -/
set_option autoImplicit false
set_option maxRecDepth 100000
set_option linter.unusedVariables false
set_option linter.unusedSimpArgs false
open PySem PySem.W PyProof.Rows
section
/-! ### lists of ints -/
section
variable {σ : S}

theorem toD_int {st : Store} {n : Nat} {i : Int} : toD st (n + 1) (.int i) = some (.int i) := rfl
theorem mapO_ints {st : Store} {n : Nat} : ∀ ns : List Int, mapO (toD st (n + 1)) (ns.map V.int) = some (ns.map PyData.int)
  | [] => rfl
  | a :: ns => by
    show mapO (toD st (n + 1)) (V.int a :: ns.map V.int) = _
    unfold mapO
    rw [toD_int, mapO_ints ns]
    rfl
theorem toD_intL {st : Store} {n l : Nat} {ns : List Int} (h : st[l]? = some (.lst (ns.map V.int))) : toD st (n + 2) (.obj l) = some (.list (ns.map PyData.int)) := by
  rw [toD]
  simp only [h]
  rw [mapO_ints]; rfl
theorem eqvAll_ints : ∀ as bs : List Int, PyData.eqvAll (as.map PyData.int) (bs.map PyData.int) = decide (as = bs)
  | [], [] => by simp [PyData.eqvAll]
  | [], _ :: _ => by simp [PyData.eqvAll]
  | _ :: _, [] => by simp [PyData.eqvAll]
  | a :: as, b :: bs => by
    simp only [List.map_cons, PyData.eqvAll, eqvAll_ints as bs, PyData.eqv]
    by_cases h : a = b
    · subst h; simp
    · simp [h]
theorem MW_eqL {l k : Nat} {as bs : List Int} {Q : V → S → Prop} (h1 : σ.st[l]? = some (.lst (as.map V.int))) (h2 : σ.st[k]? = some (.lst (bs.map V.int))) : MW (eqV (.obj l) (.obj k)) σ Q ↔ Q (.bool (decide (as = bs))) σ := by
  refine MW_fun_ok ?_
  unfold eqV
  rw [toD_intL h1, toD_intL h2]
  simp only [PyData.eqv, eqvAll_ints]
theorem MW_neL {l k : Nat} {as bs : List Int} {Q : V → S → Prop} (h1 : σ.st[l]? = some (.lst (as.map V.int))) (h2 : σ.st[k]? = some (.lst (bs.map V.int))) : MW (neV (.obj l) (.obj k)) σ Q ↔ Q (.bool (!decide (as = bs))) σ := by
  refine MW_fun_ok ?_
  unfold neV
  rw [toD_intL h1, toD_intL h2]
  simp only [PyData.eqv, eqvAll_ints]
theorem MW_eqI {a b : Int} {Q : V → S → Prop} : MW (eqV (.int a) (.int b)) σ Q ↔ Q (.bool (decide (a = b))) σ := by
  refine MW_fun_ok ?_
  unfold eqV
  rw [toD_int, toD_int]
  simp only [PyData.eqv]
  rfl
theorem MW_neI {a b : Int} {Q : V → S → Prop} : MW (neV (.int a) (.int b)) σ Q ↔ Q (.bool (!decide (a = b))) σ := by
  refine MW_fun_ok ?_
  unfold neV
  rw [toD_int, toD_int]
  simp only [PyData.eqv]
  rfl
theorem MW_isNotNone {v : V} {Q : V → S → Prop} : MW (isNotV v .none) σ Q ↔ Q (.bool (!v.isNone)) σ := by
  refine MW_fun_ok ?_
  cases v <;> rfl
theorem MW_addL {l k : Nat} {as bs : List V} {Q : V → S → Prop} (h1 : σ.st[l]? = some (.lst as)) (h2 : σ.st[k]? = some (.lst bs)) (hn : (as ++ bs).length ≤ 1000000) :
    MW (addV (.obj l) (.obj k)) σ Q ↔ Q (.obj σ.st.length) { σ with st := σ.st ++ [.lst (as ++ bs)] } := by
  refine MW_fun_ok ?_
  unfold addV
  dsimp only
  rw [h1, h2]
  dsimp only
  unfold newL
  rw [if_pos hn]
theorem pick_plain {α : Type} (vs : List α) (lo hi : Option Int) : pickV vs lo hi none = (vs.drop (lo.elim 0 (clipAt vs.length))).take (hi.elim vs.length (clipAt vs.length) - lo.elim 0 (clipAt vs.length)) := by
  unfold pickV
  rw [sliceBounds_plain]
  dsimp only
  rw [sliceRange_one]
  generalize lo.elim 0 (clipAt vs.length) = a
  generalize hi.elim vs.length (clipAt vs.length) - a = n
  induction n generalizing a with
  | zero => simp
  | succ n ih =>
    rw [List.range_succ, List.map_append, List.filterMap_append, ih]
    simp only [List.map_cons, List.map_nil, List.filterMap_cons, List.filterMap_nil]
    rw [List.take_add_one, List.getElem?_drop]
    cases vs[a + n]? <;> rfl
theorem MW_slice {l : Nat} {vs : List V} {a b : V} {lo hi : Option Int} {Q : V → S → Prop} (h : σ.st[l]? = some (.lst vs)) (ha : partO a = some lo) (hb : partO b = some hi) :
    MW (sliceV (.obj l) (a, b, .none)) σ Q ↔ Q (.obj σ.st.length) { σ with st := σ.st ++ [.lst ((vs.drop (lo.elim 0 (clipAt vs.length))).take (hi.elim vs.length (clipAt vs.length) - lo.elim 0 (clipAt vs.length)))] } := by
  refine MW_fun_ok ?_
  have hn : partO V.none = some none := rfl
  unfold sliceV
  dsimp only
  rw [h, ha, hb, hn]
  dsimp only
  rw [if_neg (by simp), pick_plain]
end
section
variable {β : Type} {σ : S}
theorem w_eq {a b : Int} {f : V → M β} {Q : β → S → Prop} (k : MW (f (.bool (decide (a = b)))) σ Q) : MW (eqV (.int a) (.int b) >>= f) σ Q := MW_bind.mpr (MW_eqI.mpr k)
theorem w_ne {a b : Int} {f : V → M β} {Q : β → S → Prop} (k : MW (f (.bool (!decide (a = b)))) σ Q) : MW (neV (.int a) (.int b) >>= f) σ Q := MW_bind.mpr (MW_neI.mpr k)
end
end

/-! part H6 -/
set_option autoImplicit false
set_option maxRecDepth 100000
set_option linter.unusedVariables false
set_option linter.unusedSimpArgs false
open PySem PySem.W PyProof.Rows
section
/-! ### stores: all stays but the places L -/
noncomputable def Pres (L : List Nat) (st st' : Store) : Prop := st.length ≤ st'.length ∧ ∀ k, k < st.length → k ∉ L → st'[k]? = st[k]?
theorem lt_of_get {st : Store} {l : Nat} {c : Cel} (h : st[l]? = some c) : l < st.length := (List.getElem?_eq_some_iff.mp h).1
theorem Pres.refl (L : List Nat) (st : Store) : Pres L st st := ⟨Nat.le_refl _, fun _ _ _ => rfl⟩
theorem Pres.trans {L : List Nat} {a b c : Store} (x : Pres L a b) (y : Pres L b c) : Pres L a c :=
  ⟨Nat.le_trans x.1 y.1, fun k hk hl => (y.2 k (Nat.lt_of_lt_of_le hk x.1) hl).trans (x.2 k hk hl)⟩
theorem Pres.get {L : List Nat} {a b : Store} {k : Nat} {c : Cel} (x : Pres L a b) (h : a[k]? = some c) (hk : k ∉ L) : b[k]? = some c := (x.2 k (lt_of_get h) hk).trans h
theorem Pres.get0 {a b : Store} {k : Nat} {c : Cel} (x : Pres [] a b) (h : a[k]? = some c) : b[k]? = some c := x.get h (by simp)
theorem Pres.app (L : List Nat) (st xs : Store) : Pres L st (st ++ xs) := ⟨by simp, fun k hk _ => List.getElem?_append_left hk⟩
theorem Pres.set {L : List Nat} {st : Store} {l : Nat} {c : Cel} (h : l ∈ L) : Pres L st (st.set l c) :=
  ⟨by simp, fun k hk hl => List.getElem?_set_ne (by rintro rfl; exact hl h)⟩
theorem set_self {st : Store} {l : Nat} {c : Cel} (h : l < st.length) : (st.set l c)[l]? = some c := List.getElem?_set_self h

section
variable {σ : S}
theorem MW_newL' {vs : List V} {Q : V → S → Prop} (hn : vs.length ≤ 1000000) (h : ∀ k st', Pres [] σ.st st' → σ.st.length ≤ k → st'[k]? = some (.lst vs) → Q (.obj k) ⟨st', σ.lo⟩) : MW (newL vs) σ Q :=
  (MW_newL hn).mpr (h _ _ (Pres.app ..) (Nat.le_refl _) List.getElem?_concat_length)
theorem MW_addL' {l k : Nat} {as bs : List V} {Q : V → S → Prop} (h1 : σ.st[l]? = some (.lst as)) (h2 : σ.st[k]? = some (.lst bs)) (hn : (as ++ bs).length ≤ 1000000)
    (h : ∀ k st', Pres [] σ.st st' → σ.st.length ≤ k → st'[k]? = some (.lst (as ++ bs)) → Q (.obj k) ⟨st', σ.lo⟩) : MW (addV (.obj l) (.obj k)) σ Q :=
  (MW_addL h1 h2 hn).mpr (h _ _ (Pres.app ..) (Nat.le_refl _) List.getElem?_concat_length)
theorem MW_slice' {l : Nat} {vs : List V} {a b : V} {lo hi : Option Int} {ws : List V} {Q : V → S → Prop} (hl : σ.st[l]? = some (.lst vs)) (ha : partO a = some lo) (hb : partO b = some hi)
    (he : (vs.drop (lo.elim 0 (clipAt vs.length))).take (hi.elim vs.length (clipAt vs.length) - lo.elim 0 (clipAt vs.length)) = ws)
    (h : ∀ k st', Pres [] σ.st st' → σ.st.length ≤ k → st'[k]? = some (.lst ws) → Q (.obj k) ⟨st', σ.lo⟩) : MW (sliceV (.obj l) (a, b, .none)) σ Q := by
  subst he
  exact (MW_slice hl ha hb).mpr (h _ _ (Pres.app ..) (Nat.le_refl _) List.getElem?_concat_length)
theorem MW_callF' {g : Fun} {vs : List V} {v : V} {st' : Store} {Q : V → S → Prop} (h : g vs σ.st = .ok v st') (q : Q v ⟨st', σ.lo⟩) : MW (callF g vs) σ Q := (MW_callF h).mpr q
end
theorem funM_ex {params : List String} {body : M Fl} {vs : List V} {st : Store} {R : V → Store → Prop} (hl : vs.length = params.length)
    (h : MW body ⟨st, bindP params vs⟩ (fun f σ' => R (match f with | .ret u => u | _ => .none) σ'.st)) : ∃ v st', funM params body vs st = .ok v st' ∧ R v st' := by
  obtain ⟨f, σ', e, h1⟩ := h
  exact ⟨_, _, funM_of hl ⟨f, σ', e, rfl, rfl⟩, h1⟩

theorem clip_nat {n k : Nat} : clipAt n (k : Int) = min k n := by
  unfold clipAt; rw [if_neg (Int.not_lt.mpr (Int.natCast_nonneg k))]; exact n_clip

section
variable {σ : S}
theorem MW_sl0 {l : Nat} {vs : List V} {y : Int} {Q : V → S → Prop} (b : Nat) (hl : σ.st[l]? = some (.lst vs)) (hy : y = b)
    (h : ∀ k st', Pres [] σ.st st' → σ.st.length ≤ k → st'[k]? = some (.lst (vs.take b)) → Q (.obj k) ⟨st', σ.lo⟩) : MW (sliceV (.obj l) (.none, .int y, .none)) σ Q := by
  subst hy
  refine MW_slice' (lo := none) (hi := some (b : Int)) hl rfl rfl ?_ h
  simp only [Option.elim, clip_nat]
  simp
end
theorem nthV {ns : List Int} {i : Nat} (h : i < ns.length) : nth (ns.map V.int) i = .int (nth ns i) := by
  rw [nth_getElem (by simpa using h), nth_getElem h]; simp
section
variable {σ : S}
end

end

/-! part H7 -/
set_option autoImplicit false
set_option maxRecDepth 100000
set_option linter.unusedVariables false
set_option linter.unusedSimpArgs false
open PySem PySem.W PyProof.Rows
section
theorem MW_loopC {nxt : S → Nat → Option (Option V)} {t : V → M Unit} {c : M Bool} {mi : M Unit} {Q : Unit → S → Prop} (N : Nat) (I : Nat → S → Prop)
    (hend : ∀ σ, I N σ → nxt σ N = some none ∧ Q () σ)
    (h : ∀ i σ, i < N → I i σ → ∃ v, nxt σ i = some (some v) ∧ MW (t v) σ (fun _ σ₁ => MW c σ₁ (fun b σ₂ => if b = true then MW mi σ₂ (fun _ σ₃ => I (i + 1) σ₃) else I (i + 1) σ₂)))
    (n : Nat) (σ : S) (hn : N < n) (h0 : I 0 σ) : MW (loopC n t c mi nxt) σ Q := by
  unfold loopC
  rw [MW_bind]
  refine MW_for (Q := fun _ σ' => MW (pure ()) σ' Q) N I (fun σ hI => ⟨(hend σ hI).1, MW_pure.mpr (hend σ hI).2⟩) ?_ n 0 σ (Nat.zero_le _) (by (first | lia | omega)) h0
  intro i σ hi hI
  obtain ⟨v, e, hw⟩ := h i σ hi hI
  refine ⟨v, e, hw.mono fun _ σ₁ h1 => ?_⟩
  unfold compB
  rw [MW_bind]
  refine h1.mono fun b σ₂ h2 => ?_
  cases b with
  | true =>
    simp only [if_true] at h2 ⊢
    rw [MW_bind]
    exact h2.mono fun _ σ₃ h3 => MW_pure.mpr h3
  | false =>
    simp only [Bool.false_eq_true, if_false] at h2 ⊢
    exact MW_pure.mpr h2

theorem MW_compTail {free : List String} {mc : Nat → (S → Nat → Option (Option V)) → M Unit} {v : V} {σ : S} {Q : V → S → Prop} (hok : okIter v σ = .ok () σ)
    (h : MW (mc σ.st.length (nxtOf v)) ⟨σ.st ++ [.lst []], restr free σ.lo⟩ (fun _ σ' => Q (.obj σ.st.length) ⟨σ'.st, σ.lo⟩)) : MW (compTail free mc v) σ Q := by
  obtain ⟨u, σ', e, q⟩ := h
  refine ⟨.obj σ.st.length, ⟨σ'.st, σ.lo⟩, ?_, q⟩
  unfold compTail compTailC
  rw [hok]
  dsimp only
  rw [e]

noncomputable def Agree (st st' : Store) : Prop := ∀ k, k < st.length → st'[k]? = st[k]?

theorem MW_appendAt {l : Nat} {vs : List V} {v : V} {σ : S} {Q : Unit → S → Prop} (h : σ.st[l]? = some (.lst vs)) (hl : l ≠ 0) (hn : vs.length < 1000000) (q : Q () ⟨σ.st.set l (.lst (vs ++ [v])), σ.lo⟩) : MW (appendAt l v) σ Q := by
  unfold appendAt
  rw [MW_bind]
  exact (MW_append h hl hn).mpr (MW_pure.mpr q)

/-- a comprehension whose tests and items leave the store alone -/
theorem MW_compPure {free : List String} {mc : Nat → (S → Nat → Option (Option V)) → M Unit} {t : V → M Unit} {c : M Bool} {e : M V} {n : Nat} {v0 : V} {us : List V} {σ : S} {Q : V → S → Prop} (g : V → Option V)
    (hmc : ∀ l nxt, mc l nxt = loopC n t c (do let v ← e; appendAt l v) nxt)
    (hok : okIter v0 σ = .ok () σ) (h0 : 0 < σ.st.length) (hnx : ∀ σ' i, Agree σ.st σ'.st → nxtOf v0 σ' i = some us[i]?) (hn : us.length < n) (hn2 : us.length < 1000000)
    (h : ∀ v ∈ us, ∀ σ', Agree σ.st σ'.st → (∀ x ∈ free, σ'.lo x = σ.lo x) → MW (t v) σ' (fun _ σ₁ => σ₁.st = σ'.st ∧ (∀ x ∈ free, σ₁.lo x = σ'.lo x) ∧
      MW c σ₁ (fun b σ₂ => σ₂ = σ₁ ∧ (match g v with | none => b = false | some w => b = true ∧ MW e σ₁ (fun u σ₃ => u = w ∧ σ₃ = σ₁)))))
    (q : ∀ k st', Pres [] σ.st st' → σ.st.length ≤ k → st'[k]? = some (.lst (us.filterMap g)) → Q (.obj k) ⟨st', σ.lo⟩) : MW (compTail free mc v0) σ Q := by
  refine MW_compTail hok ?_
  rw [hmc]
  refine MW_loopC us.length (fun i σ' => σ'.st = σ.st ++ [.lst ((us.take i).filterMap g)] ∧ ∀ x ∈ free, σ'.lo x = σ.lo x) ?_ ?_ n _ hn ⟨by simp, fun x hx => by simp only [restr, if_pos hx]⟩
  · rintro σ' ⟨e1, _⟩
    refine ⟨?_, ?_⟩
    · rw [hnx σ' _ (by rw [e1]; intro k hk; exact List.getElem?_append_left hk)]; simp
    · rw [e1, List.take_length]
      exact q _ _ (Pres.app ..) (Nat.le_refl _) List.getElem?_concat_length
  · rintro i σ' hi ⟨e1, e2⟩
    have hag : Agree σ.st σ'.st := by rw [e1]; intro k hk; exact List.getElem?_append_left hk
    refine ⟨us[i], by rw [hnx σ' i hag, List.getElem?_eq_getElem hi], ?_⟩
    refine (h us[i] (List.getElem_mem hi) σ' hag e2).mono fun _ σ₁ h1 => ?_
    obtain ⟨e3, e4, h2⟩ := h1
    refine h2.mono fun b σ₂ h3 => ?_
    obtain ⟨rfl, h3⟩ := h3
    have htake : us.take (i + 1) = us.take i ++ [us[i]] := by rw [List.take_add_one, List.getElem?_eq_getElem hi]; rfl
    cases hg : g us[i] with
    | none =>
      rw [hg] at h3
      simp only at h3
      subst h3
      simp only [Bool.false_eq_true, if_false]
      refine ⟨?_, fun x hx => (e4 x hx).trans (e2 x hx)⟩
      rw [e3, e1, htake, List.filterMap_append]
      simp [hg]
    | some w =>
      rw [hg] at h3
      obtain ⟨rfl, h4⟩ := h3
      simp only [if_true]
      rw [MW_bind]
      refine h4.mono fun u σ₃ h5 => ?_
      obtain ⟨rfl, rfl⟩ := h5
      have hlt : ((us.take i).filterMap g).length < 1000000 := by
        have h6 := List.length_filterMap_le g (us.take i)
        rw [List.length_take] at h6
        (first | lia | omega)
      have hst : σ₃.st = σ.st ++ [.lst ((us.take i).filterMap g)] := e3.trans e1
      refine MW_appendAt (by rw [hst]; exact List.getElem?_concat_length) (by (first | lia | omega)) hlt ⟨?_, fun x hx => (e4 x hx).trans (e2 x hx)⟩
      dsimp only
      rw [hst, htake, List.filterMap_append, List.set_append_right _ _ (Nat.le_refl _)]
      simp [hg]

theorem nxt_obj {l : Nat} {vs : List V} {st : Store} (h : st[l]? = some (.lst vs)) : ∀ (σ' : S) i, Agree st σ'.st → nxtOf (.obj l) σ' i = some vs[i]? := by
  intro σ' i hag
  have : σ'.st[l]? = some (.lst vs) := (hag l (lt_of_get h)).trans h
  show (match σ'.st[l]? with | some (.lst vs) => some vs[i]? | _ => none) = _
  rw [this]
theorem ok_rng {a b c : Int} {σ : S} (h : Builtin.Range.small a b c = true) : okIter (.rng a b c) σ = .ok () σ := by simp only [okIter, h, if_true]
theorem ok_obj {l : Nat} {vs : List V} {σ : S} (h : σ.st[l]? = some (.lst vs)) : okIter (.obj l) σ = .ok () σ := chkL_ok h

end

/-! part H8 -/
set_option autoImplicit false
set_option maxRecDepth 100000
set_option linter.unusedVariables false
set_option linter.unusedSimpArgs false
open PySem PySem.W PyProof.Rows
section
section
variable {σ : S}
theorem MW_unpack {n : Nat} {m : List V → M Unit} {vs : List V} {Q : Unit → S → Prop} (h : vs.length = n) : MW (unpackT n m (.tup vs)) σ Q ↔ MW (m vs) σ Q := by
  unfold unpackT; dsimp only; rw [if_pos h]
theorem MW_unpack2 {m : List V → M Unit} {a b : V} {Q : Unit → S → Prop} : MW (unpackT 2 m (.tup [a, b])) σ Q ↔ MW (m [a, b]) σ Q := MW_unpack rfl
theorem MW_consT {m : V → M Unit} {ms : List V → M Unit} {v : V} {vs : List V} {Q : Unit → S → Prop} : MW (consT m ms (v :: vs)) σ Q ↔ MW (m v) σ (fun _ σ' => MW (ms vs) σ' Q) := by
  show MW (m v >>= fun _ => ms vs) σ Q ↔ _
  rw [MW_bind]
end

/-! ### ranges -/
theorem rngS_pos {a b c : Int} (hc : 0 < c) : Builtin.Range.rangeSize a b c = if a < b then (b - a - 1) / c + 1 else 0 := by
  unfold Builtin.Range.rangeSize; rw [if_pos hc]
theorem rngU_small {a b c : Int} (ha : -100000 ≤ a ∧ a ≤ 100000) (hb : -100000 ≤ b ∧ b ≤ 100000) (hc : 0 < c ∧ c ≤ 100000) : Builtin.Range.small a b c = true := by
  have hz : 0 ≤ Builtin.Range.rangeSize a b c ∧ Builtin.Range.rangeSize a b c ≤ 300000 := by
    refine ⟨rangeSize_nonneg a b c, ?_⟩
    rw [rngS_pos hc.1]
    split
    · have := Int.ediv_le_self (a := b - a - 1) c (by (first | lia | omega))
      (first | lia | omega)
    · (first | lia | omega)
  unfold Builtin.Range.small
  simp only [Bool.and_eq_true]
  refine ⟨⟨⟨⟨fits_of (by (first | lia | omega)), fits_of (by (first | lia | omega))⟩, fits_of (by (first | lia | omega))⟩, fits_of (by (first | lia | omega))⟩, ?_⟩
  simp only [Bool.or_eq_true]
  right
  rw [if_pos (by (first | lia | omega))]
  exact fits_of (by (first | lia | omega))
/-- range(a, b) as a list -/
theorem nxt_rngU {a b : Int} {n : Nat} (σ : S) (i : Nat) (hn : n = (b - a).toNat) : nxtOf (.rng a b 1) σ i = some ((List.range n).map fun (j : Nat) => V.int (a + j))[i]? := by
  rw [nxt_rng]
  have h1 := rngLen_eq a b 1
  rw [rngS_pos (by (first | lia | omega))] at h1
  have : rngLen a b 1 = n := by split at h1 <;> (first | lia | omega)
  rw [this]
  by_cases hi : i < n
  · rw [if_pos hi]; simp [hi]
  · rw [if_neg hi, List.getElem?_eq_none (by simp; (first | lia | omega))]

section
variable {σ : S}
end
end

/-! part H9 -/
set_option autoImplicit false
set_option maxRecDepth 100000
set_option linter.unusedVariables false
set_option linter.unusedSimpArgs false
open PySem PySem.W PyProof.Rows
section
theorem eqv_int (a b : Int) : PyData.eqv (.int a) (.int b) = decide (a = b) := by
  simp only [PyData.eqv]; rfl
section
variable {σ : S}
end
/-- the best of a row -/
theorem argBest_best (bt : Nat → Nat → Bool) (n : Nat) (tr : ∀ i j k, i ≤ n → j ≤ n → k ≤ n → bt i j = false → bt j k = false → bt i k = false) (as : ∀ i j, i ≤ n → j ≤ n → bt i j = true → bt j i = false) :
    ∀ k, k ≤ n → argBest bt k ≤ k ∧ ∀ i, i ≤ k → bt i (argBest bt k) = false := by
  intro k
  induction k with
  | zero =>
    intro _
    refine ⟨Nat.le_refl _, fun i hi => ?_⟩
    have : i = 0 := by (first | lia | omega)
    subst this
    show bt 0 0 = false
    cases h : bt 0 0 with
    | false => rfl
    | true => have := as 0 0 (by (first | lia | omega)) (by (first | lia | omega)) h; rw [h] at this; cases this
  | succ k ih =>
    intro hk
    obtain ⟨h1, h2⟩ := ih (by (first | lia | omega))
    have irr : ∀ i, i ≤ n → bt i i = false := by
      intro i hi
      cases h : bt i i with
      | false => rfl
      | true => have := as i i hi hi h; rw [h] at this; cases this
    unfold argBest
    split
    · rename_i hb
      refine ⟨Nat.le_refl _, fun i hi => ?_⟩
      rcases Nat.lt_or_ge i (k + 1) with h3 | h3
      · exact tr i (argBest bt k) (k + 1) (by (first | lia | omega)) (by (first | lia | omega)) (by (first | lia | omega)) (h2 i (by (first | lia | omega))) (as _ _ (by (first | lia | omega)) (by (first | lia | omega)) hb)
      · have : i = k + 1 := by (first | lia | omega)
        subst this; exact irr _ (by (first | lia | omega))
    · rename_i hb
      refine ⟨by (first | lia | omega), fun i hi => ?_⟩
      rcases Nat.lt_or_ge i (k + 1) with h3 | h3
      · exact h2 i (by (first | lia | omega))
      · have : i = k + 1 := by (first | lia | omega)
        subst this; simpa using hb
section
variable {σ : S}
theorem MW_minLI {l : Nat} {ns : List Int} {Q : V → S → Prop} (h : σ.st[l]? = some (.lst (ns.map V.int))) (h0 : 0 < ns.length) (q : ∀ t ∈ ns, (∀ u ∈ ns, t ≤ u) → Q (.int t) σ) : MW (minD [.obj l]) σ Q := by
  have e : minD [.obj l] σ = minL (ns.map V.int) σ := by
    show (match σ.st[l]? with | some (.lst vs) => minL vs σ | _ => .stuck) = _
    rw [h]
  generalize hds : ns.map PyData.int = ds
  have hget : ∀ i (hi : i < ns.length), ds[i]? = some (PyData.int ns[i]) := by
    intro i hi; rw [← hds, List.getElem?_map, List.getElem?_eq_getElem hi]; rfl
  have hbt : ∀ i j (hi : i < ns.length) (hj : j < ns.length), btOf ltD ds i j = decide (ns[i] < ns[j]) := by
    intro i j hi hj
    unfold btOf
    rw [hget i hi, hget j hj]
    simp [ltD, lt0]
  have hb := argBest_best (btOf ltD ds) (ns.length - 1)
    (fun i j k hi hj hk h1 h2 => by
      rw [hbt i j (by (first | lia | omega)) (by (first | lia | omega))] at h1
      rw [hbt j k (by (first | lia | omega)) (by (first | lia | omega))] at h2
      rw [hbt i k (by (first | lia | omega)) (by (first | lia | omega))]
      simp only [decide_eq_false_iff_not] at h1 h2 ⊢; (first | lia | omega))
    (fun i j hi hj h1 => by
      rw [hbt i j (by (first | lia | omega)) (by (first | lia | omega))] at h1
      rw [hbt j i (by (first | lia | omega)) (by (first | lia | omega))]
      simp only [decide_eq_false_iff_not, decide_eq_true_eq] at h1 ⊢; (first | lia | omega)) (ns.length - 1) (Nat.le_refl _)
  have hlt : argBest (btOf ltD ds) (ns.length - 1) < ns.length := by (first | lia | omega)
  refine (MW_fun_ok (a := .int ns[argBest (btOf ltD ds) (ns.length - 1)]) (σ' := σ) ?_).mpr (q _ (List.getElem_mem hlt) ?_)
  · rw [e]
    unfold minL
    rw [mapO_ints, hds]
    dsimp only
    rw [List.length_map, if_pos]
    · congr 1
      rw [List.getD_eq_getElem?_getD, List.getElem?_map, List.getElem?_eq_getElem hlt]; rfl
    · refine ⟨h0, ?_⟩
      unfold allCmp
      rw [← hds]
      simp [List.all_map, ltD, lt0, -Array.lt_toList]
  · intro u hu
    obtain ⟨i, hi, rfl⟩ := List.mem_iff_getElem.mp hu
    have := hb.2 i (by (first | lia | omega))
    rw [hbt i _ hi hlt] at this
    simp only [decide_eq_false_iff_not] at this; (first | lia | omega)
theorem any_ints (k : Int) (ns : List Int) : (ns.map PyData.int).any (fun y => PyData.eqv y (.int k)) = decide (k ∈ ns) := by
  induction ns with
  | nil => rfl
  | cons a ns ih =>
    simp only [List.map_cons, List.any_cons, ih, eqv_int, List.mem_cons]
    by_cases h : a = k
    · subst h; simp
    · simp [h, Ne.symm h]
theorem MW_inL {l : Nat} {k : Int} {ns : List Int} {Q : V → S → Prop} (h : σ.st[l]? = some (.lst (ns.map V.int))) : MW (inV (.int k) (.obj l)) σ Q ↔ Q (.bool (decide (k ∈ ns))) σ := by
  refine MW_fun_ok ?_
  unfold inV
  rw [toD_int, toD_intL h]
  simp only [inD, any_ints]
end
end

/-! part H10 -/
set_option autoImplicit false
set_option maxRecDepth 100000
set_option linter.unusedVariables false
set_option linter.unusedSimpArgs false
open PySem PySem.W PyProof.Rows
section
end

/-! part P09 -/
set_option autoImplicit false
set_option linter.unusedVariables false
set_option linter.unusedSectionVars false
section
/-! ### a heap's halves, level by level -/
noncomputable def pw (i : Nat) : Nat := 2 ^ (i + 1).log2
noncomputable def pos (q i : Nat) : Nat := pw i * q + i
section
variable {α : Type} [Inhabited α] {lt : α → α → Bool}
variable {n q m : Nat}
end

end

/-! part P01 -/
set_option autoImplicit false
set_option maxRecDepth 100000
set_option linter.unusedVariables false
set_option linter.unusedSimpArgs false
section
section
variable {α : Type} [Inhabited α] {lt : α → α → Bool}
end
end

/-! part H11 -/
set_option autoImplicit false
set_option maxRecDepth 100000
set_option linter.unusedVariables false
set_option linter.unusedSimpArgs false
open PySem PySem.W PyProof.Rows
section
/-! ### the heap functions, where items stand at the places D alone -/
variable {P : V → Prop} {lt : V → V → Bool} {D : Nat → Prop}
end

/-! part H12 -/
set_option autoImplicit false
set_option maxRecDepth 100000
set_option linter.unusedVariables false
set_option linter.unusedSimpArgs false
open PySem PySem.W PyProof.Rows
section
section
variable {α β : Type} {σ : S} {e : Exc} {Q : S → Prop}
end
/-! ### _siftdown up to None -/
variable {P : V → Prop} {lt : V → V → Bool} {D : Nat → Prop}
end

/-! part H13 -/
set_option autoImplicit false
set_option maxRecDepth 100000
set_option linter.unusedVariables false
set_option linter.unusedSimpArgs false
open PySem PySem.W PyProof.Rows
section
theorem MW_list' {l : Nat} {vs : List V} {σ : S} {Q : V → S → Prop} (h : σ.st[l]? = some (.lst vs)) (q : ∀ k st', Pres [] σ.st st' → σ.st.length ≤ k → st'[k]? = some (.lst vs) → Q (.obj k) ⟨st', σ.lo⟩) : MW (listB [.obj l]) σ Q := by
  refine (MW_fun_ok (a := .obj σ.st.length) (σ' := { σ with st := σ.st ++ [.lst vs] }) ?_).mpr (q _ _ (Pres.app ..) (Nat.le_refl _) List.getElem?_concat_length)
  unfold listB
  dsimp only
  rw [h]
theorem MW_getN {l j : Nat} {k : Int} {vs : List V} {σ : S} {Q : V → S → Prop} (h : σ.st[l]? = some (.lst vs)) (hk : k = j) (hj : j < vs.length) : MW (getI (.obj l) (.int k)) σ Q ↔ Q (nth vs j) σ := by
  subst hk
  exact MW_getI h (by rw [ix_nat, if_pos hj]) (nth_eq hj)
theorem getv_okx {σ : S} {x : String} {v : V} (h : σ.lo x = some v) : getv x σ = .ok v σ := by unfold getv; rw [h]
theorem eqI_okx {a b : Int} {σ : S} : eqV (.int a) (.int b) σ = .ok (.bool (decide (a = b))) σ := by
  obtain ⟨v, σ', e, h1, h2⟩ := (MW_eqI (σ := σ) (a := a) (b := b) (Q := fun v σ' => v = .bool (decide (a = b)) ∧ σ' = σ)).mpr ⟨rfl, rfl⟩
  rw [e, h1, h2]

end

/-! part H14a -/
set_option autoImplicit false
set_option maxRecDepth 100000
set_option linter.unusedVariables false
set_option linter.unusedSimpArgs false
open PySem PySem.W PyProof.Rows
section
/-! ### programs that end well or by an exception -/
noncomputable def MY0 {α : Type} (r : Res S α) (Q : α → S → Prop) (X : Exc → S → Prop) : Prop := match r with
  | .ok a σ' => Q a σ'
  | .exc e σ' => X e σ'
  | .stuck => False
structure MY {α : Type} (m : M α) (σ : S) (Q : α → S → Prop) (X : Exc → S → Prop) : Prop where
  out : MY0 (m σ) Q X
section
variable {α β γ : Type} {σ : S} {X : Exc → S → Prop}
theorem MY_bind {m : M α} {f : α → M β} {Q : β → S → Prop} (h : MY m σ (fun a σ' => MY (f a) σ' Q X) X) : MY (m >>= f) σ Q X := by
  have h := h.out
  refine ⟨?_⟩
  rw [M.bind_def]
  cases e : m σ with
  | ok a σ' => rw [e] at h; exact MY.out h
  | exc x y => rw [e] at h; exact h
  | stuck => rw [e] at h; exact h
theorem MY_of {m : M α} {Q : α → S → Prop} (h : MW m σ Q) : MY m σ Q X := by
  obtain ⟨a, σ', e, q⟩ := h
  exact ⟨by rw [e]; exact q⟩
theorem MY.mono {m : M α} {Q Q' : α → S → Prop} {X' : Exc → S → Prop} (h : MY m σ Q X) (k : ∀ a σ', Q a σ' → Q' a σ') (kx : ∀ e σ', X e σ' → X' e σ') : MY m σ Q' X' := by
  have h := h.out
  refine ⟨?_⟩
  cases e : m σ with
  | ok a σ' => rw [e] at h; exact k _ _ h
  | exc x y => rw [e] at h; exact kx _ _ h
  | stuck => rw [e] at h; exact h
theorem MY_ok {m : M α} {a : α} {σ' : S} {Q : α → S → Prop} (e : m σ = .ok a σ') (q : Q a σ') : MY m σ Q X := ⟨by rw [e]; exact q⟩
theorem y_as {m : M α} {f : α → M β} {g : β → M γ} {Q : γ → S → Prop} (k : MY (m >>= fun a => f a >>= g) σ Q X) : MY ((m >>= f) >>= g) σ Q X := by
  have e : ((m >>= f) >>= g) σ = (m >>= fun a => f a >>= g) σ := by
    simp only [M.bind_def]
    cases m σ <;> rfl
  exact ⟨by rw [e]; exact k.out⟩
theorem y_pure {a : α} {f : α → M β} {Q : β → S → Prop} (k : MY (f a) σ Q X) : MY ((pure a : M α) >>= f) σ Q X := ⟨k.out⟩
theorem y_if {c : Prop} [Decidable c] {a b : M α} {f : α → M β} {Q : β → S → Prop} (k : MY (if c then a >>= f else b >>= f) σ Q X) : MY ((if c then a else b) >>= f) σ Q X := by
  split at k
  · rename_i h; rw [if_pos h]; exact k
  · rename_i h; rw [if_neg h]; exact k
theorem y_t {a b : M α} {Q : α → S → Prop} (k : MY a σ Q X) : MY (if true = true then a else b) σ Q X := k
theorem y_f {a b : M α} {Q : α → S → Prop} (k : MY b σ Q X) : MY (if false = true then a else b) σ Q X := k
theorem y_get {x : String} {v : V} {f : V → M β} {Q : β → S → Prop} (h : σ.lo x = some v) (k : MY (f v) σ Q X) : MY (getv x >>= f) σ Q X := MY_bind (MY_ok (getv_okx h) k)
theorem y_set {x : String} {v : V} {f : Unit → M β} {Q : β → S → Prop} (k : MY (f ()) (σ.put x v) Q X) : MY (setv x v >>= f) σ Q X := ⟨k.out⟩
theorem y_add {a b : Int} {f : V → M β} {Q : β → S → Prop} (k : MY (f (.int (a + b))) σ Q X) : MY (addV (.int a) (.int b) >>= f) σ Q X := ⟨k.out⟩
theorem y_sub {a b : Int} {f : V → M β} {Q : β → S → Prop} (k : MY (f (.int (a - b))) σ Q X) : MY (subV (.int a) (.int b) >>= f) σ Q X := ⟨k.out⟩
theorem y_neg {a : Int} {f : V → M β} {Q : β → S → Prop} (k : MY (f (.int (-a))) σ Q X) : MY (negV (.int a) >>= f) σ Q X := ⟨k.out⟩
theorem y_tru {b : Bool} {f : Bool → M β} {Q : β → S → Prop} (k : MY (f b) σ Q X) : MY (truV (.bool b) >>= f) σ Q X := ⟨k.out⟩
theorem y_lt {a b : Int} {f : V → M β} {Q : β → S → Prop} (k : MY (f (.bool (decide (a < b)))) σ Q X) : MY (ltV (.int a) (.int b) >>= f) σ Q X := MY_bind (MY_of (MW_lt_int.mpr k))
theorem y_gt {a b : Int} {f : V → M β} {Q : β → S → Prop} (k : MY (f (.bool (decide (b < a)))) σ Q X) : MY (gtV (.int a) (.int b) >>= f) σ Q X := ⟨k.out⟩
theorem y_eq {a b : Int} {f : V → M β} {Q : β → S → Prop} (k : MY (f (.bool (decide (a = b)))) σ Q X) : MY (eqV (.int a) (.int b) >>= f) σ Q X := MY_bind (MY_ok eqI_okx k)
theorem y_end {m : M α} {f : α → M β} {Q : β → S → Prop} (k : MY m σ (fun a σ' => MY (f a) σ' Q X) X) : MY (m >>= f) σ Q X := MY_bind k
theorem y_seq {a b : M Fl} {Q : Fl → S → Prop} (k : MY a σ (fun f σ' => match f with | .next => MY b σ' Q X | .brk => Q .brk σ' | .cont => Q .cont σ' | .ret v => Q (.ret v) σ') X) : MY (seqM a b) σ Q X := by
  unfold seqM
  refine MY_bind (k.mono (fun f σ' h => ?_) fun _ _ h => h)
  cases f with
  | next => exact h
  | _ => exact ⟨h⟩
theorem z_pure {a : α} {Q : α → S → Prop} (k : Q a σ) : MY (pure a : M α) σ Q X := ⟨k⟩
theorem z_set {x : String} {v : V} {Q : Unit → S → Prop} (k : Q () (σ.put x v)) : MY (setv x v) σ Q X := ⟨k⟩
theorem z_tru {b : Bool} {Q : Bool → S → Prop} (k : Q b σ) : MY (truV (.bool b)) σ Q X := ⟨k⟩
theorem z_get {x : String} {v : V} {Q : V → S → Prop} (h : σ.lo x = some v) (k : Q v σ) : MY (getv x) σ Q X := MY_ok (getv_okx h) k
theorem MY_while {c : M Bool} {b : M Fl} {Q : Fl → S → Prop} (I : Nat → S → Prop)
    (h : ∀ k σ, I k σ → MY c σ (fun t σ₁ => if t = true then MY b σ₁ (fun f σ₂ => match f with | .next => ∃ j, j < k ∧ I j σ₂ | .cont => ∃ j, j < k ∧ I j σ₂ | .brk => Q .next σ₂ | .ret v => Q (.ret v) σ₂) X else Q .next σ₁) X) :
    ∀ (n k : Nat) (σ : S), k < n → I k σ → MY (whileM c b n) σ Q X := by
  intro n
  induction n with
  | zero => intro k σ hk; (first | lia | omega)
  | succ n ih =>
    intro k σ hk hI
    unfold whileM
    refine MY_bind ((h k σ hI).mono (fun t σ₁ ht => ?_) fun _ _ h => h)
    cases t with
    | false => simp only [Bool.false_eq_true, if_false] at ht ⊢; exact ⟨ht⟩
    | true =>
      simp only [if_true] at ht ⊢
      refine MY_bind (ht.mono (fun f σ₂ hf => ?_) fun _ _ h => h)
      cases f with
      | next => obtain ⟨j, hj, hI'⟩ := hf; exact ih j σ₂ (by (first | lia | omega)) hI'
      | cont => obtain ⟨j, hj, hI'⟩ := hf; exact ih j σ₂ (by (first | lia | omega)) hI'
      | brk => exact ⟨hf⟩
      | ret v => exact ⟨hf⟩
theorem MY_for {nxt : S → Nat → Option (Option V)} {t : V → M Unit} {b : M Fl} {Q : Fl → S → Prop} (N : Nat) (I : Nat → S → Prop)
    (hend : ∀ σ, I N σ → nxt σ N = some none ∧ Q .next σ)
    (h : ∀ i σ, i < N → I i σ → ∃ v, nxt σ i = some (some v) ∧ MY (t v) σ (fun _ σ₁ => MY b σ₁ (fun f σ₂ => match f with | .next => I (i + 1) σ₂ | .cont => I (i + 1) σ₂ | .brk => Q .next σ₂ | .ret v => Q (.ret v) σ₂) X) X) :
    ∀ (n i : Nat) (σ : S), i ≤ N → N - i < n → I i σ → MY (forG nxt t b n i) σ Q X := by
  intro n
  induction n with
  | zero => intro i σ _ hk; (first | lia | omega)
  | succ n ih =>
    intro i σ hi hk hI
    by_cases hN : i = N
    · subst hN
      obtain ⟨e, q⟩ := hend σ hI
      refine MY_ok (a := .next) (σ' := σ) ?_ q
      rw [forG]; dsimp only; rw [e]
    · obtain ⟨v, e, hw⟩ := h i σ (by (first | lia | omega)) hI
      have key : MY (do
        t v
        match ← b with
        | .next => forG nxt t b n (i + 1)
        | .cont => forG nxt t b n (i + 1)
        | .brk => pure .next
        | .ret v => pure (.ret v)) σ Q X := by
        refine MY_bind (hw.mono (fun _ σ₁ h1 => ?_) fun _ _ h => h)
        refine MY_bind (h1.mono (fun f σ₂ hf => ?_) fun _ _ h => h)
        cases f with
        | next => exact ih (i + 1) σ₂ (by (first | lia | omega)) (by (first | lia | omega)) hf
        | cont => exact ih (i + 1) σ₂ (by (first | lia | omega)) (by (first | lia | omega)) hf
        | brk => exact ⟨hf⟩
        | ret v => exact ⟨hf⟩
      have e2 : forG nxt t b (n + 1) i σ = (do
        t v
        match ← b with
        | .next => forG nxt t b n (i + 1)
        | .cont => forG nxt t b n (i + 1)
        | .brk => pure .next
        | .ret v => pure (.ret v) : M Fl) σ := by
        rw [forG]; dsimp only; rw [e]; try rfl
      exact ⟨by rw [e2]; exact key.out⟩
end
/-- a def's end, either way -/
theorem funM_y {params : List String} {body : M Fl} {vs : List V} {st : Store} {r : Res Store V} (hl : vs.length = params.length)
    (h : MY body ⟨st, bindP params vs⟩ (fun f σ' => r = .ok (match f with | .ret u => u | _ => .none) σ'.st) (fun e σ' => r = .exc e σ'.st)) : funM params body vs st = r := by
  have h := h.out
  unfold funM
  rw [if_pos hl]
  cases e : body ⟨st, bindP params vs⟩ with
  | ok f σ' => rw [e] at h; rw [h]; cases f <;> rfl
  | exc x σ' => rw [e] at h; rw [h]
  | stuck => rw [e] at h; exact h.elim
theorem MY_callF {g : Fun} {vs : List V} {σ : S} {r : Res Store V} {Q : V → S → Prop} {X : Exc → S → Prop} (h : g vs σ.st = r) (q : match (generalizing := false) r with | .ok v st' => Q v ⟨st', σ.lo⟩ | .exc e st' => X e ⟨st', σ.lo⟩ | .stuck => False) : MY (callF g vs) σ Q X := by
  refine ⟨?_⟩
  unfold callF
  rw [h]
  cases r <;> exact q

/-! ### heaps of items that may not be compared, plain -/
section
variable {α : Type} [Inhabited α]
noncomputable def sdE (lt bad : α → α → Bool) (x : α) (start : Nat) (vs : List α) (pos : Nat) : List α × Option (α × α) :=
  WellFounded.fix (C := fun _ : Nat => List α → List α × Option (α × α)) Nat.lt_wfRel.wf (fun pos rec vs =>
    if h : start < pos then
      if bad x (nth vs ((pos - 1) / 2)) = true then (vs, some (x, nth vs ((pos - 1) / 2)))
      else if lt x (nth vs ((pos - 1) / 2)) = true then rec ((pos - 1) / 2) (show (pos - 1) / 2 < pos by (first | lia | omega)) (vs.set pos (nth vs ((pos - 1) / 2)))
      else (vs.set pos x, none)
    else (vs.set pos x, none)) pos vs
theorem sdE_def (lt bad : α → α → Bool) (x : α) (start : Nat) (vs : List α) (pos : Nat) : sdE lt bad x start vs pos =
    if h : start < pos then
      if bad x (nth vs ((pos - 1) / 2)) = true then (vs, some (x, nth vs ((pos - 1) / 2)))
      else if lt x (nth vs ((pos - 1) / 2)) = true then sdE lt bad x start (vs.set pos (nth vs ((pos - 1) / 2))) ((pos - 1) / 2)
      else (vs.set pos x, none)
    else (vs.set pos x, none) := by
  conv => lhs; unfold sdE; rw [WellFounded.fix_eq]
  rfl
noncomputable def downE (lt bad : α → α → Bool) (vs : List α) (pos : Nat) : (List α × Nat) × Option (α × α) :=
  WellFounded.fix (C := fun _ : List α × Nat => (List α × Nat) × Option (α × α)) (measure fun p : List α × Nat => p.1.length - p.2).wf (fun p rec =>
    if h : 2 * p.2 + 1 < p.1.length then
      if 2 * p.2 + 2 < p.1.length ∧ bad (nth p.1 (2 * p.2 + 1)) (nth p.1 (2 * p.2 + 2)) = true then (p, some (nth p.1 (2 * p.2 + 1), nth p.1 (2 * p.2 + 2)))
      else rec (p.1.set p.2 (nth p.1 (kid lt p.1 p.2)), kid lt p.1 p.2) (show (p.1.set p.2 (nth p.1 (kid lt p.1 p.2))).length - kid lt p.1 p.2 < p.1.length - p.2 by
        have := kid_gt lt p.1 p.2
        have := kid_lt (lt := lt) h
        rw [List.length_set]; (first | lia | omega))
    else (p, none)) (vs, pos)
theorem downE_def (lt bad : α → α → Bool) (vs : List α) (pos : Nat) : downE lt bad vs pos =
    if h : 2 * pos + 1 < vs.length then
      if 2 * pos + 2 < vs.length ∧ bad (nth vs (2 * pos + 1)) (nth vs (2 * pos + 2)) = true then ((vs, pos), some (nth vs (2 * pos + 1), nth vs (2 * pos + 2)))
      else downE lt bad (vs.set pos (nth vs (kid lt vs pos))) (kid lt vs pos)
    else ((vs, pos), none) := by
  conv => lhs; unfold downE; rw [WellFounded.fix_eq]
  rfl
noncomputable def suE (lt bad : α → α → Bool) (vs : List α) (pos : Nat) : List α × Option (α × α) :=
  match (downE lt bad vs pos).2 with
  | some e => ((downE lt bad vs pos).1.1, some e)
  | none => sdE lt bad (nth vs pos) pos ((downE lt bad vs pos).1.1.set (downE lt bad vs pos).1.2 (nth vs pos)) (downE lt bad vs pos).1.2
noncomputable def hpushE (lt bad : α → α → Bool) (vs : List α) (x : α) : List α × Option (α × α) := sdE lt bad x 0 (vs ++ [x]) vs.length
noncomputable def hpopE (lt bad : α → α → Bool) (vs : List α) : List α × Option (α × α) :=
  if vs.length ≤ 1 then ([], none) else suE lt bad ((vs.eraseIdx (vs.length - 1)).set 0 (nth vs (vs.length - 1))) 0
noncomputable def hpfyE (lt bad : α → α → Bool) : Nat → List α → List α × Option (α × α)
  | 0, vs => (vs, none)
  | k + 1, vs => match (suE lt bad vs k).2 with
    | some e => ((suE lt bad vs k).1, some e)
    | none => hpfyE lt bad k (suE lt bad vs k).1
end

/-! ### what the code does -/
variable {P : V → Prop} {lt bad : V → V → Bool} {te : V → V → Exc}
noncomputable def CmpAt (st : Store) (l : Nat) (P : V → Prop) (lt bad : V → V → Bool) (te : V → V → Exc) : Prop :=
  ∀ ws : List V, ∀ a b, P a → P b → ∀ lo, ltX a b ⟨st.set l (.lst ws), lo⟩ = if bad a b = true then .exc (te a b) ⟨st.set l (.lst ws), lo⟩ else .ok (.bool (lt a b)) ⟨st.set l (.lst ws), lo⟩
theorem CmpAt.set {st : Store} {l : Nat} (h : CmpAt st l P lt bad te) (ws : List V) : CmpAt (st.set l (.lst ws)) l P lt bad te := by
  intro us a b ha hb lo
  rw [List.set_set]
  exact h us a b ha hb lo
noncomputable def outE (te : V → V → Exc) (st : Store) (l : Nat) (v : V) (r : List V × Option (V × V)) : Res Store V := match r.2 with
  | none => .ok v (st.set l (.lst r.1))
  | some e => .exc (te e.1 e.2) (st.set l (.lst r.1))
theorem outE_set {st : Store} {l : Nat} {v : V} {c : Cel} {r : List V × Option (V × V)} : outE te (st.set l c) l v r = outE te st l v r := by
  unfold outE
  cases r.2 <;> dsimp only <;> rw [List.set_set]
/-- a call whose end is told by outE -/
theorem MY_callE {g : Fun} {vs : List V} {σ : S} {st : Store} {l : Nat} {v : V} {r : List V × Option (V × V)} {Q : V → S → Prop} {X : Exc → S → Prop} (h : g vs σ.st = outE te st l v r)
    (q : r.2 = none → Q v ⟨st.set l (.lst r.1), σ.lo⟩) (x : ∀ e, r.2 = some e → X (te e.1 e.2) ⟨st.set l (.lst r.1), σ.lo⟩) : MY (callF g vs) σ Q X := by
  refine MY_callF h ?_
  unfold outE
  cases hr : r.2 with
  | none => exact q hr
  | some e => exact x e hr
theorem outE_none {st : Store} {l : Nat} {v : V} {r : List V × Option (V × V)} (h : r.2 = none) : outE te st l v r = .ok v (st.set l (.lst r.1)) := by unfold outE; rw [h]
theorem outE_some {st : Store} {l : Nat} {v : V} {r : List V × Option (V × V)} {e : V × V} (h : r.2 = some e) : outE te st l v r = .exc (te e.1 e.2) (st.set l (.lst r.1)) := by unfold outE; rw [h]
theorem MY_lt {st : Store} {l : Nat} {σ : S} {ws : List V} {a b : V} {Q : V → S → Prop} {X : Exc → S → Prop} (h : CmpAt st l P lt bad te) (hs : σ.st = st.set l (.lst ws)) (ha : P a) (hb : P b)
    (q : bad a b = false → Q (.bool (lt a b)) σ) (x : bad a b = true → X (te a b) σ) : MY (ltX a b) σ Q X := by
  obtain ⟨s1, lo⟩ := σ
  dsimp only at hs
  subst hs
  have e := h ws a b ha hb lo
  refine ⟨?_⟩
  rw [e]
  cases hc : bad a b with
  | true => exact x hc
  | false => exact q hc
theorem y_getN {l j : Nat} {k : Int} {vs : List V} {σ : S} {Q : V → S → Prop} {X : Exc → S → Prop} (h : σ.st[l]? = some (.lst vs)) (hk : k = j) (hj : j < vs.length) (q : Q (nth vs j) σ) : MY (getI (.obj l) (.int k)) σ Q X := MY_of (w_getN h hk hj q)
end

local macro_rules | `(tactic| walk_at "my") => `(tactic| ((repeat (first | (with_reducible first | apply y_as | apply y_pure | apply y_set | apply y_tru | apply y_add | apply y_sub | apply y_lt | apply y_gt | apply y_t | apply y_f | apply y_if | apply z_pure | apply z_set | apply z_tru | apply y_neg | apply y_eq) | ((with_reducible first | apply y_get | apply z_get); · first | exact rfl | assumption))); try with_reducible apply y_end))
/-! part H14 -/
set_option autoImplicit false
set_option maxRecDepth 100000
set_option linter.unusedVariables false
set_option linter.unusedSimpArgs false
open PySem PySem.W PyProof.Rows
section
variable {P : V → Prop} {lt bad : V → V → Bool} {te : V → V → Exc}

structure SdY (st : Store) (l s : Nat) (vs : List V) (x : V) (P : V → Prop) (lt bad : V → V → Bool) (out : List V × Option (V × V)) (k : Nat) (σ : S) (ws : List V) : Prop where
  h1 : σ.lo "heap" = some (.obj l)
  h2 : σ.lo "startpos" = some (.int s)
  h3 : σ.lo "newitem" = some x
  h4 : σ.lo "pos" = some (.int (k : Nat))
  h5 : σ.st = st.set l (.lst ws)
  h6 : k < ws.length
  h7 : ∀ a ∈ ws, P a
  h8 : ws.length = vs.length
  h9 : sdE lt bad x s ws k = out

theorem siftdownE_spec {st : Store} {l : Nat} {vs : List V} {s p : Nat} (hl : st[l]? = some (.lst vs)) (hl0 : l ≠ 0) (hp : p < vs.length) (hn : vs.length ≤ 4000) (hP : ∀ a ∈ vs, P a) (hlt : CmpAt st l P lt bad te) :
    f_siftdown [.obj l, .int s, .int p] st = outE te st l .none (sdE lt bad (nth vs p) s vs p) := by
  refine funM_y rfl ?_
  generalize hO : sdE lt bad (nth vs p) s vs p = out
  have hPx : P (nth vs p) := hP _ (nth_mem hp)
  unfold siftdown_m
  apply y_seq
  walk_at "my"
  refine y_getN (by exact hl) rfl hp ?_
  walk_at "my"
  apply y_seq
  refine MY_while (fun k σ => ∃ ws, SdY st l s vs (nth vs p) P lt bad out k σ ws) ?_ 4096 p _ (by (first | lia | omega)) ⟨vs, rfl, rfl, rfl, rfl, (set_id hl).symm, hp, hP, rfl, hO⟩
  rintro k σ ⟨ws, h1, h2, h3, h4, h5, h6, h7, h8, h9⟩
  have hg : σ.st[l]? = some (.lst ws) := by rw [h5]; exact set_get hl
  clear hO
  have hset : ∀ us, σ.st.set l (.lst us) = st.set l (.lst us) := fun us => by rw [h5, List.set_set]
  rw [sdE_def] at h9
  unfold siftdown_w1_c siftdown_w1_b
  walk_at "my"
  split
  · rename_i hlt'
    have hsk : s < k := by have := of_decide_eq_true hlt'; (first | lia | omega)
    have hq : (k - 1) / 2 < ws.length := by (first | lia | omega)
    rw [dif_pos hsk] at h9
    apply y_seq
    walk_at "my"
    refine MY_of (MW_shr.mpr ⟨by (first | lia | omega), ?_⟩)
    have ek : ((k : Int) - 1) / 2 = (((k - 1) / 2 : Nat) : Int) := by (first | lia | omega)
    rw [ek]
    walk_at "my"
    apply y_seq
    walk_at "my"
    refine y_getN (by exact hg) rfl hq ?_
    walk_at "my"
    apply y_seq
    walk_at "my"
    have hPy : P (nth ws ((k - 1) / 2)) := h7 _ (nth_mem hq)
    refine MY_lt hlt (by exact h5) hPx hPy (fun hb => ?_) (fun hb => ?_)
    · rw [if_neg (by rw [hb]; decide)] at h9
      walk_at "my"
      split
      · rename_i hc
        rw [if_pos hc] at h9
        apply y_seq
        walk_at "my"
        refine MY_of ((MW_setI (by exact hg) hl0 rfl h6).mpr ?_)
        walk_at "my"
        apply y_seq
        walk_at "my"
        exact ⟨(k - 1) / 2, by (first | lia | omega), ws.set k (nth ws ((k - 1) / 2)), h1, h2, h3, rfl, hset _, by rw [List.length_set]; exact hq, all_set h7 hPy, by rw [List.length_set]; exact h8, h9⟩
      · rename_i hc
        rw [if_neg hc] at h9
        walk_at "my"
        refine MY_of ((MW_setI (by exact hg) hl0 rfl h6).mpr ?_)
        walk_at "my"
        rw [← h9]
        exact congrArg (Res.ok V.none) (hset _).symm
    · rw [if_pos hb] at h9
      rw [← h9]
      exact congrArg (Res.exc (te (nth vs p) (nth ws ((k - 1) / 2)))) h5.symm
  · rename_i hlt'
    rw [dif_neg (by intro h; exact hlt' (decide_eq_true (by (first | lia | omega))))] at h9
    walk_at "my"
    refine MY_of ((MW_setI (by exact hg) hl0 rfl h6).mpr ?_)
    walk_at "my"
    rw [← h9]
    exact congrArg (Res.ok V.none) (hset _).symm

structure SuY (st : Store) (l p : Nat) (vs : List V) (P : V → Prop) (lt bad : V → V → Bool) (out : (List V × Nat) × Option (V × V)) (k : Nat) (σ : S) (ws : List V) (q : Nat) : Prop where
  h1 : σ.lo "heap" = some (.obj l)
  h2 : σ.lo "endpos" = some (.int vs.length)
  h3 : σ.lo "startpos" = some (.int p)
  h4 : σ.lo "newitem" = some (nth vs p)
  h5 : σ.lo "pos" = some (.int (q : Nat))
  h6 : σ.lo "childpos" = some (.int (2 * (q : Int) + 1))
  h7 : σ.st = st.set l (.lst ws)
  h8 : q < ws.length
  h9 : ∀ a ∈ ws, P a
  h10 : ws.length = vs.length
  h11 : downE lt bad ws q = out
  h12 : k = vs.length - q

theorem siftupE_spec {st : Store} {l : Nat} {vs : List V} {p : Nat} (hl : st[l]? = some (.lst vs)) (hl0 : l ≠ 0) (hp : p < vs.length) (hn : vs.length ≤ 4000) (hP : ∀ a ∈ vs, P a) (hlt : CmpAt st l P lt bad te) :
    f_siftup [.obj l, .int p] st = outE te st l .none (suE lt bad vs p) := by
  refine funM_y rfl ?_
  unfold suE
  generalize hO : downE lt bad vs p = out
  have hPx : P (nth vs p) := hP _ (nth_mem hp)
  unfold siftup_m
  apply y_seq
  walk_at "my"
  refine MY_of ((MW_len (by exact hl)).mpr ?_)
  walk_at "my"
  apply y_seq
  walk_at "my"
  apply y_seq
  walk_at "my"
  refine y_getN (by exact hl) rfl hp ?_
  walk_at "my"
  apply y_seq
  walk_at "my"
  refine MY_of (MW_mul.mpr ⟨by (first | lia | omega), ?_⟩)
  walk_at "my"
  apply y_seq
  refine MY_while (fun k σ => ∃ ws q, SuY st l p vs P lt bad out k σ ws q) ?_ 4096 (vs.length - p) _ (by (first | lia | omega)) ⟨vs, p, rfl, rfl, rfl, rfl, rfl, rfl, (set_id hl).symm, hp, hP, rfl, hO, rfl⟩
  rintro k σ ⟨ws, q, h1, h2, h3, h4, h5, h6, h7, h8, h9, h10, h11, h12⟩
  have hg : σ.st[l]? = some (.lst ws) := by rw [h7]; exact set_get hl
  have hset : ∀ us, σ.st.set l (.lst us) = st.set l (.lst us) := fun us => by rw [h7, List.set_set]
  rw [downE_def] at h11
  unfold siftup_w1_c siftup_w1_b
  walk_at "my"
  split
  · rename_i hc
    have hc' : 2 * q + 1 < ws.length := by have := of_decide_eq_true hc; (first | lia | omega)
    rw [dif_pos hc'] at h11
    have hk1 := kid_gt lt ws q
    have hk2 := kid_lt (lt := lt) hc'
    apply y_seq
    walk_at "my"
    apply y_seq
    refine MY.mono (Q := fun f σ' => ¬ (2 * q + 2 < ws.length ∧ bad (nth ws (2 * q + 1)) (nth ws (2 * q + 2)) = true) ∧ f = .next ∧ σ'.lo "heap" = some (.obj l) ∧ σ'.lo "endpos" = some (.int vs.length) ∧ σ'.lo "startpos" = some (.int p) ∧ σ'.lo "newitem" = some (nth vs p) ∧ σ'.lo "pos" = some (.int (q : Nat)) ∧
      σ'.st = σ.st ∧ σ'.lo "childpos" = some (.int ((kid lt ws q : Nat) : Int))) (X := fun e σ' => (2 * q + 2 < ws.length ∧ bad (nth ws (2 * q + 1)) (nth ws (2 * q + 2)) = true) ∧ e = te (nth ws (2 * q + 1)) (nth ws (2 * q + 2)) ∧ σ'.st = σ.st) ?_ ?_ ?_
    · walk_at "my"
      split
      · rename_i hr
        have hr' : 2 * q + 2 < ws.length := by have := of_decide_eq_true hr; (first | lia | omega)
        walk_at "my"
        refine y_getN (j := 2 * q + 1) (by exact hg) (by (first | lia | omega)) hc' ?_
        walk_at "my"
        refine y_getN (j := 2 * q + 2) (by exact hg) (by (first | lia | omega)) hr' ?_
        walk_at "my"
        refine MY_lt hlt (by exact h7) (h9 _ (nth_mem hc')) (h9 _ (nth_mem hr')) (fun hb => ?_) (fun hb => ⟨⟨hr', hb⟩, rfl, rfl⟩)
        walk_at "my"
        have nb : ¬ (2 * q + 2 < ws.length ∧ bad (nth ws (2 * q + 1)) (nth ws (2 * q + 2)) = true) := fun h => by rw [hb] at h; cases h.2
        cases hb : lt (nth ws (2 * q + 1)) (nth ws (2 * q + 2)) with
        | true =>
          have hkid : kid lt ws q = 2 * q + 1 := by unfold kid; rw [if_neg (by rw [hb]; simp)]
          refine ⟨nb, rfl, h1, h2, h3, h4, h5, rfl, ?_⟩
          rw [hkid]; exact h6
        | false =>
          have hkid : kid lt ws q = 2 * q + 2 := by unfold kid; rw [if_pos ⟨hr', hb⟩]
          refine ⟨nb, rfl, h1, h2, h3, h4, h5, rfl, ?_⟩
          rw [hkid]; rfl
      · rename_i hr
        have hkid : kid lt ws q = 2 * q + 1 := by unfold kid; rw [if_neg (fun h => hr (decide_eq_true (by (first | lia | omega))))]
        refine ⟨fun h => hr (decide_eq_true (by (first | lia | omega))), rfl, h1, h2, h3, h4, h5, rfl, ?_⟩
        rw [hkid]; exact h6
    · clear h1 h2 h3 h4 h5 h6
      rintro f σ' ⟨nb, rfl, h1, h2, h3, h4, h5, g7, h6⟩
      rw [if_neg nb] at h11
      apply y_seq
      walk_at "my"
      refine y_getN (by rw [g7]; exact hg) rfl hk2 ?_
      walk_at "my"
      refine MY_of ((MW_setI (by rw [g7]; exact hg) hl0 rfl h8).mpr ?_)
      walk_at "my"
      apply y_seq
      walk_at "my"
      refine MY_of (MW_mul.mpr ⟨by (first | lia | omega), ?_⟩)
      walk_at "my"
      exact ⟨vs.length - kid lt ws q, by (first | lia | omega), ws.set q (nth ws (kid lt ws q)), kid lt ws q, h1, h2, h3, h4, rfl, rfl, by show σ'.st.set l _ = _; rw [g7]; exact hset _, by rw [List.length_set]; exact hk2, all_set h9 (h9 _ (nth_mem hk2)), by rw [List.length_set]; exact h10, h11, rfl⟩
    · rintro e σ' ⟨nb, rfl, g7⟩
      rw [if_pos nb] at h11
      rw [← h11, g7, h7]
      rfl
  · rename_i hc
    rw [dif_neg (fun h => hc (decide_eq_true (by (first | lia | omega))))] at h11
    apply y_seq
    walk_at "my"
    refine MY_of ((MW_setI (by exact hg) hl0 rfl h8).mpr ?_)
    walk_at "my"
    have hsd : f_siftdown [.obj l, .int p, .int q] (σ.st.set l (.lst (ws.set q (nth vs p)))) = outE te (st.set l (.lst (ws.set q (nth vs p)))) l .none (sdE lt bad (nth vs p) p (ws.set q (nth vs p)) q) := by
      rw [hset]
      have := siftdownE_spec (s := p) (set_get hl) hl0 (by rw [List.length_set]; exact h8) (by rw [List.length_set]; (first | lia | omega)) (all_set h9 hPx) (hlt.set (ws.set q (nth vs p)))
      rw [nth_set_self h8] at this
      exact this
    rw [outE_set] at hsd
    rw [← h11]
    refine MY_callE (by exact hsd) (fun hr => ?_) (fun e hr => ?_)
    · walk_at "my"
      exact outE_none hr
    · exact outE_some hr
end

/-! part H15 -/
set_option autoImplicit false
set_option maxRecDepth 100000
set_option linter.unusedVariables false
set_option linter.unusedSimpArgs false
open PySem PySem.W PyProof.Rows
section
variable {P : V → Prop} {lt bad : V → V → Bool} {te : V → V → Exc}

theorem nth_last {vs : List V} {x : V} : nth (vs ++ [x]) vs.length = x := by unfold nth; simp
theorem heappushE_spec {st : Store} {l : Nat} {vs : List V} {x : V} (hl : st[l]? = some (.lst vs)) (hl0 : l ≠ 0) (hn : vs.length < 4000) (hP : ∀ a ∈ vs, P a) (hx : P x) (hlt : CmpAt st l P lt bad te) :
    f_heappush [.obj l, x] st = outE te st l .none (hpushE lt bad vs x) := by
  refine funM_y rfl ?_
  unfold heappush_m
  apply y_seq
  walk_at "my"
  refine MY_of ((MW_chkL (by exact hl)).mpr ?_)
  walk_at "my"
  refine MY_of ((MW_append (by exact hl) hl0 (by (first | lia | omega))).mpr ?_)
  walk_at "my"
  refine MY_of ((MW_len (vs := vs ++ [x]) (by exact set_get hl)).mpr ?_)
  walk_at "my"
  have e : (((vs ++ [x]).length : Nat) : Int) - 1 = ((vs.length : Nat) : Int) := by simp
  rw [e]
  have hsd : f_siftdown [.obj l, .int ((0 : Nat) : Int), .int ((vs.length : Nat) : Int)] (st.set l (.lst (vs ++ [x]))) = outE te st l .none (hpushE lt bad vs x) := by
    have := siftdownE_spec (te := te) (lt := lt) (bad := bad) (P := P) (s := 0) (p := vs.length) (set_get hl) hl0 (by simp) (by simp; (first | lia | omega)) (by
      intro a ha
      rcases List.mem_append.mp ha with h | h
      · exact hP a h
      · rw [List.mem_singleton.mp h]; exact hx) (hlt.set (vs ++ [x]))
    rw [nth_last, outE_set] at this
    exact this
  refine MY_callE (by exact hsd) (fun hr => ?_) (fun e hr => ?_)
  · walk_at "my"
    exact outE_none hr
  · exact outE_some hr

theorem heappopE_spec {st : Store} {l : Nat} {vs : List V} (hl : st[l]? = some (.lst vs)) (hl0 : l ≠ 0) (h0 : 0 < vs.length) (hn : vs.length ≤ 4000) (hP : ∀ a ∈ (vs.eraseIdx (vs.length - 1)).set 0 (nth vs (vs.length - 1)), P a) (hlt : CmpAt st l P lt bad te) :
    f_heappop [.obj l] st = outE te st l (nth vs 0) (hpopE lt bad vs) := by
  refine funM_y rfl ?_
  unfold heappop_m
  have hlen : (vs.eraseIdx (vs.length - 1)).length = vs.length - 1 := by rw [List.length_eraseIdx]; simp; (first | lia | omega)
  apply y_seq
  walk_at "my"
  refine MY_of ((MW_chkL (by exact hl)).mpr ?_)
  walk_at "my"
  refine MY_of ((MW_pop (by exact hl) hl0 (nth_eq (by (first | lia | omega)))).mpr ?_)
  walk_at "my"
  apply y_seq
  walk_at "my"
  refine MY_of ((MW_truL (vs := vs.eraseIdx (vs.length - 1)) (by exact set_get hl)).mpr ?_)
  by_cases h1 : vs.length ≤ 1
  · have he : vs.eraseIdx (vs.length - 1) = [] := List.eq_nil_of_length_eq_zero (by (first | lia | omega))
    have hp : hpopE lt bad vs = ([], none) := by unfold hpopE; rw [if_pos h1]
    rw [he]
    simp only [List.isEmpty_nil, Bool.not_true, Bool.false_eq_true, if_false]
    walk_at "my"
    rw [hp]
    have : vs.length - 1 = 0 := by (first | lia | omega)
    rw [this]
    rfl
  · have he : (vs.eraseIdx (vs.length - 1)).isEmpty = false := by
      cases h : vs.eraseIdx (vs.length - 1) with
      | nil => rw [h] at hlen; simp at hlen; (first | lia | omega)
      | cons a b => rfl
    have hn0 : nth (vs.eraseIdx (vs.length - 1)) 0 = nth vs 0 := by
      have h2 := eraseLast_append h0
      conv => rhs; rw [← h2]
      rw [nth_append_left (by (first | lia | omega))]
    have hp : hpopE lt bad vs = suE lt bad ((vs.eraseIdx (vs.length - 1)).set 0 (nth vs (vs.length - 1))) 0 := by unfold hpopE; rw [if_neg h1]
    rw [he, hp]
    simp only [Bool.not_false, if_true]
    apply y_seq
    walk_at "my"
    refine y_getN (vs := vs.eraseIdx (vs.length - 1)) (j := 0) (by exact set_get hl) rfl (by (first | lia | omega)) ?_
    walk_at "my"
    apply y_seq
    walk_at "my"
    refine MY_of ((MW_setI (vs := vs.eraseIdx (vs.length - 1)) (j := 0) (by exact set_get hl) hl0 rfl (by (first | lia | omega))).mpr ?_)
    walk_at "my"
    apply y_seq
    walk_at "my"
    have hsu : f_siftup [.obj l, .int ((0 : Nat) : Int)] ((st.set l (.lst (vs.eraseIdx (vs.length - 1)))).set l (.lst ((vs.eraseIdx (vs.length - 1)).set 0 (nth vs (vs.length - 1))))) = outE te st l .none (suE lt bad ((vs.eraseIdx (vs.length - 1)).set 0 (nth vs (vs.length - 1))) 0) := by
      rw [List.set_set]
      have := siftupE_spec (te := te) (lt := lt) (bad := bad) (P := P) (p := 0) (set_get hl) hl0 (by rw [List.length_set]; (first | lia | omega)) (by rw [List.length_set]; (first | lia | omega)) hP (hlt.set ((vs.eraseIdx (vs.length - 1)).set 0 (nth vs (vs.length - 1))))
      rw [outE_set] at this
      exact this
    refine MY_callE (by exact hsu) (fun hr => ?_) (fun e hr => ?_)
    · walk_at "my"
      rw [← hn0]
      exact outE_none hr
    · exact outE_some hr

theorem suE_length : ∀ (lt bad : V → V → Bool) (vs : List V) (pos : Nat), (suE lt bad vs pos).1.length = vs.length := by
  intro lt bad vs pos
  have sdl : ∀ (x : V) (start pos : Nat) (vs : List V), (sdE lt bad x start vs pos).1.length = vs.length := by
    intro x start pos
    induction pos using Nat.strongRecOn with
    | _ pos ih =>
      intro vs
      rw [sdE_def]
      split
      · split
        · rfl
        · split
          · rw [ih _ (by (first | lia | omega))]; simp
          · simp
      · simp
  have dl : ∀ (k : Nat) (vs : List V) (pos : Nat), vs.length - pos ≤ k → (downE lt bad vs pos).1.1.length = vs.length := by
    intro k
    induction k with
    | zero => intro vs pos h; rw [downE_def, dif_neg (by (first | lia | omega))]
    | succ k ih =>
      intro vs pos h
      rw [downE_def]
      split
      · rename_i hc
        split
        · rfl
        · have := kid_gt lt vs pos
          rw [ih _ _ (by simp; (first | lia | omega))]; simp
      · rfl
  unfold suE
  split
  · exact dl _ _ _ (Nat.le_refl _)
  · rw [sdl, List.length_set]; exact dl _ _ _ (Nat.le_refl _)
end

/-! part H17 -/
set_option autoImplicit false
set_option maxRecDepth 100000
set_option linter.unusedVariables false
set_option linter.unusedSimpArgs false
open PySem PySem.W PyProof.Rows
section
variable {P : V → Prop} {lt bad : V → V → Bool} {te : V → V → Exc}

structure HfY (st : Store) (l : Nat) (vs : List V) (P : V → Prop) (lt bad : V → V → Bool) (out : List V × Option (V × V)) (k : Nat) (σ : S) (ws : List V) : Prop where
  h1 : σ.lo "x" = some (.obj l)
  h2 : σ.st = st.set l (.lst ws)
  h3 : ∀ a ∈ ws, P a
  h4 : ws.length = vs.length
  h5 : hpfyE lt bad k ws = out
theorem heapifyE_spec {st : Store} {l : Nat} {vs : List V} (hl : st[l]? = some (.lst vs)) (hl0 : l ≠ 0) (hn : vs.length ≤ 4000) (hP : ∀ a ∈ vs, P a) (hlt : CmpAt st l P lt bad te)
    (hs : ∀ (ws : List V) (k : Nat), k < ws.length → ∀ a ∈ (suE lt bad ws k).1, a ∈ ws) :
    f_heapify [.obj l] st = outE te st l .none (hpfyE lt bad (vs.length / 2) vs) := by
  refine funM_y rfl ?_
  unfold heapify_m
  apply y_seq
  refine MY.mono (Q := fun f σ' => f = .next ∧ σ'.lo "x" = some (.obj l) ∧ σ'.lo "n" = some (.int vs.length) ∧ σ'.st = st) (X := fun _ _ => False) ?_ ?_ (fun _ _ h => h.elim)
  · walk_at "my"
    refine MY_of ((MW_len (by exact hl)).mpr ?_)
    walk_at "my"
    exact ⟨rfl, rfl, rfl, rfl⟩
  rintro f σ ⟨rfl, q1, q2, q3⟩
  dsimp only
  walk_at "my"
  refine MY_of (MW_fdiv.mpr ⟨by (first | lia | omega), ?_⟩)
  have e : ((vs.length : Nat) : Int) / 2 = ((vs.length / 2 : Nat) : Int) := by (first | lia | omega)
  rw [e]
  walk_at "my"
  refine MY_of ((MW_fun_ok (a := V.rng 0 ((vs.length / 2 : Nat) : Int) 1) (σ' := _) rfl).mpr ?_)
  walk_at "my"
  refine MY_of ((MW_fun_ok (a := V.rng (((vs.length / 2 : Nat) : Int) - 1) (-1) (-1)) (σ' := _) (by rw [revR_eq (by (first | lia | omega))]; rfl)).mpr ?_)
  have hlen : rngLen (((vs.length / 2 : Nat) : Int) - 1) (-1) (-1) = vs.length / 2 := by
    have := rngLen_eq (((vs.length / 2 : Nat) : Int) - 1) (-1) (-1)
    rw [rangeSize_down (by (first | lia | omega))] at this
    (first | lia | omega)
  generalize hO : hpfyE lt bad (vs.length / 2) vs = out
  refine MY_for (vs.length / 2) (fun i σ => ∃ ws, HfY st l vs P lt bad out (vs.length / 2 - i) σ ws) ?_ ?_ 4096 0 _ (Nat.zero_le _) (by (first | lia | omega)) ⟨vs, q1, q3.trans (set_id hl).symm, hP, rfl, hO⟩
  · rintro σ ⟨ws, h1, h2, h3, h4, h5⟩
    refine ⟨?_, ?_⟩
    · rw [nxt_rng, hlen, if_neg (by (first | lia | omega))]
    · rw [Nat.sub_self] at h5
      rw [← h5, h2]; rfl
  · rintro i σ hi ⟨ws, h1, h2, h3, h4, h5⟩
    refine ⟨.int (((vs.length / 2 - i - 1 : Nat) : Int)), ?_, ?_⟩
    · rw [nxt_rng, hlen, if_pos hi]
      have : (((vs.length / 2 : Nat) : Int) - 1) + (i : Int) * (-1) = ((vs.length / 2 - i - 1 : Nat) : Int) := by (first | lia | omega)
      rw [this]
    · unfold heapify_l1_t heapify_l1_b
      have hk : vs.length / 2 - i - 1 < ws.length := by rw [h4]; exact n_half hi
      have e2 : vs.length / 2 - i = (vs.length / 2 - (i + 1)) + 1 := by (first | lia | omega)
      have e3 : vs.length / 2 - i - 1 = vs.length / 2 - (i + 1) := by (first | lia | omega)
      rw [e2] at h5
      unfold hpfyE at h5
      rw [← e3] at h5
      walk_at "my"
      have hsu : f_siftup [.obj l, .int ((vs.length / 2 - i - 1 : Nat) : Int)] σ.st = outE te st l .none (suE lt bad ws (vs.length / 2 - i - 1)) := by
        rw [h2]
        have := siftupE_spec (set_get hl) hl0 hk (by (first | lia | omega)) h3 (hlt.set ws)
        rw [outE_set] at this
        exact this
      refine MY_callE (by exact hsu) (fun hr => ?_) (fun e hr => ?_)
      · walk_at "my"
        rw [hr] at h5
        rw [← e3]
        exact ⟨_, h1, rfl, fun a ha => h3 a (hs ws _ hk a ha), by rw [suE_length]; exact h4, h5⟩
      · rw [hr] at h5
        rw [← h5]
        rfl
end

/-! part P04 -/
set_option autoImplicit false
set_option linter.unusedVariables false
set_option linter.unusedSectionVars false
section
/-! ### heaps of a partial order: unlike ones raise -/
section
variable {α : Type} [Inhabited α] {P : α → Prop} {lt bad : α → α → Bool}
noncomputable def lx (lt bad : α → α → Bool) (a b : α) : Bool := lt a b || bad a b
structure PO (P : α → Prop) (lt bad : α → α → Bool) : Prop where
  asymm : ∀ a b, P a → P b → lt a b = true → lt b a = false
  sym : ∀ a b, P a → P b → bad a b = bad b a
  refl : ∀ a, P a → bad a a = false
  trans : ∀ a b c, P a → P b → P c → lx lt bad b a = false → lx lt bad c b = false → lx lt bad c a = false
theorem lx_f {a b : α} (h1 : lt a b = false) (h2 : bad a b = false) : lx lt bad a b = false := by unfold lx; rw [h1, h2]; rfl
theorem PO.up (O : PO P lt bad) {a b : α} (ha : P a) (hb : P b) (h1 : bad a b = false) (h2 : lt a b = true) : lx lt bad b a = false :=
  lx_f (O.asymm a b ha hb h2) ((O.sym b a hb ha).trans h1)
theorem PO.self (O : PO P lt bad) {a : α} (ha : P a) : lx lt bad a a = false := by
  refine lx_f ?_ (O.refl a ha)
  cases e : lt a a with
  | false => rfl
  | true => have := O.asymm a a ha ha e; rw [e] at this; cases this

theorem sdE_heap (O : PO P lt bad) (x : α) (s : Nat) (hx : P x) : ∀ (pos : Nat) (vs : List α), (∀ a ∈ vs, P a) → Hole (lx lt bad) s vs pos → (∀ j, 0 < j → j < vs.length → (j - 1) / 2 = pos → lx lt bad (nth vs j) x = false) →
    (sdE lt bad x s vs pos).2 = none → HeapFrom (lx lt bad) s (sdE lt bad x s vs pos).1 := by
  intro pos
  induction pos using Nat.strongRecOn with
  | _ pos ih =>
    intro vs hP hh hb
    have hpl := hh.lt
    have fin : (s < pos → lx lt bad x (nth vs ((pos - 1) / 2)) = false) → HeapFrom (lx lt bad) s (vs.set pos x) := by
      intro hlt' j h0 hl hs
      rw [List.length_set] at hl
      have hds := hh.desc.le
      by_cases hjp : j = pos
      · subst hjp; rw [nth_set_self hpl, nth_set_ne (n_pne h0)]; exact hlt' (Nat.lt_of_le_of_lt hs (n_par h0))
      · rw [nth_set_ne (Ne.symm hjp)]
        by_cases hp2 : (j - 1) / 2 = pos
        · rw [hp2, nth_set_self hpl]; exact hb j h0 hl hp2
        · rw [nth_set_ne (Ne.symm hp2)]; exact hh.pair j h0 hl hs hjp hp2
    rw [sdE_def]
    split
    · rename_i hsp
      have hpar : s ≤ (pos - 1) / 2 := (hh.desc.up hsp).le
      have hpp : P (nth vs ((pos - 1) / 2)) := hP _ (nth_mem (n_parl hpl))
      split
      · intro h; cases h
      · rename_i hbad
        have hbad' : bad x (nth vs ((pos - 1) / 2)) = false := by simpa using hbad
        split
        · rename_i hlt
          have hup := O.up hx hpp hbad' hlt
          refine ih _ (n_par hsp) _ (all_set hP hpp) ⟨?_, ?_, hh.desc.up hsp, by rw [List.length_set]; exact n_parl hpl⟩ ?_
          · intro j h0 hl hs hj hp
            rw [List.length_set] at hl
            by_cases hjp : j = pos
            · subst hjp; exact absurd rfl hp
            · rw [nth_set_ne (Ne.symm hjp)]
              by_cases hp2 : (j - 1) / 2 = pos
              · rw [hp2, nth_set_self hpl]; exact hh.skip hsp j h0 hl hp2
              · rw [nth_set_ne (Ne.symm hp2)]; exact hh.pair j h0 hl hs hjp hp2
          · intro hs2 j h0 hl hp
            rw [List.length_set] at hl
            have hgp : s ≤ ((pos - 1) / 2 - 1) / 2 := ((hh.desc.up hsp).up hs2).le
            have hq : nth (vs.set pos (nth vs ((pos - 1) / 2))) (((pos - 1) / 2 - 1) / 2) = nth vs (((pos - 1) / 2 - 1) / 2) := nth_set_ne (n_ppne hsp)
            rw [hq]
            have hpair := hh.pair ((pos - 1) / 2) (Nat.lt_of_le_of_lt (Nat.zero_le _) hs2) (n_parl hpl) hgp (Nat.ne_of_lt (n_par hsp)) (Ne.symm (n_ppne hsp))
            by_cases hjp : j = pos
            · subst hjp; rw [nth_set_self hpl]; exact hpair
            · rw [nth_set_ne (Ne.symm hjp)]
              have h2 := hh.pair j h0 hl (hp ▸ Nat.le_of_lt hs2) hjp (hp ▸ Nat.ne_of_lt (n_par hsp))
              rw [hp] at h2
              exact O.trans _ _ _ (hP _ (nth_mem (n_parl (n_parl hpl)))) hpp (hP _ (nth_mem hl)) hpair h2
          · intro j h0 hl hp
            rw [List.length_set] at hl
            by_cases hjp : j = pos
            · subst hjp; rw [nth_set_self hpl]; exact hup
            · rw [nth_set_ne (Ne.symm hjp)]
              have h2 := hh.pair j h0 hl (hp ▸ hpar) hjp (hp ▸ Nat.ne_of_lt (n_par hsp))
              rw [hp] at h2
              exact O.trans _ _ _ hx hpp (hP _ (nth_mem hl)) hup h2
        · rename_i hlt
          intro _
          exact fin fun _ => lx_f (by simpa using hlt) hbad'
    · rename_i hsp
      intro _
      exact fin fun h => absurd h hsp

theorem kidE_min (O : PO P lt bad) {vs : List α} {pos j : Nat} (hP : ∀ a ∈ vs, P a) (hc : 2 * pos + 1 < vs.length) (hb : ¬ (2 * pos + 2 < vs.length ∧ bad (nth vs (2 * pos + 1)) (nth vs (2 * pos + 2)) = true)) (h0 : 0 < j) (hl : j < vs.length) (hp : (j - 1) / 2 = pos) :
    lx lt bad (nth vs j) (nth vs (kid lt vs pos)) = false := by
  unfold kid
  split
  · rename_i h
    rcases n_2p h0 hp with rfl | rfl
    · exact lx_f h.2 (by simpa [h.1] using hb)
    · exact O.self (hP _ (nth_mem hl))
  · rename_i h
    rcases n_2p h0 hp with rfl | rfl
    · exact O.self (hP _ (nth_mem hl))
    · have : lt (nth vs (2 * pos + 1)) (nth vs (2 * pos + 2)) = true := by
        cases e : lt (nth vs (2 * pos + 1)) (nth vs (2 * pos + 2)) with
        | true => rfl
        | false => exact absurd ⟨hl, e⟩ h
      exact O.up (hP _ (nth_mem hc)) (hP _ (nth_mem hl)) (by simpa [hl] using hb) this

theorem downE_hole (O : PO P lt bad) (s : Nat) : ∀ (k : Nat) (vs : List α) (pos : Nat), vs.length - pos ≤ k → (∀ a ∈ vs, P a) → Hole (lx lt bad) s vs pos → (downE lt bad vs pos).2 = none →
    Hole (lx lt bad) s (downE lt bad vs pos).1.1 (downE lt bad vs pos).1.2 ∧ (∀ a ∈ (downE lt bad vs pos).1.1, P a) ∧ ¬ 2 * (downE lt bad vs pos).1.2 + 1 < (downE lt bad vs pos).1.1.length := by
  intro k
  induction k with
  | zero => intro vs pos h hP hh; have := hh.lt; (first | lia | omega)
  | succ k ih =>
    intro vs pos h hP hh
    rw [downE_def]
    split
    · rename_i hc
      split
      · intro h; cases h
      · rename_i hnb
        have h3 := kid_gt lt vs pos
        have h4 := kid_lt (lt := lt) hc
        have h5 := kid_par lt vs pos
        have hpl := hh.lt
        have hds := hh.desc.le
        refine ih _ _ (by simp; (first | lia | omega)) (all_set hP (hP _ (nth_mem h4))) ⟨?_, ?_, hh.desc.kid h5 h3, by simpa using h4⟩
        · intro j h0 hl hs hj hp
          rw [List.length_set] at hl
          by_cases hjp : j = pos
          · subst hjp
            rw [nth_set_self hpl, nth_set_ne (by (first | lia | omega))]
            exact hh.skip (by (first | lia | omega)) _ (by (first | lia | omega)) h4 h5
          · rw [nth_set_ne (Ne.symm hjp)]
            by_cases hp2 : (j - 1) / 2 = pos
            · rw [hp2, nth_set_self hpl]; exact kidE_min O hP hc hnb h0 hl hp2
            · rw [nth_set_ne (Ne.symm hp2)]; exact hh.pair j h0 hl hs hjp hp2
        · intro hs2 j h0 hl hp
          rw [List.length_set] at hl
          rw [h5, nth_set_self hpl, nth_set_ne (by (first | lia | omega))]
          have := hh.pair j h0 hl (by (first | lia | omega)) (by (first | lia | omega)) (by (first | lia | omega))
          rw [hp] at this; exact this
    · rename_i hc
      intro _
      exact ⟨hh, hP, hc⟩

theorem suE_heap (O : PO P lt bad) (vs : List α) (pos : Nat) (hP : ∀ a ∈ vs, P a) (hl : pos < vs.length) (hh : HeapFrom (lx lt bad) (pos + 1) vs) (hn : (suE lt bad vs pos).2 = none) : HeapFrom (lx lt bad) pos (suE lt bad vs pos).1 := by
  have h0 : Hole (lx lt bad) pos vs pos := ⟨fun j h0 hl hs hj hp => hh j h0 hl (by (first | lia | omega)), fun h => by (first | lia | omega), Desc.refl _, hl⟩
  have hx : P (nth vs pos) := hP _ (nth_mem hl)
  unfold suE at hn ⊢
  cases e : (downE lt bad vs pos).2 with
  | some p => rw [e] at hn; cases hn
  | none =>
    rw [e] at hn
    dsimp only at hn ⊢
    obtain ⟨h1, h2, h3⟩ := downE_hole O pos _ vs pos (Nat.le_refl _) hP h0 e
    refine sdE_heap O _ _ hx _ _ (all_set h2 hx) (h1.set _) ?_ hn
    intro j hj hjl hjp
    rw [List.length_set] at hjl
    (first | lia | omega)

/-- what is left of us: all its items but one at most, and none besides -/
structure Near (ws us : List α) : Prop where
  sub : ∀ a ∈ ws, a ∈ us
  miss : ∃ i x, i < ws.length ∧ (ws.set i x).Perm us
structure Ends (bad : α → α → Bool) (us : List α) (r : List α × Option (α × α)) : Prop where
  ok : r.2 = none → r.1.Perm us
  near : Near r.1 us
  fault : ∀ e, r.2 = some e → bad e.1 e.2 = true ∧ e.1 ∈ us ∧ e.2 ∈ us
theorem Near.length {ws us : List α} (h : Near ws us) : ws.length = us.length := by
  obtain ⟨i, x, _, p⟩ := h.miss
  have := p.length_eq
  rwa [List.length_set] at this
theorem Near.perm {ws us vs : List α} (h : Near ws us) (p : us.Perm vs) : Near ws vs :=
  ⟨fun a ha => p.mem_iff.mp (h.sub a ha), by obtain ⟨i, x, h1, h2⟩ := h.miss; exact ⟨i, x, h1, h2.trans p⟩⟩
theorem Ends.perm {us vs : List α} {r : List α × Option (α × α)} (h : Ends bad us r) (p : us.Perm vs) : Ends bad vs r :=
  ⟨fun e => (h.ok e).trans p, h.near.perm p, fun e he => by obtain ⟨a, b, c⟩ := h.fault e he; exact ⟨a, p.mem_iff.mp b, p.mem_iff.mp c⟩⟩
theorem Near.of_perm {ws us : List α} (h : 0 < ws.length) (p : ws.Perm us) : Near ws us :=
  ⟨fun a ha => p.mem_iff.mp ha, 0, nth ws 0, h, by rw [set_nth]; exact p⟩

theorem sdE_ends (x : α) (s : Nat) {us : List α} : ∀ (pos : Nat) (vs : List α), pos < vs.length → (∀ a ∈ vs, a ∈ us) → (vs.set pos x).Perm us → Ends bad us (sdE lt bad x s vs pos) := by
  intro pos
  induction pos using Nat.strongRecOn with
  | _ pos ih =>
    intro vs hp hs hm
    have hx : x ∈ us := hm.mem_iff.mp (List.mem_of_getElem? (List.getElem?_set_self hp))
    have fin : Ends bad us (vs.set pos x, none) := ⟨fun _ => hm, .of_perm (by rw [List.length_set]; (first | lia | omega)) hm, fun e he => by cases he⟩
    rw [sdE_def]
    split
    · rename_i hsp
      have hq : nth vs ((pos - 1) / 2) ∈ vs := nth_mem (n_parl hp)
      split
      · rename_i hb
        exact ⟨fun h => (by cases h), ⟨hs, pos, x, hp, hm⟩, fun e he => by cases he; exact ⟨hb, hx, hs _ hq⟩⟩
      · split
        · exact ih _ (n_par hsp) _ (by rw [List.length_set]; exact n_parl hp) (all_set hs (hs _ hq)) ((swap_perm hp (n_parl hp) (n_pne hsp)).trans hm)
        · exact fin
    · exact fin
structure EndsD (bad : α → α → Bool) (us : List α) (x : α) (r : (List α × Nat) × Option (α × α)) : Prop where
  pos : r.1.2 < r.1.1.length
  perm : (r.1.1.set r.1.2 x).Perm us
  sub : ∀ a ∈ r.1.1, a ∈ us
  fault : ∀ e, r.2 = some e → bad e.1 e.2 = true ∧ e.1 ∈ us ∧ e.2 ∈ us
theorem downE_ends (x : α) {us : List α} : ∀ (k : Nat) (vs : List α) (pos : Nat), vs.length - pos ≤ k → pos < vs.length → (∀ a ∈ vs, a ∈ us) → (vs.set pos x).Perm us → EndsD bad us x (downE lt bad vs pos) := by
  intro k
  induction k with
  | zero => intro vs pos h h2; (first | lia | omega)
  | succ k ih =>
    intro vs pos h h2 hs hm
    rw [downE_def]
    split
    · rename_i hc
      split
      · rename_i hb
        exact ⟨h2, hm, hs, fun e he => by cases he; exact ⟨hb.2, hs _ (nth_mem hc), hs _ (nth_mem hb.1)⟩⟩
      · have h3 := kid_gt lt vs pos
        have h4 := kid_lt (lt := lt) hc
        exact ih _ _ (by simp; (first | lia | omega)) (by simpa using h4) (all_set hs (hs _ (nth_mem h4))) ((swap_perm h2 h4 (by (first | lia | omega))).trans hm)
    · exact ⟨h2, hm, hs, fun e he => by cases he⟩
theorem suE_ends (vs : List α) (pos : Nat) (hp : pos < vs.length) : Ends bad vs (suE lt bad vs pos) := by
  have D := downE_ends (lt := lt) (bad := bad) (nth vs pos) (us := vs) _ vs pos (Nat.le_refl _) hp (fun _ h => h) (by rw [set_nth])
  unfold suE
  cases e : (downE lt bad vs pos).2 with
  | some p => exact ⟨fun h => (by cases h), ⟨D.sub, _, _, D.pos, D.perm⟩, fun e' he => D.fault e' (e.trans he)⟩
  | none => exact sdE_ends _ _ _ _ (by rw [List.length_set]; exact D.pos) (fun a ha => D.perm.mem_iff.mp ha) (by rw [List.set_set]; exact D.perm)

theorem hpushE_ends (vs : List α) (x : α) : Ends bad (vs ++ [x]) (hpushE lt bad vs x) := by
  unfold hpushE
  refine sdE_ends _ _ _ _ (by simp) (fun _ h => h) ?_
  have : nth (vs ++ [x]) vs.length = x := by unfold nth; simp
  have e := set_nth (vs := vs ++ [x]) (i := vs.length)
  rw [this] at e
  rw [e]
theorem hpushE_heap (O : PO P lt bad) {vs : List α} {x : α} (hP : ∀ a ∈ vs, P a) (hx : P x) (hh : HeapFrom (lx lt bad) 0 vs) (hn : (hpushE lt bad vs x).2 = none) : HeapFrom (lx lt bad) 0 (hpushE lt bad vs x).1 := by
  unfold hpushE at hn ⊢
  refine sdE_heap O x 0 hx _ _ ?_ ⟨?_, ?_, desc_zero _, by simp⟩ ?_ hn
  · intro a ha
    rcases List.mem_append.mp ha with h | h
    · exact hP a h
    · rw [List.mem_singleton.mp h]; exact hx
  · intro j h0 hl hs hj hp
    have hl' : j < vs.length := by simp at hl; (first | lia | omega)
    rw [nth_append_left hl', nth_append_left (by (first | lia | omega))]
    exact hh j h0 hl' hs
  · intro h j h0 hl hp
    simp at hl; (first | lia | omega)
  · intro j h0 hl hp
    simp at hl; (first | lia | omega)
theorem hpfyE_ends : ∀ (k : Nat) (vs : List α), k ≤ vs.length → 0 < vs.length → Ends bad vs (hpfyE lt bad k vs)
  | 0, vs, _, h0 => ⟨fun _ => List.Perm.refl _, .of_perm h0 (List.Perm.refl _), fun e he => by cases he⟩
  | k + 1, vs, hk, h0 => by
    have h := suE_ends (lt := lt) (bad := bad) vs k (by (first | lia | omega))
    unfold hpfyE
    cases e : (suE lt bad vs k).2 with
    | some p => exact ⟨fun q => (by cases q), h.near, fun e' he => h.fault e' (e.trans he)⟩
    | none =>
      have hp := h.ok e
      exact (hpfyE_ends k _ (by rw [hp.length_eq]; (first | lia | omega)) (by rw [hp.length_eq]; exact h0)).perm hp
theorem hpfyE_heap (O : PO P lt bad) : ∀ (k : Nat) (vs : List α), k ≤ vs.length → (∀ a ∈ vs, P a) → HeapFrom (lx lt bad) k vs → (hpfyE lt bad k vs).2 = none → HeapFrom (lx lt bad) 0 (hpfyE lt bad k vs).1
  | 0, vs, _, _, h, _ => h
  | k + 1, vs, hk, hP, h, hn => by
    unfold hpfyE at hn ⊢
    cases e : (suE lt bad vs k).2 with
    | some p => rw [e] at hn; cases hn
    | none =>
      rw [e] at hn
      have hp := (suE_ends (lt := lt) (bad := bad) vs k (by (first | lia | omega))).ok e
      exact hpfyE_heap O k _ (by rw [hp.length_eq]; (first | lia | omega)) (fun a ha => hP a (hp.mem_iff.mp ha)) (suE_heap O vs k hP (by (first | lia | omega)) h e) hn
theorem hpopE_ends {vs : List α} (h : 0 < vs.length) : ∃ us, (nth vs 0 :: us).Perm vs ∧ (us = [] → (hpopE lt bad vs) = ([], none)) ∧ (0 < us.length → Ends bad us (hpopE lt bad vs)) := by
  by_cases h1 : vs.length ≤ 1
  · refine ⟨[], ?_, fun _ => by unfold hpopE; rw [if_pos h1], fun q => by simp at q⟩
    cases vs with
    | nil => simp at h
    | cons a t =>
      cases t with
      | nil => exact List.Perm.refl _
      | cons b t => simp at h1
  · have hlen : (vs.eraseIdx (vs.length - 1)).length = vs.length - 1 := by rw [List.length_eraseIdx]; simp; (first | lia | omega)
    have hs := suE_ends (lt := lt) (bad := bad) ((vs.eraseIdx (vs.length - 1)).set 0 (nth vs (vs.length - 1))) 0 (by rw [List.length_set]; (first | lia | omega))
    refine ⟨(vs.eraseIdx (vs.length - 1)).set 0 (nth vs (vs.length - 1)), ?_, fun q => ?_, fun _ => by unfold hpopE; rw [if_neg h1]; exact hs⟩
    · have hp := hpop_perm (lt := lt) h
      unfold hpop at hp
      rw [if_neg h1] at hp
      exact (List.Perm.cons _ (su_perm lt _ 0 (by rw [List.length_set]; (first | lia | omega))).symm).trans hp
    · have := congrArg List.length q
      rw [List.length_set, hlen] at this
      simp at this; (first | lia | omega)
theorem hpopE_heap (O : PO P lt bad) {vs : List α} (hP : ∀ a ∈ vs, P a) (h : 0 < vs.length) (hh : HeapFrom (lx lt bad) 0 vs) (hn : (hpopE lt bad vs).2 = none) : HeapFrom (lx lt bad) 0 (hpopE lt bad vs).1 := by
  unfold hpopE at hn ⊢
  split
  · intro j h0 hl; simp at hl
  · rename_i h1
    rw [if_neg h1] at hn
    have hlen : (vs.eraseIdx (vs.length - 1)).length = vs.length - 1 := by rw [List.length_eraseIdx]; simp; (first | lia | omega)
    have h2 := eraseLast_append h
    have hq : ∀ j, j < vs.length - 1 → nth (vs.eraseIdx (vs.length - 1)) j = nth vs j := by
      intro j hj
      conv => rhs; rw [← h2]
      rw [nth_append_left (by (first | lia | omega))]
    refine suE_heap O _ 0 (all_set (fun a ha => hP a (List.mem_of_mem_eraseIdx ha)) (hP _ (nth_mem (by (first | lia | omega))))) (by rw [List.length_set]; (first | lia | omega)) ?_ hn
    intro j h0 hl hs
    rw [List.length_set, hlen] at hl
    rw [nth_set_ne (by (first | lia | omega)), nth_set_ne (by (first | lia | omega)), hq j hl, hq _ (by (first | lia | omega))]
    exact hh j h0 (by (first | lia | omega)) (by (first | lia | omega))
theorem heapE_min (O : PO P lt bad) {vs : List α} (hP : ∀ a ∈ vs, P a) (hh : HeapFrom (lx lt bad) 0 vs) : ∀ a ∈ vs, lx lt bad a (nth vs 0) = false := by
  have key : ∀ j, j < vs.length → lx lt bad (nth vs j) (nth vs 0) = false := by
    intro j
    induction j using Nat.strongRecOn with
    | _ j ih =>
      intro hl
      by_cases h0 : j = 0
      · subst h0; exact O.self (hP _ (nth_mem hl))
      · have hj0 := Nat.pos_of_ne_zero h0
        have h1 := ih ((j - 1) / 2) (n_par hj0) (n_parl hl)
        have h2 := hh j hj0 hl (Nat.zero_le _)
        exact O.trans _ _ _ (hP _ (nth_mem (Nat.lt_of_le_of_lt (Nat.zero_le _) hl))) (hP _ (nth_mem (n_parl hl))) (hP _ (nth_mem hl)) h1 h2
  intro a ha
  obtain ⟨j, hj, rfl⟩ := List.mem_iff_getElem.mp ha
  rw [← nth_getElem hj]
  exact key j hj
end
end

/-! part S6 -/
set_option autoImplicit false
set_option maxRecDepth 100000
set_option linter.unusedVariables false
open PySem PySem.W PyProof.Rows
section
/-! ### the sort of two runs: what stands at the places -/
section
variable {prog : Program} {w : World} {A : Around} {E : Value → Shared → Prop} {s : Shared}
/-- m does Q, and leaves s -/
noncomputable def sC (prog : Program) (w : World) (A : Around) (E : Value → Shared → Prop) (s : Shared) {α : Type} (m : StateT SortSt Sem α) (Q : α → SortSt → Prop) (st : SortSt) : Prop :=
  kasC (model prog w) A E m (fun a st' s' => s' = s ∧ Q a st') st s
variable {α β : Type} {st : SortSt}
theorem sC_mono {m : StateT SortSt Sem α} {Q Q' : α → SortSt → Prop} (h : sC prog w A E s m Q st) (k : ∀ a st', Q a st' → Q' a st') : sC prog w A E s m Q' st :=
  wpAny_mono h (fun _ _ q => ⟨q.1, k _ _ q.2⟩) fun _ _ e => e
theorem sC_pure {a : α} {Q : α → SortSt → Prop} (h : Q a st) : sC prog w A E s (pure a) Q st := kasC_pure ⟨rfl, h⟩
theorem sC_bind {m : StateT SortSt Sem α} {f : α → StateT SortSt Sem β} {Q : β → SortSt → Prop} (h : sC prog w A E s m (fun a st' => sC prog w A E s (f a) Q st') st) : sC prog w A E s (m >>= f) Q st := by
  refine kasC_bind (wpAny_mono h (fun r s' q => ?_) fun _ _ e => e)
  obtain ⟨rfl, q⟩ := q
  exact q
theorem sC_get {Q : SortSt → SortSt → Prop} (h : Q st st) : sC prog w A E s get Q st := kasC_get ⟨rfl, h⟩
theorem sC_modify {f : SortSt → SortSt} {Q : PUnit → SortSt → Prop} (h : Q ⟨⟩ (f st)) : sC prog w A E s (modify f) Q st := kasC_modify ⟨rfl, h⟩
theorem sC_rule {x : String} {f : PUnit → StateT SortSt Sem β} {Q : β → SortSt → Prop} (h : sC prog w A E s (f ⟨⟩) Q st) : sC prog w A E s ((liftM (rule x : Sem PUnit) : StateT SortSt Sem PUnit) >>= f) Q st :=
  kasC_bind (kasC_lift (wpAny_rule h))
theorem sC_for {b : β} {f : Nat → β → StateT SortSt Sem (ForInStep β)} {Q : β → SortSt → Prop} (I : Nat → β → SortSt → Prop) {a c : Nat} (h0 : I a b st)
    (step : ∀ j b st, a ≤ j → j < c → I j b st → sC prog w A E s (f j b) (fun r st' => match r with | .done b' => Q b' st' | .yield b' => I (j + 1) b' st') st)
    (fin : ∀ b st, I (max a c) b st → Q b st) : sC prog w A E s (forIn [a:c] b f) Q st := by
  refine kasC_range ?_
  have go : ∀ (k j : Nat) (b : β) (st : SortSt), a ≤ j → j + k = max a c → I j b st → sC prog w A E s (forIn (List.range' j k) b f) Q st := by
    intro k
    induction k with
    | zero => intro j b st h1 h2 hI; exact kasC_nil ⟨rfl, fin b st (by rw [← h2]; exact hI)⟩
    | succ k ih =>
      intro j b st h1 h2 hI
      rw [List.range'_succ]
      refine kasC_cons (wpAny_mono (step j b st h1 (by (first | lia | omega)) hI) (fun r s' q => ?_) fun _ _ e => e)
      obtain ⟨⟨r, st'⟩, rfl⟩ : ∃ x, r = x := ⟨r, rfl⟩
      obtain ⟨rfl, q⟩ := q
      cases r with
      | done b' => exact ⟨rfl, q⟩
      | yield b' => exact ih (j + 1) b' st' (by (first | lia | omega)) (by (first | lia | omega)) q
  exact go (c - a) a b st (Nat.le_refl _) (by (first | lia | omega)) h0
end

section
variable {prog : Program} {w : World} {A : Around} {E : Value → Shared → Prop} {s : Shared} {κ : SortKind} {it : Array Keyed} {n : Nat} {ask : Nat → Nat → Bool}
noncomputable def AskAt (prog : Program) (w : World) (A : Around) (s : Shared) (κ : SortKind) (it : Array Keyed) (n : Nat) (ask : Nat → Nat → Bool) : Prop := ∀ i j, i < n → j < n → ∀ C : Bool → Shared → Prop, C (ask i j) s → kas_cmp prog w A κ it i j C s
noncomputable def St (κ : SortKind) (it : Array Keyed) (p : Array Nat) (pd : Array (Nat × Nat × Nat)) (g : Nat) : SortSt := SortSt.mk' κ (p.map (kas_item it)) pd g none
theorem sC_lt {i j : Nat} {p : Array Nat} {pd : Array (Nat × Nat × Nat)} {g : Nat} {Q : Option Bool → SortSt → Prop} (H : AskAt prog w A s κ it n ask) (hi : i < n) (hj : j < n) (h : Q (some (ask i j)) (St κ it p pd g)) :
    sC prog w A E s (lt' (kas_item it i) (kas_item it j)) Q (St κ it p pd g) := by
  unfold sC
  rw [lt'_eq]
  refine kasC_bind (kasC_get ?_)
  refine kasC_bind (kasC_lift (wpAny_attempt (wpAny_mono (H i j hi hj (fun c s' => c = ask i j ∧ s' = s) ⟨rfl, rfl⟩) (fun c s' hc => ?_) fun _ _ hF => hF.elim)))
  obtain ⟨rfl, rfl⟩ := hc
  exact kasC_pure ⟨rfl, h⟩
theorem sC_elem {q : Array Nat} {i : Nat} {st : SortSt} {Q : Keyed → SortSt → Prop} (hi : i < q.size) (h : Q (kas_item it (at0 q i)) st) : sC prog w A E s (elem' (q.map (kas_item it)) i) Q st := by
  unfold sC
  rw [elem'_eq]
  have e : (q.map (kas_item it))[i]? = some (kas_item it (at0 q i)) := by
    unfold at0
    simp [Array.getD, hi]
  rw [e]
  exact kasC_pure ⟨rfl, h⟩
noncomputable def gallop' : Bool → Keyed → Array Keyed → Nat → Nat → Nat → StateT SortSt Sem (Option Nat) := sortPriv% PySem.Builtin.gallop
/-- whether the k-th goes ahead of the key -/
noncomputable def byd (ask : Nat → Nat → Bool) (left : Bool) (key : Nat) (q : Array Nat) (base i : Nat) : Bool := if left = true then ask (at0 q (base + i)) key else !ask key (at0 q (base + i))


noncomputable abbrev L3 := Option (Option Nat) × Nat × Nat
theorem bs_loop {γ : Type} {B : Nat → Bool} {m : Nat} {st : SortSt} {f : Nat → Option γ × Nat × Nat → StateT SortSt Sem (ForInStep (Option γ × Nat × Nat))} {Q : Option γ × Nat × Nat → SortSt → Prop} {lo hi : Nat} (mono : ∀ i j, i < j → j < m → B j = true → B i = true)
    (hf1 : ∀ x lo hi, lo ≥ hi → f x (none, lo, hi) = pure (ForInStep.done (none, lo, hi)))
    (hf2 : ∀ x lo hi (Q' : ForInStep (Option γ × Nat × Nat) → SortSt → Prop), lo < hi → hi ≤ m → Q' (.yield (if B (lo + (hi - lo) / 2) = true then (none, lo + (hi - lo) / 2 + 1, hi) else (none, lo, lo + (hi - lo) / 2))) st → sC prog w A E s (f x (none, lo, hi)) Q' st)
    (h1 : lo ≤ hi) (h2 : hi ≤ m) (h3 : ∀ i, i < lo → B i = true) (h4 : ∀ i, hi ≤ i → i < m → B i = false)
    (h : ∀ r, r ≤ m → (∀ i, i < r → B i = true) → (∀ i, r ≤ i → i < m → B i = false) → Q (none, r, r) st) : sC prog w A E s (forIn [:m] (none, lo, hi) f) Q st := by
  refine sC_for (fun j b st' => st' = st ∧ ∃ lo hi, b = (none, lo, hi) ∧ lo ≤ hi ∧ hi ≤ m ∧ hi + j ≤ m + lo ∧ (∀ i, i < lo → B i = true) ∧ ∀ i, hi ≤ i → i < m → B i = false) ⟨rfl, lo, hi, rfl, h1, h2, by (first | lia | omega), h3, h4⟩ ?_ ?_
  · rintro j b st' _ hj ⟨rfl, lo, hi, rfl, a1, a2, a3, a4, a5⟩
    by_cases hl : lo ≥ hi
    · rw [hf1 j lo hi hl]
      cases Nat.le_antisymm a1 hl
      exact sC_pure (h lo a2 a4 a5)
    · have hl := Nat.not_le.mp hl
      refine hf2 j lo hi _ hl a2 ?_
      obtain ⟨mid, hm, m1, m2⟩ : ∃ mid, lo + (hi - lo) / 2 = mid ∧ lo ≤ mid ∧ mid < hi := ⟨_, rfl, by (first | lia | omega), by (first | lia | omega)⟩
      rw [hm]
      cases hb : B mid with
      | true =>
        dsimp only
        rw [if_pos rfl]
        refine ⟨rfl, _, _, rfl, m2, a2, by (first | lia | omega), fun i hi' => ?_, a5⟩
        rcases Nat.lt_succ_iff_lt_or_eq.mp hi' with e | e
        · exact mono i _ e (Nat.lt_of_lt_of_le m2 a2) hb
        · rw [e]; exact hb
      | false =>
        dsimp only
        rw [if_neg (by decide)]
        refine ⟨rfl, _, _, rfl, m1, by (first | lia | omega), by (first | lia | omega), a4, fun i h6 h7 => ?_⟩
        cases hbi : B i with
        | false => rfl
        | true =>
          rcases Nat.eq_or_lt_of_le h6 with e | e
          · rw [← e, hb] at hbi; cases hbi
          · rw [mono _ i e h7 hbi] at hb; cases hb
  · rintro b st' ⟨rfl, lo, hi, rfl, a1, a2, a3, a4, a5⟩
    cases Nat.le_antisymm a1 (by (first | lia | omega))
    exact h lo a2 a4 a5
theorem ex_loop {T : Nat → Bool} {m M : Nat} {st : SortSt} {f : Nat → L3 → StateT SortSt Sem (ForInStep L3)} {Q : L3 → SortSt → Prop} (hM : M ≤ m)
    (hf1 : ∀ x la of, of ≥ M → f x (none, la, of) = pure (ForInStep.done (none, la, of)))
    (hf2 : ∀ x la of (Q' : ForInStep L3 → SortSt → Prop), of < M → 1 ≤ of → Q' (if T of = true then .yield (none, of, 2 * of + 1) else .done (none, la, of)) st → sC prog w A E s (f x (none, la, of)) Q' st)
    (h : ∀ la of, la < of → (la = 0 ∨ (la < M ∧ T la = true)) → (M ≤ of ∨ T of = false) → Q (none, la, of) st) : sC prog w A E s (forIn [:m] (none, 0, 1) f) Q st := by
  refine sC_for (fun j b st' => st' = st ∧ ∃ la of, b = (none, la, of) ∧ la < of ∧ j + 1 ≤ of ∧ (la = 0 ∨ (la < M ∧ T la = true))) ⟨rfl, 0, 1, rfl, by (first | lia | omega), by (first | lia | omega), .inl rfl⟩ ?_ ?_
  · rintro j b st' _ hj ⟨rfl, la, of, rfl, a1, a2, a3⟩
    by_cases hl : of ≥ M
    · rw [hf1 j la of hl]
      exact sC_pure (h la of a1 a3 (.inl hl))
    · refine hf2 j la of _ (by (first | lia | omega)) (by (first | lia | omega)) ?_
      cases hb : T of with
      | true =>
        rw [if_pos rfl]
        exact ⟨rfl, _, _, rfl, by (first | lia | omega), by (first | lia | omega), .inr ⟨by (first | lia | omega), hb⟩⟩
      | false =>
        rw [if_neg (by decide)]
        exact h la of a1 a3 (.inr hb)
  · rintro b st' ⟨rfl, la, of, rfl, a1, a2, a3⟩
    exact h la of a1 a3 (.inl (by (first | lia | omega)))

theorem gallop_ok {left : Bool} {key : Nat} {q p : Array Nat} {base m hint : Nat} {pd : Array (Nat × Nat × Nat)} {g : Nat} {Q : Option Nat → SortSt → Prop} (H : AskAt prog w A s κ it n ask) (hk : key < n) (hq : ∀ i, at0 q i < n) (hb : base + m ≤ q.size) (hh : hint < m)
    (mono : ∀ i j, i < j → j < m → byd ask left key q base j = true → byd ask left key q base i = true)
    (h : ∀ r, r ≤ m → (∀ i, i < r → byd ask left key q base i = true) → (∀ i, r ≤ i → i < m → byd ask left key q base i = false) → Q (some r) (St κ it p pd g)) :
    sC prog w A E s (gallop' left (kas_item it key) (q.map (kas_item it)) base m hint) Q (St κ it p pd g) := by
  have hB : ∀ (i : Nat) (Q' : Option Bool → SortSt → Prop), i < m → Q' (some (byd ask left key q base i)) (St κ it p pd g) → sC prog w A E s (do
      let x ← elem' (q.map (kas_item it)) (base + i)
      if left = true then lt' x (kas_item it key) else do return (← lt' (kas_item it key) x).map (!·)) Q' (St κ it p pd g) := by
    intro i Q' hi hQ
    refine sC_bind (sC_elem (by (first | lia | omega)) ?_)
    unfold byd at hQ
    cases left with
    | true => exact sC_lt H (hq _) hk hQ
    | false => exact sC_bind (sC_lt H hk (hq _) (sC_pure hQ))
  generalize hBd : byd ask left key q base = B at mono h hB
  refine sC_bind ?_
  refine hB hint _ hh ?_
  cases hb0 : B hint with
  | true =>
    refine sC_bind (ex_loop (T := fun o => B (hint + o)) (M := m - hint) (by (first | lia | omega)) (fun x la of h => if_pos h) ?_ ?_)
    · intro x la of Q' h1 h2 hQ
      dsimp only
      rw [if_neg (by (first | lia | omega))]
      refine sC_bind (hB (hint + of) _ (by (first | lia | omega)) ?_)
      cases hT : B (hint + of) with
      | true => rw [hT] at hQ; exact sC_pure hQ
      | false => rw [hT] at hQ; exact sC_pure hQ
    · intro la of h1 h2 h3
      dsimp only
      have c3 : ∀ i, i < hint + la + 1 → B i = true := by
        intro i hi
        have hx : B (hint + la) = true := by
          rcases h2 with rfl | h2
          · exact hb0
          · exact h2.2
        by_cases e : i = hint + la
        · rw [e]; exact hx
        · exact mono i (hint + la) (by (first | lia | omega)) (by (first | lia | omega)) hx
      have c4 : ∀ i, hint + min of (m - hint) ≤ i → i < m → B i = false := by
        intro i h4 h5
        rcases h3 with h3 | h3
        · (first | lia | omega)
        · cases hbi : B i with
          | false => rfl
          | true =>
            by_cases e : i = hint + of
            · rw [e, h3] at hbi; cases hbi
            · rw [mono _ i (by (first | lia | omega)) h5 hbi] at h3; cases h3
      refine sC_bind (bs_loop (B := B) mono (fun x lo hi h => if_pos h) ?_ (n_min_add h1 (n_min_or h2 (by (first | lia | omega)))) (by (first | lia | omega)) c3 c4 ?_)
      · intro x lo hi Q' h1 h2 hQ
        dsimp only
        rw [if_neg (by (first | lia | omega))]
        refine sC_bind (hB _ _ (by (first | lia | omega)) ?_)
        cases hT : B (lo + (hi - lo) / 2) with
        | true => rw [hT] at hQ; exact sC_pure hQ
        | false => rw [hT] at hQ; exact sC_pure hQ
      · intro r h1 h2 h3
        exact sC_pure (h r h1 h2 h3)
  | false =>
    refine sC_bind (ex_loop (T := fun o => !B (hint - o)) (M := hint + 1) (by (first | lia | omega)) (fun x la of h => if_pos h) ?_ ?_)
    · intro x la of Q' h1 h2 hQ
      dsimp only
      rw [if_neg (by (first | lia | omega))]
      refine sC_bind (hB (hint - of) _ (by (first | lia | omega)) ?_)
      cases hT : B (hint - of) with
      | true => rw [hT] at hQ; exact sC_pure hQ
      | false => rw [hT] at hQ; exact sC_pure hQ
    · intro la of h1 h2 h3
      dsimp only
      have c4 : ∀ i, hint - la ≤ i → i < m → B i = false := by
        intro i h4 h5
        have hx : B (hint - la) = false := by
          rcases h2 with rfl | h2
          · exact hb0
          · simpa using h2.2
        cases hbi : B i with
        | false => rfl
        | true =>
          by_cases e : i = hint - la
          · rw [e, hx] at hbi; cases hbi
          · rw [mono _ i (by (first | lia | omega)) h5 hbi] at hx; cases hx
      have c3 : ∀ i, i < hint + 1 - min of (hint + 1) → B i = true := by
        intro i hi
        rcases h3 with h3 | h3
        · exact absurd hi (by rw [Nat.min_eq_right h3, Nat.sub_self]; exact Nat.not_lt_zero _)
        · have hx : B (hint - of) = true := by simpa using h3
          by_cases e : i = hint - of
          · rw [e]; exact hx
          · exact mono i (hint - of) (n_min_lt hi e) (by (first | lia | omega)) hx
      refine sC_bind (bs_loop (B := B) mono (fun x lo hi h => if_pos h) ?_ (n_min_sub h1 (n_min_or h2 (Nat.succ_pos _)) rfl) (by (first | lia | omega)) c3 c4 ?_)
      · intro x lo hi Q' h1 h2 hQ
        dsimp only
        rw [if_neg (by (first | lia | omega))]
        refine sC_bind (hB _ _ (by (first | lia | omega)) ?_)
        cases hT : B (lo + (hi - lo) / 2) with
        | true => rw [hT] at hQ; exact sC_pure hQ
        | false => rw [hT] at hQ; exact sC_pure hQ
      · intro r h1 h2 h3
        exact sC_pure (h r h1 h2 h3)
end
end

/-! part S7 -/
set_option autoImplicit false
set_option maxRecDepth 100000
set_option linter.unusedVariables false
open PySem PySem.W PyProof.Rows
section
/-! ### two sorted rows become one -/
section
variable {n : Nat} {ask : Nat → Nat → Bool} {a b : Array Nat}
noncomputable def LeA (ask : Nat → Nat → Bool) (x y : Nat) : Prop := ask y x = false
noncomputable def SrtA (ask : Nat → Nat → Bool) (a : Array Nat) : Prop := ∀ i j, i < j → j < a.size → ask (at0 a j) (at0 a i) = false
structure Mg (ask : Nat → Nat → Bool) (a b : Array Nat) (o : List Nat) (ia ib : Nat) : Prop where
  perm : o.Perm (a.toList.take ia ++ b.toList.take ib)
  srt : o.Pairwise (LeA ask)
  ba : ∀ x ∈ o, ∀ i, ia ≤ i → i < a.size → ask (at0 a i) x = false
  bb : ∀ x ∈ o, ∀ i, ib ≤ i → i < b.size → ask (at0 b i) x = false
  la : ia ≤ a.size
  lb : ib ≤ b.size
/-- what a merge gives -/
noncomputable def MgEnd (ask : Nat → Nat → Bool) (a b : Array Nat) (o : List Nat) : Prop := o.Perm (a.toList ++ b.toList) ∧ o.Pairwise (LeA ask)
theorem at_list {a : Array Nat} {i : Nat} (h : i < a.size) : a.toList[i]? = some (at0 a i) := by
  unfold at0
  simp [Array.getD, h]
theorem take_succ' {a : Array Nat} {i : Nat} (h : i < a.size) : a.toList.take (i + 1) = a.toList.take i ++ [at0 a i] := by
  rw [List.take_add_one, at_list h]; rfl
theorem drop_cons' {a : Array Nat} {i : Nat} (h : i < a.size) : a.toList.drop i = at0 a i :: a.toList.drop (i + 1) := by
  have h' : i < a.toList.length := h
  rw [List.drop_eq_getElem_cons h']
  congr 1
  have := at_list h
  rw [List.getElem?_eq_getElem h'] at this
  exact Option.some.inj this
theorem Mg.stepB (A : Ask n ask) (ha : ∀ i, at0 a i < n) (hb : ∀ i, at0 b i < n) (Sa : SrtA ask a) (Sb : SrtA ask b) {o : List Nat} {ia ib : Nat} (h : Mg ask a b o ia ib) (hi : ib < b.size) (hj : ia < a.size) (hlt : ask (at0 b ib) (at0 a ia) = true) :
    Mg ask a b (o ++ [at0 b ib]) ia (ib + 1) where
  perm := by
    rw [take_succ' hi, ← List.append_assoc]
    exact h.perm.append_right _
  srt := by
    rw [List.pairwise_append]
    exact ⟨h.srt, by simp, fun x hx y hy => by rw [List.mem_singleton.mp hy]; exact h.bb x hx ib (Nat.le_refl _) hi⟩
  ba := fun x hx i h1 h2 => by
    rcases List.mem_append.mp hx with hx | hx
    · exact h.ba x hx i h1 h2
    · rw [List.mem_singleton.mp hx]
      have h3 := A.asymm _ _ (hb _) (ha _) hlt
      by_cases e : i = ia
      · rw [e]; exact h3
      · exact A.trans _ _ _ (hb _) (ha _) (ha _) h3 (Sa ia i (by (first | lia | omega)) h2)
  bb := fun x hx i h1 h2 => by
    rcases List.mem_append.mp hx with hx | hx
    · exact h.bb x hx i (by (first | lia | omega)) h2
    · rw [List.mem_singleton.mp hx]; exact Sb ib i (by (first | lia | omega)) h2
  la := h.la
  lb := by (first | lia | omega)
theorem Mg.stepA (A : Ask n ask) (ha : ∀ i, at0 a i < n) (hb : ∀ i, at0 b i < n) (Sa : SrtA ask a) (Sb : SrtA ask b) {o : List Nat} {ia ib : Nat} (h : Mg ask a b o ia ib) (hi : ib < b.size) (hj : ia < a.size) (hge : ask (at0 b ib) (at0 a ia) = false) :
    Mg ask a b (o ++ [at0 a ia]) (ia + 1) ib where
  perm := by
    rw [take_succ' hj]
    have : (a.toList.take ia ++ [at0 a ia] ++ b.toList.take ib).Perm (a.toList.take ia ++ b.toList.take ib ++ [at0 a ia]) := by
      rw [List.append_assoc, List.append_assoc]
      exact List.Perm.append_left _ List.perm_append_comm
    exact (h.perm.append_right _).trans this.symm
  srt := by
    rw [List.pairwise_append]
    exact ⟨h.srt, by simp, fun x hx y hy => by rw [List.mem_singleton.mp hy]; exact h.ba x hx ia (Nat.le_refl _) hj⟩
  ba := fun x hx i h1 h2 => by
    rcases List.mem_append.mp hx with hx | hx
    · exact h.ba x hx i (by (first | lia | omega)) h2
    · rw [List.mem_singleton.mp hx]; exact Sa ia i (by (first | lia | omega)) h2
  bb := fun x hx i h1 h2 => by
    rcases List.mem_append.mp hx with hx | hx
    · exact h.bb x hx i h1 h2
    · rw [List.mem_singleton.mp hx]
      by_cases e : i = ib
      · rw [e]; exact hge
      · exact A.trans _ _ _ (ha _) (hb _) (hb _) hge (Sb ib i (by (first | lia | omega)) h2)
  la := by (first | lia | omega)
  lb := h.lb
theorem seg_succ {a : Array Nat} {i k : Nat} (h : i < a.size) : (a.toList.drop i).take (k + 1) = at0 a i :: (a.toList.drop (i + 1)).take k := by
  rw [drop_cons' h, List.take_succ_cons]
theorem Mg.stepAs (A : Ask n ask) (ha : ∀ i, at0 a i < n) (hb : ∀ i, at0 b i < n) (Sa : SrtA ask a) (Sb : SrtA ask b) : ∀ (k : Nat) {o : List Nat} {ia ib : Nat}, Mg ask a b o ia ib → ib < b.size → ia + k ≤ a.size → (∀ i, i < k → ask (at0 b ib) (at0 a (ia + i)) = false) →
    Mg ask a b (o ++ (a.toList.drop ia).take k) (ia + k) ib
  | 0, o, ia, ib, h, _, _, _ => by simpa using h
  | k + 1, o, ia, ib, h, hi, hk, hge => by
    have h1 := h.stepA A ha hb Sa Sb hi (by (first | lia | omega)) (hge 0 (by (first | lia | omega)))
    have h2 := Mg.stepAs A ha hb Sa Sb k h1 hi (by (first | lia | omega)) fun i hi' => by have := hge (i + 1) (by (first | lia | omega)); rwa [show ia + 1 + i = ia + (i + 1) by (first | lia | omega)]
    rw [seg_succ (by (first | lia | omega))]
    rw [List.append_assoc, show ia + 1 + k = ia + (k + 1) by (first | lia | omega)] at h2
    exact h2
theorem Mg.stepBs (A : Ask n ask) (ha : ∀ i, at0 a i < n) (hb : ∀ i, at0 b i < n) (Sa : SrtA ask a) (Sb : SrtA ask b) : ∀ (k : Nat) {o : List Nat} {ia ib : Nat}, Mg ask a b o ia ib → ia < a.size → ib + k ≤ b.size → (∀ i, i < k → ask (at0 b (ib + i)) (at0 a ia) = true) →
    Mg ask a b (o ++ (b.toList.drop ib).take k) ia (ib + k)
  | 0, o, ia, ib, h, _, _, _ => by simpa using h
  | k + 1, o, ia, ib, h, hi, hk, hge => by
    have h1 := h.stepB A ha hb Sa Sb (by (first | lia | omega)) hi (hge 0 (by (first | lia | omega)))
    have h2 := Mg.stepBs A ha hb Sa Sb k h1 hi (by (first | lia | omega)) fun i hi' => by have := hge (i + 1) (by (first | lia | omega)); rwa [show ib + 1 + i = ib + (i + 1) by (first | lia | omega)]
    rw [seg_succ (by (first | lia | omega))]
    rw [List.append_assoc, show ib + 1 + k = ib + (k + 1) by (first | lia | omega)] at h2
    exact h2
theorem mem_drop_at {a : Array Nat} {i x : Nat} (h : x ∈ a.toList.drop i) : ∃ j, i ≤ j ∧ j < a.size ∧ x = at0 a j := by
  obtain ⟨k, hk, rfl⟩ := List.mem_iff_getElem.mp h
  rw [List.length_drop] at hk
  have hk' : i + k < a.size := by have : a.toList.length = a.size := rfl; (first | lia | omega)
  refine ⟨i + k, by (first | lia | omega), hk', ?_⟩
  rw [List.getElem_drop]
  have := at_list hk'
  rw [List.getElem?_eq_getElem (by show i + k < a.size; exact hk')] at this
  exact Option.some.inj this
theorem srt_drop {a : Array Nat} (Sa : SrtA ask a) (i : Nat) : (a.toList.drop i).Pairwise (LeA ask) := by
  rw [List.pairwise_iff_getElem]
  intro x y hx hy hxy
  rw [List.length_drop] at hx hy
  have l : a.toList.length = a.size := rfl
  rw [List.getElem_drop, List.getElem_drop]
  have e1 := at_list (a := a) (i := i + x) (by (first | lia | omega))
  have e2 := at_list (a := a) (i := i + y) (by (first | lia | omega))
  rw [List.getElem?_eq_getElem (by (first | lia | omega))] at e1 e2
  rw [Option.some.inj e1, Option.some.inj e2]
  exact Sa _ _ (by (first | lia | omega)) (by (first | lia | omega))
theorem Mg.doneB (Sa : SrtA ask a) {o : List Nat} {ia : Nat} (h : Mg ask a b o ia b.size) : MgEnd ask a b (o ++ a.toList.drop ia) := by
  refine ⟨?_, ?_⟩
  · have p := h.perm.append_right (a.toList.drop ia)
    rw [show b.toList.take b.size = b.toList from List.take_of_length_le (by simp)] at p
    refine p.trans ?_
    have : (a.toList.take ia ++ b.toList ++ a.toList.drop ia).Perm (a.toList.take ia ++ a.toList.drop ia ++ b.toList) := by
      rw [List.append_assoc, List.append_assoc]
      exact List.Perm.append_left _ List.perm_append_comm
    rwa [List.take_append_drop] at this
  · rw [List.pairwise_append]
    refine ⟨h.srt, srt_drop Sa ia, fun x hx y hy => ?_⟩
    obtain ⟨j, h1, h2, rfl⟩ := mem_drop_at hy
    exact h.ba x hx j h1 h2
theorem Mg.lastA (A : Ask n ask) (ha : ∀ i, at0 a i < n) (hb : ∀ i, at0 b i < n) (Sa : SrtA ask a) (Sb : SrtA ask b) (hL : ∀ i, i < b.size → ask (at0 b i) (at0 a (a.size - 1)) = true) {o : List Nat} {ia ib : Nat} (h : Mg ask a b o ia ib) (e : ia + 1 = a.size) :
    MgEnd ask a b (o ++ b.toList.drop ib ++ a.toList.drop ia) := by
  refine ⟨?_, ?_⟩
  · have p := h.perm.append_right (b.toList.drop ib ++ a.toList.drop ia)
    rw [← List.append_assoc] at p
    refine p.trans ?_
    have : (a.toList.take ia ++ b.toList.take ib ++ (b.toList.drop ib ++ a.toList.drop ia)).Perm (a.toList.take ia ++ a.toList.drop ia ++ (b.toList.take ib ++ b.toList.drop ib)) := by
      rw [List.append_assoc, List.append_assoc]
      refine List.Perm.append_left _ ?_
      rw [← List.append_assoc]
      exact List.perm_append_comm
    rwa [List.take_append_drop, List.take_append_drop] at this
  · rw [List.pairwise_append, List.pairwise_append]
    have el : ia = a.size - 1 := by (first | lia | omega)
    refine ⟨⟨h.srt, srt_drop Sb ib, fun x hx y hy => ?_⟩, srt_drop Sa ia, fun x hx y hy => ?_⟩
    · obtain ⟨j, h1, h2, rfl⟩ := mem_drop_at hy
      exact h.bb x hx j h1 h2
    · obtain ⟨j, h1, h2, rfl⟩ := mem_drop_at hy
      have ej : j = a.size - 1 := by (first | lia | omega)
      rcases List.mem_append.mp hx with hx | hx
      · exact h.ba x hx j h1 h2
      · obtain ⟨j', h3, h4, rfl⟩ := mem_drop_at hx
        rw [ej]
        exact A.asymm _ _ (hb _) (ha _) (hL j' h4)
end
end

/-! part S8 -/
set_option autoImplicit false
set_option maxRecDepth 100000
set_option linter.unusedVariables false
open PySem PySem.W PyProof.Rows
section
section
variable {prog : Program} {w : World} {A : Around} {E : Value → Shared → Prop} {s : Shared} {κ : SortKind} {it : Array Keyed} {n : Nat} {ask : Nat → Nat → Bool}
noncomputable def mergeLo' : Array Keyed → Array Keyed → StateT SortSt Sem (Array Keyed) := sortPriv% PySem.Builtin.mergeLo
theorem sC_ite {α : Type} {c : Prop} [Decidable c] {x y : StateT SortSt Sem α} {Q : α → SortSt → Prop} {st : SortSt} (h1 : c → sC prog w A E s x Q st) (h2 : ¬ c → sC prog w A E s y Q st) : sC prog w A E s (if c then x else y) Q st := by
  split
  · exact h1 ‹_›
  · exact h2 ‹_›
theorem sC_iteJ {α : Type} {c : Prop} {_ : Decidable c} {J : Unit → Nat → StateT SortSt Sem α} {x y : Nat} {Q : α → SortSt → Prop} {st : SortSt} (h : ∀ m, sC prog w A E s (J () m) Q st) : sC prog w A E s (if c then J () x else J () y) Q st := by
  split
  · exact h x
  · exact h y
theorem sC_iteK {α β γ : Type} {c : Prop} {_ : Decidable c} {J : Unit → β → γ → StateT SortSt Sem α} {x : StateT SortSt Sem α} {b : β} {d : γ} {Q : α → SortSt → Prop} {st : SortSt} (P : β → γ → Prop) (hJ : ∀ b d, P b d → sC prog w A E s (J () b d) Q st)
    (h1 : c → (∀ b d, P b d → sC prog w A E s (J () b d) Q st) → sC prog w A E s x Q st) (h2 : ¬ c → P b d) : sC prog w A E s (if c then x else J () b d) Q st := by
  split
  · exact h1 ‹_› hJ
  · exact hJ _ _ (h2 ‹_›)
noncomputable def Out (it : Array Keyed) (o : List Nat) : Array Keyed := (o.map (kas_item it)).toArray
theorem out_push {o : List Nat} {x : Nat} : (Out it o).push (kas_item it x) = Out it (o ++ [x]) := by unfold Out; simp
theorem out_seg {o : List Nat} {a : Array Nat} {i j : Nat} : Out it o ++ (a.map (kas_item it)).extract i j = Out it (o ++ (a.toList.drop i).take (j - i)) := by
  unfold Out
  apply Array.ext'
  simp [List.extract_eq_take_drop, List.map_take, List.map_drop]
theorem out_seg' {o : List Nat} {a : Array Nat} {i r : Nat} : Out it o ++ (a.map (kas_item it)).extract i (i + r) = Out it (o ++ (a.toList.drop i).take r) := by
  rw [out_seg, Nat.add_sub_cancel_left]
theorem out_end {o : List Nat} {a : Array Nat} {i : Nat} : Out it o ++ (a.map (kas_item it)).extract i (a.map (kas_item it)).size = Out it (o ++ a.toList.drop i) := by
  rw [out_seg]
  congr 2
  refine List.take_of_length_le ?_
  simp
/-- what a merge is asked for -/
noncomputable def Good2 (κ : SortKind) (it : Array Keyed) (p : Array Nat) (pd : Array (Nat × Nat × Nat)) (ask : Nat → Nat → Bool) (a b : Array Nat) (Q : Array Keyed → SortSt → Prop) : Prop := ∀ o g, MgEnd ask a b o → Q (Out it o) (St κ it p pd g)


theorem mono_r {a : Array Nat} {key base m : Nat} (O : Ask n ask) (ha : ∀ i, at0 a i < n) (hk : key < n) (Sa : SrtA ask a) (hm : base + m ≤ a.size) : ∀ i j, i < j → j < m → byd ask false key a base j = true → byd ask false key a base i = true := by
  intro i j h1 h2 h3
  unfold byd at h3 ⊢
  simp only [Bool.false_eq_true, if_false, Bool.not_eq_true'] at h3 ⊢
  exact O.trans _ _ _ (ha _) (ha _) hk (Sa _ _ (by (first | lia | omega)) (by (first | lia | omega))) h3
theorem mono_l {a : Array Nat} {key base m : Nat} (O : Ask n ask) (ha : ∀ i, at0 a i < n) (hk : key < n) (Sa : SrtA ask a) (hm : base + m ≤ a.size) : ∀ i j, i < j → j < m → byd ask true key a base j = true → byd ask true key a base i = true := by
  intro i j h1 h2 h3
  unfold byd at h3 ⊢
  simp only [if_true] at h3 ⊢
  exact O.le_lt (ha _) (ha _) hk (Sa _ _ (by (first | lia | omega)) (by (first | lia | omega))) h3
theorem byd_r {a : Array Nat} {key base i : Nat} {v : Bool} (h : byd ask false key a base i = v) : ask key (at0 a (base + i)) = !v := by
  unfold byd at h
  simp only [Bool.false_eq_true, if_false] at h
  rw [← h]; simp
theorem byd_l {a : Array Nat} {key base i : Nat} {v : Bool} (h : byd ask true key a base i = v) : ask (at0 a (base + i)) key = v := by
  unfold byd at h
  simpa using h
theorem ne_of_beq {x y : Nat} (h : ¬ (x == y) = true) : x ≠ y := fun e => h (by rw [e]; exact beq_self_eq_true _)

/-- how far a merge has come -/
noncomputable def LoS (κ : SortKind) (it : Array Keyed) (p : Array Nat) (pd : Array (Nat × Nat × Nat)) (ask : Nat → Nat → Bool) (a b : Array Nat) (T : Nat) (X : Array Keyed) (ia ib : Nat) (st : SortSt) : Prop :=
  ∃ o g', X = Out it o ∧ st = St κ it p pd g' ∧ Mg ask a b o ia ib ∧ ia + 1 < a.size ∧ ib < b.size ∧ T ≤ ia + ib
theorem LoS.mk {a b p : Array Nat} {pd : Array (Nat × Nat × Nat)} {T : Nat} {X : Array Keyed} {ia ib g' : Nat} {o : List Nat} (h1 : X = Out it o) (h2 : Mg ask a b o ia ib) (h3 : ia + 1 < a.size) (h4 : ib < b.size) (h5 : T ≤ ia + ib) :
    LoS κ it p pd ask a b T X ia ib (St κ it p pd g') := ⟨o, g', h1, rfl, h2, h3, h4, h5⟩
/-- the result is there, or it goes on -/
noncomputable def Onw {γ : Type} (Q : Array Keyed → SortSt → Prop) (P : γ → SortSt → Prop) (x : Option (Array Keyed) × γ) (st : SortSt) : Prop := (∃ R, x.1 = some R ∧ Q R st) ∨ (x.1 = none ∧ P x.2 st)
theorem Onw.done {γ : Type} {Q : Array Keyed → SortSt → Prop} {P : γ → SortSt → Prop} {R : Array Keyed} {y : γ} {st : SortSt} (h : Q R st) : Onw Q P (some R, y) st := .inl ⟨R, rfl, h⟩
theorem Onw.on {γ : Type} {Q : Array Keyed → SortSt → Prop} {P : γ → SortSt → Prop} {y : γ} {st : SortSt} (h : P y st) : Onw Q P (none, y) st := .inr ⟨rfl, h⟩
section
variable {a b p : Array Nat} {pd : Array (Nat × Nat × Nat)} {Q : Array Keyed → SortSt → Prop} {α : Type} {Q2 : α → SortSt → Prop}
/-- a loop of a merge, and what comes behind it; y is what else the loop carries -/
theorem bindLo {γ : Type} {c T ia₀ ib₀ : Nat} {X₀ : Array Keyed} {y₀ : γ} {st₀ : SortSt} {f : Nat → Option (Array Keyed) × Array Keyed × Nat × Nat × γ → StateT SortSt Sem (ForInStep (Option (Array Keyed) × Array Keyed × Nat × Nat × γ))}
    {K : Option (Array Keyed) × Array Keyed × Nat × Nat × γ → StateT SortSt Sem α} (T' : Nat) (h0 : LoS κ it p pd ask a b T X₀ ia₀ ib₀ st₀) (big : a.size + b.size ≤ c)
    (step : ∀ j o ia ib y g', Mg ask a b o ia ib → ia + 1 < a.size → ib < b.size → T + j ≤ ia + ib → sC prog w A E s (f j (none, Out it o, ia, ib, y)) (fun r st' => match r with
      | .done x => Onw Q (fun x st => LoS κ it p pd ask a b T' x.1 x.2.1 x.2.2.1 st) x st'
      | .yield x => x.1 = none ∧ LoS κ it p pd ask a b (T + (j + 1)) x.2.1 x.2.2.1 x.2.2.2.1 st') (St κ it p pd g'))
    (k1 : ∀ R y st, Q R st → sC prog w A E s (K (some R, y)) Q2 st) (k2 : ∀ o ia ib y g', Mg ask a b o ia ib → ia + 1 < a.size → ib < b.size → T' ≤ ia + ib → sC prog w A E s (K (none, Out it o, ia, ib, y)) Q2 (St κ it p pd g')) :
    sC prog w A E s (forIn [:c] (none, X₀, ia₀, ib₀, y₀) f >>= K) Q2 st₀ := by
  refine sC_bind (sC_mono (Q := Onw Q fun x st => LoS κ it p pd ask a b T' x.1 x.2.1 x.2.2.1 st)
    (sC_for (fun j x st => x.1 = none ∧ LoS κ it p pd ask a b (T + j) x.2.1 x.2.2.1 x.2.2.2.1 st) ⟨rfl, h0⟩ ?_ ?_) ?_)
  · rintro j ⟨_, _, ia, ib, y⟩ _ _ hj ⟨rfl, o, g', rfl, rfl, M, hia, hib, hp⟩
    exact sC_mono (step j o ia ib y g' M hia hib hp) fun r st' h => by cases r <;> exact h
  · rintro ⟨_, _, ia, ib, y⟩ _ ⟨_, o, g', _, _, M, hia, hib, hp⟩
    dsimp only at hia hib hp
    (first | lia | omega)
  · rintro ⟨_, _, ia, ib, y⟩ st (⟨R, rfl, hR⟩ | ⟨rfl, o, g', rfl, rfl, M, hia, hib, hp⟩)
    · exact k1 R _ st hR
    · exact k2 o ia ib y g' M hia hib hp
end
theorem mergeLo_ok {a b p : Array Nat} {pd : Array (Nat × Nat × Nat)} {g : Nat} {Q : Array Keyed → SortSt → Prop} (H : AskAt prog w A s κ it n ask) (O : Ask n ask) (ha : ∀ i, at0 a i < n) (hb : ∀ i, at0 b i < n) (Sa : SrtA ask a) (Sb : SrtA ask b)
    (h1 : 0 < a.size) (h2 : 0 < b.size) (hF : ask (at0 b 0) (at0 a 0) = true) (hL : ∀ i, i < b.size → ask (at0 b i) (at0 a (a.size - 1)) = true) (hQ : Good2 κ it p pd ask a b Q) :
    sC prog w A E s (mergeLo' (a.map (kas_item it)) (b.map (kas_item it))) Q (St κ it p pd g) := by
  have sa : (a.map (kas_item it)).size = a.size := by simp
  have sb : (b.map (kas_item it)).size = b.size := by simp
  have M0 : Mg ask a b [] 0 0 := ⟨by simp, by simp, by simp, by simp, by (first | lia | omega), by (first | lia | omega)⟩
  have M1 : Mg ask a b [at0 b 0] 0 1 := M0.stepB O ha hb Sa Sb h2 h1 hF
  have e0 : (#[kas_item it (at0 b 0)] : Array Keyed) = Out it [at0 b 0] := rfl
  have finB : ∀ (o : List Nat) (ia ib g' : Nat) (x : Array Keyed), x = Out it o → Mg ask a b o ia ib → ib = b.size → Q (x ++ (a.map (kas_item it)).extract ia (a.map (kas_item it)).size ++ (b.map (kas_item it)).extract ib (b.map (kas_item it)).size) (St κ it p pd g') := by
    intro o ia ib g' x hx M e
    subst e
    rw [hx, out_end, out_end]
    refine hQ _ _ ?_
    rw [show b.toList.drop b.size = [] from List.drop_of_length_le (by simp), List.append_nil]
    exact M.doneB Sa
  have finA : ∀ (o : List Nat) (ia ib g' : Nat) (x : Array Keyed), x = Out it o → Mg ask a b o ia ib → ia + 1 = a.size → Q (x ++ (b.map (kas_item it)).extract ib (b.map (kas_item it)).size ++ (a.map (kas_item it)).extract ia (a.map (kas_item it)).size) (St κ it p pd g') := by
    intro o ia ib g' x hx M e
    rw [hx, out_end, out_end]
    exact hQ _ _ (M.lastA O ha hb Sa Sb hL e)
  refine sC_rule ?_
  refine sC_bind (sC_elem h2 ?_)
  refine sC_ite (fun hc => sC_pure (finB _ 0 1 g _ e0 M1 (by rw [sb] at hc; exact eq_of_beq hc))) (fun hc => ?_)
  have hb1 : 1 < b.size := by rw [sb] at hc; have := ne_of_beq hc; (first | lia | omega)
  refine sC_ite (fun hc => sC_pure (finA _ 0 1 g _ e0 M1 (by rw [sa] at hc; exact eq_of_beq hc))) (fun hc => ?_)
  have ha1 : 1 < a.size := by rw [sa] at hc; have := ne_of_beq hc; (first | lia | omega)
  refine sC_bind (sC_get ?_)
  refine bindLo (T := 1) (T' := a.size + b.size) (Q := Q) (LoS.mk e0 M1 ha1 hb1 (Nat.le_refl _)) (by rw [sa, sb]; exact Nat.le_refl _) ?_ (fun R y st hR => sC_pure hR) ?_
  · intro j o ia ib mg g' M hia hib hp
    refine bindLo (T := j + 1) (T' := j + 2) (Q := Q) (LoS.mk (ia := ia) (ib := ib) rfl M hia hib (by (first | lia | omega))) (by rw [sa, sb]; exact Nat.le_refl _) ?_ (fun R y st hR => sC_pure (Onw.done hR)) ?_
    · intro j' o ia ib y g' M hia hib hp
      extract_lets
      refine sC_bind (sC_elem hib ?_)
      refine sC_bind (sC_elem (Nat.lt_of_succ_lt hia) ?_)
      refine sC_bind (sC_lt H (hb _) (ha _) ?_)
      refine sC_ite (fun hw => ?_) (fun hw => ?_)
      · have M' := M.stepB O ha hb Sa Sb hib (Nat.lt_of_succ_lt hia) hw
        refine sC_bind (sC_elem hib ?_)
        refine sC_ite (fun hc => sC_pure (Onw.done (finB _ ia (ib + 1) g' _ out_push M' (by rw [sb] at hc; exact eq_of_beq hc)))) (fun hc => ?_)
        have hib' : ib + 1 < b.size := by have q : ¬ (ib + 1 == (b.map (kas_item it)).size) = true := hc; rw [sb] at q; exact Nat.lt_of_le_of_ne hib (ne_of_beq q)
        refine sC_ite (fun hg => sC_pure (Onw.on (LoS.mk (ia := ia) (ib := ib + 1) out_push M' hia hib' (by (first | lia | omega))))) (fun hg => sC_pure ⟨rfl, LoS.mk (ia := ia) (ib := ib + 1) out_push M' hia hib' (by (first | lia | omega))⟩)
      · have M' := M.stepA O ha hb Sa Sb hib (Nat.lt_of_succ_lt hia) (by simpa using hw)
        refine sC_bind (sC_elem (Nat.lt_of_succ_lt hia) ?_)
        refine sC_ite (fun hc => sC_pure (Onw.done (finA _ (ia + 1) ib g' _ out_push M' (by rw [sa] at hc; exact eq_of_beq hc)))) (fun hc => ?_)
        have hia' : ia + 1 + 1 < a.size := by have q : ¬ (ia + 1 + 1 == (a.map (kas_item it)).size) = true := hc; rw [sa] at q; exact Nat.lt_of_le_of_ne hia (ne_of_beq q)
        refine sC_ite (fun hg => sC_pure (Onw.on (LoS.mk (ia := ia + 1) (ib := ib) out_push M' hia' hib (by (first | lia | omega))))) (fun hg => sC_pure ⟨rfl, LoS.mk (ia := ia + 1) (ib := ib) out_push M' hia' hib (by (first | lia | omega))⟩)
    · -- by leaps
      intro o ia ib y g' M hia hib hp
      refine sC_rule ?_
      refine bindLo (T := j + 2) (T' := j + 2) (Q := Q) (LoS.mk rfl M hia hib hp) (by rw [sa, sb]; exact Nat.le_refl _) ?_ (fun R y st hR => sC_pure (Onw.done hR)) ?_
      · intro j' o ia ib y g' M hia hib hp
        extract_lets _ _ _ _ _ _ _ _ _ _ _ _ jp _
        refine sC_iteJ (J := jp) fun mg' => ?_
        refine sC_bind (sC_modify ?_)
        refine sC_bind (sC_elem hib ?_)
        refine sC_bind (gallop_ok (left := false) (p := p) (pd := pd) (base := ia) (hint := 0) (m := (a.map (kas_item it)).size - ia) H (hb ib) ha (by rw [sa]; (first | lia | omega)) (by rw [sa]; (first | lia | omega)) (mono_r O ha (hb ib) Sa (by rw [sa]; (first | lia | omega))) ?_)
        intro r hr hT hN
        rw [sa] at hr hN
        have hr' : ia + r + 1 ≤ a.size := by
          by_cases e : ia + r + 1 ≤ a.size
          · exact e
          · have q1 := byd_r (hT (a.size - 1 - ia) (by (first | lia | omega)))
            rw [Nat.add_sub_of_le (Nat.le_sub_one_of_lt (Nat.lt_of_succ_lt hia)), hL ib hib] at q1
            cases q1
        have hge : ∀ i, i < r → ask (at0 b ib) (at0 a (ia + i)) = false := fun i hi => byd_r (hT i hi)
        have hlt : ask (at0 b ib) (at0 a (ia + r)) = true := byd_r (hN r (Nat.le_refl _) (by (first | lia | omega)))
        dsimp (config := { zeta := false }) only
        extract_lets _ jp2 _ _
        refine sC_iteK (J := jp2) (fun o' i' => ∃ o, o' = Out it o ∧ Mg ask a b o i' ib ∧ ask (at0 b ib) (at0 a i') = true ∧ i' + 1 < a.size ∧ ia ≤ i') ?_ (fun hk F => ?_) (fun hk => ?_)
        · rintro _ i2 ⟨o2, rfl, M2, hlt2, hi2, hle⟩
          have MB := M2.stepB O ha hb Sa Sb hib (Nat.lt_of_succ_lt hi2) hlt2
          refine sC_bind (sC_elem hib ?_)
          refine sC_ite (fun hc => sC_pure (Onw.done (finB _ i2 (ib + 1) _ _ out_push MB (by have q : (ib + 1 == (b.map (kas_item it)).size) = true := hc; rw [sb] at q; exact eq_of_beq q)))) (fun hc => ?_)
          have hib' : ib + 1 < b.size := by have q : ¬ (ib + 1 == (b.map (kas_item it)).size) = true := hc; rw [sb] at q; exact Nat.lt_of_le_of_ne hib (ne_of_beq q)
          refine sC_bind (sC_elem (i := i2) (Nat.lt_of_succ_lt hi2) ?_)
          refine sC_bind (gallop_ok (left := true) (p := p) (pd := pd) (key := at0 a i2) (q := b) (base := ib + 1) (hint := 0) (m := (b.map (kas_item it)).size - (ib + 1)) H (ha _) hb (by rw [sb]; (first | lia | omega)) (by rw [sb]; (first | lia | omega)) (mono_l O hb (ha _) Sb (by rw [sb]; (first | lia | omega))) ?_)
          intro r2 hr2 hT2 hN2
          rw [sb] at hr2 hN2
          dsimp (config := { zeta := false }) only
          extract_lets _ _ jp3 _ _
          refine sC_iteK (J := jp3) (fun o' b' => ∃ o, o' = Out it o ∧ Mg ask a b o i2 b' ∧ b' < b.size ∧ ask (at0 b b') (at0 a i2) = false ∧ ib + 1 ≤ b') ?_ (fun hk2 F => ?_) (fun hk2 => ?_)
          · rintro _ b2 ⟨o3, rfl, M3, hb2, hge3, hle3⟩
            have MD := M3.stepA O ha hb Sa Sb hb2 (Nat.lt_of_succ_lt hi2) hge3
            refine sC_bind (sC_elem (i := i2) (Nat.lt_of_succ_lt hi2) ?_)
            refine sC_ite (fun hc => sC_pure (Onw.done (finA _ (i2 + 1) b2 _ _ out_push MD (by have q : (i2 + 1 + 1 == (a.map (kas_item it)).size) = true := hc; rw [sa] at q; exact eq_of_beq q)))) (fun hc => ?_)
            have hia2 : i2 + 1 + 1 < a.size := by have q : ¬ (i2 + 1 + 1 == (a.map (kas_item it)).size) = true := hc; rw [sa] at q; exact Nat.lt_of_le_of_ne hi2 (ne_of_beq q)
            refine sC_ite (fun _ => sC_pure (Onw.on (LoS.mk (ia := i2 + 1) (ib := b2) out_push MD hia2 hb2 (by (first | lia | omega))))) (fun _ => sC_pure ⟨rfl, LoS.mk (ia := i2 + 1) (ib := b2) out_push MD hia2 hb2 (by (first | lia | omega))⟩)
          · have MC := MB.stepBs O ha hb Sa Sb r2 (Nat.lt_of_succ_lt hi2) (by (first | lia | omega)) (fun i hi => byd_l (hT2 i hi))
            have eo : Out it (o2 ++ [at0 b ib]) ++ (b.map (kas_item it)).extract (ib + 1) (ib + 1 + r2) = Out it (o2 ++ [at0 b ib] ++ (b.toList.drop (ib + 1)).take r2) := out_seg'
            rw [← out_push] at eo
            refine sC_ite (fun hc => sC_pure (Onw.done (finB _ i2 (ib + 1 + r2) _ _ eo MC (by have q : (ib + 1 + r2 == (b.map (kas_item it)).size) = true := hc; rw [sb] at q; exact eq_of_beq q)))) (fun hc => ?_)
            have hib2 : ib + 1 + r2 < b.size := by have q : ¬ (ib + 1 + r2 == (b.map (kas_item it)).size) = true := hc; rw [sb] at q; exact Nat.lt_of_le_of_ne (Nat.add_comm (ib + 1) r2 ▸ Nat.add_le_of_le_sub (Nat.le_of_lt hib') hr2) (ne_of_beq q)
            exact F _ _ ⟨_, eo, MC, hib2, byd_l (hN2 r2 (Nat.le_refl _) (by (first | lia | omega))), Nat.le_add_right _ _⟩
          · have hr20 : r2 = 0 := Nat.eq_zero_of_not_pos hk2
            subst hr20
            exact ⟨_, out_push, MB, hib', byd_l (hN2 0 (Nat.le_refl _) (by (first | lia | omega))), Nat.le_refl _⟩
        · have MA := M.stepAs O ha hb Sa Sb r hib (by (first | lia | omega)) hge
          refine sC_ite (fun hc => sC_pure (Onw.done (finA _ (ia + r) ib _ _ out_seg' MA (by have q : (ia + r + 1 == (a.map (kas_item it)).size) = true := hc; rw [sa] at q; exact eq_of_beq q)))) (fun hc => ?_)
          have hia' : ia + r + 1 < a.size := by have q : ¬ (ia + r + 1 == (a.map (kas_item it)).size) = true := hc; rw [sa] at q; exact Nat.lt_of_le_of_ne hr' (ne_of_beq q)
          refine sC_ite (fun hc => ?_) (fun _ => ?_)
          · exfalso
            have q : (ia + r == (a.map (kas_item it)).size) = true := hc
            rw [sa] at q
            have := eq_of_beq q
            (first | lia | omega)
          exact F _ _ ⟨_, out_seg', MA, hlt, hia', Nat.le_add_right _ _⟩
        · have hr0 : r = 0 := Nat.eq_zero_of_not_pos hk
          subst hr0
          exact ⟨o, rfl, M, hlt, hia, Nat.le_refl _⟩
      · intro o ia ib y g' M hia hib hp
        refine sC_bind (sC_modify ?_)
        exact sC_pure ⟨rfl, LoS.mk (ia := ia) (ib := ib) rfl M hia hib (by (first | lia | omega))⟩
  · intro o ia ib y g' M hia hib hp
    (first | lia | omega)
end
end

/-! part S9 -/
set_option autoImplicit false
set_option maxRecDepth 100000
set_option linter.unusedVariables false
open PySem PySem.W PyProof.Rows
section
/-! ### two sorted rows become one, from the end -/
section
variable {n : Nat} {ask : Nat → Nat → Bool} {a b : Array Nat}
structure Mh (ask : Nat → Nat → Bool) (a b : Array Nat) (o : List Nat) (na nb : Nat) : Prop where
  perm : o.Perm (a.toList.drop na ++ b.toList.drop nb)
  srt : o.Pairwise (LeA ask)
  ba : ∀ x ∈ o, ∀ i, i < na → ask x (at0 a i) = false
  bb : ∀ x ∈ o, ∀ i, i < nb → ask x (at0 b i) = false
  la : na ≤ a.size
  lb : nb ≤ b.size
theorem Mh.stepA (A : Ask n ask) (ha : ∀ i, at0 a i < n) (hb : ∀ i, at0 b i < n) (Sa : SrtA ask a) (Sb : SrtA ask b) {o : List Nat} {na nb : Nat} (h : Mh ask a b o (na + 1) (nb + 1)) (hlt : ask (at0 b nb) (at0 a na) = true) :
    Mh ask a b (at0 a na :: o) na (nb + 1) where
  perm := by
    rw [drop_cons' (by have := h.la; (first | lia | omega)), List.cons_append]
    exact h.perm.cons _
  srt := List.pairwise_cons.mpr ⟨fun x hx => h.ba x hx na (by (first | lia | omega)), h.srt⟩
  ba := fun x hx i hi => by
    rcases List.mem_cons.mp hx with rfl | hx
    · exact Sa i na hi (by have := h.la; (first | lia | omega))
    · exact h.ba x hx i (by (first | lia | omega))
  bb := fun x hx i hi => by
    rcases List.mem_cons.mp hx with rfl | hx
    · have h3 := A.asymm _ _ (hb _) (ha _) hlt
      by_cases e : i = nb
      · rw [e]; exact h3
      · exact A.trans _ _ _ (hb _) (hb _) (ha _) (Sb i nb (by (first | lia | omega)) (by have := h.lb; (first | lia | omega))) h3
    · exact h.bb x hx i hi
  la := by have := h.la; (first | lia | omega)
  lb := h.lb
theorem Mh.stepB (A : Ask n ask) (ha : ∀ i, at0 a i < n) (hb : ∀ i, at0 b i < n) (Sa : SrtA ask a) (Sb : SrtA ask b) {o : List Nat} {na nb : Nat} (h : Mh ask a b o (na + 1) (nb + 1)) (hge : ask (at0 b nb) (at0 a na) = false) :
    Mh ask a b (at0 b nb :: o) (na + 1) nb where
  perm := by
    rw [drop_cons' (a := b) (by have := h.lb; (first | lia | omega))]
    exact (h.perm.cons _).trans List.perm_middle.symm
  srt := List.pairwise_cons.mpr ⟨fun x hx => h.bb x hx nb (by (first | lia | omega)), h.srt⟩
  ba := fun x hx i hi => by
    rcases List.mem_cons.mp hx with rfl | hx
    · by_cases e : i = na
      · rw [e]; exact hge
      · exact A.trans _ _ _ (ha _) (ha _) (hb _) (Sa i na (by (first | lia | omega)) (by have := h.la; (first | lia | omega))) hge
    · exact h.ba x hx i hi
  bb := fun x hx i hi => by
    rcases List.mem_cons.mp hx with rfl | hx
    · exact Sb i nb hi (by have := h.lb; (first | lia | omega))
    · exact h.bb x hx i (by (first | lia | omega))
  la := h.la
  lb := by have := h.lb; (first | lia | omega)
theorem seg_snoc {a : Array Nat} {i k : Nat} (h : i + k < a.size) : (a.toList.drop i).take (k + 1) = (a.toList.drop i).take k ++ [at0 a (i + k)] := by
  rw [List.take_add_one, List.getElem?_drop, at_list h]; rfl
theorem Mh.stepAs (A : Ask n ask) (ha : ∀ i, at0 a i < n) (hb : ∀ i, at0 b i < n) (Sa : SrtA ask a) (Sb : SrtA ask b) {nb : Nat} : ∀ (k : Nat) {o : List Nat} {x : Nat}, Mh ask a b o (x + k) (nb + 1) → (∀ i, x ≤ i → i < x + k → ask (at0 b nb) (at0 a i) = true) →
    Mh ask a b ((a.toList.drop x).take k ++ o) x (nb + 1)
  | 0, o, x, h, _ => by simpa using h
  | k + 1, o, x, h, hge => by
    have h1 := Mh.stepA (na := x + k) A ha hb Sa Sb h (hge (x + k) (by (first | lia | omega)) (by (first | lia | omega)))
    have h2 := Mh.stepAs A ha hb Sa Sb k h1 fun i h1 h2 => hge i h1 (by (first | lia | omega))
    rw [seg_snoc (by have := h.la; (first | lia | omega)), List.append_assoc]
    exact h2
theorem Mh.stepBs (A : Ask n ask) (ha : ∀ i, at0 a i < n) (hb : ∀ i, at0 b i < n) (Sa : SrtA ask a) (Sb : SrtA ask b) {na : Nat} : ∀ (k : Nat) {o : List Nat} {x : Nat}, Mh ask a b o (na + 1) (x + k) → (∀ i, x ≤ i → i < x + k → ask (at0 b i) (at0 a na) = false) →
    Mh ask a b ((b.toList.drop x).take k ++ o) (na + 1) x
  | 0, o, x, h, _ => by simpa using h
  | k + 1, o, x, h, hge => by
    have h1 := Mh.stepB (nb := x + k) A ha hb Sa Sb h (hge (x + k) (by (first | lia | omega)) (by (first | lia | omega)))
    have h2 := Mh.stepBs A ha hb Sa Sb k h1 fun i h1 h2 => hge i h1 (by (first | lia | omega))
    rw [seg_snoc (by have := h.lb; (first | lia | omega)), List.append_assoc]
    exact h2
theorem mem_take_at {a : Array Nat} {i x : Nat} (h : x ∈ a.toList.take i) : ∃ j, j < i ∧ j < a.size ∧ x = at0 a j := by
  obtain ⟨k, hk, rfl⟩ := List.mem_iff_getElem.mp h
  rw [List.length_take] at hk
  have l : a.toList.length = a.size := rfl
  refine ⟨k, by (first | lia | omega), by (first | lia | omega), ?_⟩
  rw [List.getElem_take]
  have := at_list (a := a) (i := k) (by (first | lia | omega))
  rw [List.getElem?_eq_getElem (by (first | lia | omega))] at this
  exact Option.some.inj this
theorem srt_take {a : Array Nat} (Sa : SrtA ask a) (i : Nat) : (a.toList.take i).Pairwise (LeA ask) := by
  have := srt_drop Sa 0
  rw [List.drop_zero] at this
  exact this.sublist (List.take_sublist _ _)
theorem Mh.done0 (Sb : SrtA ask b) {o : List Nat} {nb : Nat} (h : Mh ask a b o 0 nb) : MgEnd ask a b (b.toList.take nb ++ o) := by
  refine ⟨?_, ?_⟩
  · have p := h.perm
    rw [List.drop_zero] at p
    refine (List.Perm.append_left _ p).trans ?_
    have : (b.toList.take nb ++ (a.toList ++ b.toList.drop nb)).Perm (a.toList ++ (b.toList.take nb ++ b.toList.drop nb)) := by
      rw [← List.append_assoc, ← List.append_assoc]
      exact List.Perm.append_right _ List.perm_append_comm
    rwa [List.take_append_drop] at this
  · rw [List.pairwise_append]
    refine ⟨srt_take Sb nb, h.srt, fun x hx y hy => ?_⟩
    obtain ⟨j, h1, h2, rfl⟩ := mem_take_at hx
    exact h.bb y hy j h1
theorem Mh.firstB (A : Ask n ask) (ha : ∀ i, at0 a i < n) (hb : ∀ i, at0 b i < n) (Sa : SrtA ask a) (hF : ∀ i, i < a.size → ask (at0 b 0) (at0 a i) = true) {o : List Nat} {na : Nat} (h : Mh ask a b o na 1) : MgEnd ask a b (b.toList.take 1 ++ a.toList.take na ++ o) := by
  refine ⟨?_, ?_⟩
  · refine (List.Perm.append_left _ h.perm).trans ?_
    have : (b.toList.take 1 ++ a.toList.take na ++ (a.toList.drop na ++ b.toList.drop 1)).Perm (a.toList.take na ++ a.toList.drop na ++ (b.toList.take 1 ++ b.toList.drop 1)) := by
      rw [List.append_assoc, ← List.append_assoc (a.toList.take na)]
      rw [← List.append_assoc, ← List.append_assoc (a.toList.take na ++ a.toList.drop na)]
      exact List.Perm.append_right _ List.perm_append_comm
    rwa [List.take_append_drop, List.take_append_drop] at this
  · rw [List.pairwise_append, List.pairwise_append]
    refine ⟨⟨?_, srt_take Sa na, fun x hx y hy => ?_⟩, h.srt, fun x hx y hy => ?_⟩
    · cases hbl : b.toList with
      | nil => simp
      | cons c r => simp
    · obtain ⟨j, h1, h2, rfl⟩ := mem_take_at hx
      obtain ⟨i, h3, h4, rfl⟩ := mem_take_at hy
      have : j = 0 := by (first | lia | omega)
      subst this
      exact A.asymm _ _ (hb _) (ha _) (hF i h4)
    · rcases List.mem_append.mp hx with hx | hx
      · obtain ⟨j, h1, h2, rfl⟩ := mem_take_at hx
        exact h.bb y hy j h1
      · obtain ⟨j, h1, h2, rfl⟩ := mem_take_at hx
        exact h.ba y hy j h1
end
end

/-! part S10 -/
set_option autoImplicit false
set_option maxRecDepth 100000
set_option linter.unusedVariables false
open PySem PySem.W PyProof.Rows
section
section
variable {prog : Program} {w : World} {A : Around} {E : Value → Shared → Prop} {s : Shared} {κ : SortKind} {it : Array Keyed} {n : Nat} {ask : Nat → Nat → Bool}
noncomputable def mergeHi' : Array Keyed → Array Keyed → StateT SortSt Sem (Array Keyed) := sortPriv% PySem.Builtin.mergeHi
theorem outr_push {o : List Nat} {x : Nat} : (Out it o.reverse).push (kas_item it x) = Out it (x :: o).reverse := by rw [out_push, List.reverse_cons]
theorem outr_seg {o : List Nat} {a : Array Nat} {i j k : Nat} (e : j = i + k) : Out it o.reverse ++ ((a.map (kas_item it)).extract i j).reverse = Out it ((a.toList.drop i).take k ++ o).reverse := by
  subst e
  unfold Out
  apply Array.ext'
  simp [List.extract_eq_take_drop, List.map_take, List.map_drop]
theorem outr_end0 {o : List Nat} {a b : Array Nat} {k : Nat} : (a.map (kas_item it)).extract 0 0 ++ (b.map (kas_item it)).extract 0 k ++ (Out it o.reverse).reverse = Out it (b.toList.take k ++ o) := by
  unfold Out
  apply Array.ext'
  simp [List.extract_eq_take_drop, List.map_take]
theorem outr_endB {o : List Nat} {a b : Array Nat} {k : Nat} : (b.map (kas_item it)).extract 0 1 ++ (a.map (kas_item it)).extract 0 k ++ (Out it o.reverse).reverse = Out it (b.toList.take 1 ++ a.toList.take k ++ o) := by
  unfold Out
  apply Array.ext'
  simp [List.extract_eq_take_drop, List.map_take]

noncomputable def HiS (κ : SortKind) (it : Array Keyed) (p : Array Nat) (pd : Array (Nat × Nat × Nat)) (ask : Nat → Nat → Bool) (a b : Array Nat) (T : Nat) (X : Array Keyed) (na nb : Nat) (st : SortSt) : Prop :=
  ∃ o m d g', X = Out it o.reverse ∧ na = m + 1 ∧ nb = d + 2 ∧ st = St κ it p pd g' ∧ Mh ask a b o (m + 1) (d + 2) ∧ T + m + d + 4 ≤ a.size + b.size
theorem HiS.mk {a b p : Array Nat} {pd : Array (Nat × Nat × Nat)} {T : Nat} {X : Array Keyed} {na nb m d g' : Nat} {o : List Nat} (h1 : X = Out it o.reverse) (ha : na = m + 1) (hb : nb = d + 2) (h2 : Mh ask a b o (m + 1) (d + 2)) (h5 : T + m + d + 4 ≤ a.size + b.size) :
    HiS κ it p pd ask a b T X na nb (St κ it p pd g') := ⟨o, m, d, g', h1, ha, hb, rfl, h2, h5⟩
section
variable {a b p : Array Nat} {pd : Array (Nat × Nat × Nat)} {Q : Array Keyed → SortSt → Prop} {α : Type} {Q2 : α → SortSt → Prop}
theorem bindHi {γ : Type} {c T na₀ nb₀ : Nat} {X₀ : Array Keyed} {y₀ : γ} {st₀ : SortSt} {f : Nat → Option (Array Keyed) × Nat × Nat × Array Keyed × γ → StateT SortSt Sem (ForInStep (Option (Array Keyed) × Nat × Nat × Array Keyed × γ))}
    {K : Option (Array Keyed) × Nat × Nat × Array Keyed × γ → StateT SortSt Sem α} (T' : Nat) (h0 : HiS κ it p pd ask a b T X₀ na₀ nb₀ st₀) (big : a.size + b.size ≤ c)
    (step : ∀ j o m d y g', Mh ask a b o (m + 1) (d + 2) → T + j + m + d + 4 ≤ a.size + b.size → sC prog w A E s (f j (none, m + 1, d + 2, Out it o.reverse, y)) (fun r st' => match r with
      | .done x => Onw Q (fun x st => HiS κ it p pd ask a b T' x.2.2.1 x.1 x.2.1 st) x st'
      | .yield x => x.1 = none ∧ HiS κ it p pd ask a b (T + (j + 1)) x.2.2.2.1 x.2.1 x.2.2.1 st') (St κ it p pd g'))
    (k1 : ∀ R y st, Q R st → sC prog w A E s (K (some R, y)) Q2 st) (k2 : ∀ o m d y g', Mh ask a b o (m + 1) (d + 2) → T' + m + d + 4 ≤ a.size + b.size → sC prog w A E s (K (none, m + 1, d + 2, Out it o.reverse, y)) Q2 (St κ it p pd g')) :
    sC prog w A E s (forIn [:c] (none, na₀, nb₀, X₀, y₀) f >>= K) Q2 st₀ := by
  refine sC_bind (sC_mono (Q := Onw Q fun x st => HiS κ it p pd ask a b T' x.2.2.1 x.1 x.2.1 st)
    (sC_for (fun j x st => x.1 = none ∧ HiS κ it p pd ask a b (T + j) x.2.2.2.1 x.2.1 x.2.2.1 st) ⟨rfl, h0⟩ ?_ ?_) ?_)
  · rintro j ⟨_, _, _, _, y⟩ _ _ hj ⟨rfl, o, m, d, g', rfl, rfl, rfl, rfl, M, hp⟩
    exact sC_mono (step j o m d y g' M hp) fun r st' h => by cases r <;> exact h
  · rintro ⟨_, _, _, _, y⟩ _ ⟨_, o, m, d, g', _, _, _, _, M, hp⟩
    (first | lia | omega)
  · rintro ⟨_, _, _, _, y⟩ st (⟨R, rfl, hR⟩ | ⟨rfl, o, m, d, g', rfl, rfl, rfl, rfl, M, hp⟩)
    · exact k1 R _ st hR
    · exact k2 o m d y g' M hp
end
theorem mergeHi_ok {a b p : Array Nat} {pd : Array (Nat × Nat × Nat)} {g : Nat} {Q : Array Keyed → SortSt → Prop} (H : AskAt prog w A s κ it n ask) (O : Ask n ask) (ha : ∀ i, at0 a i < n) (hb : ∀ i, at0 b i < n) (Sa : SrtA ask a) (Sb : SrtA ask b)
    (h1 : 0 < a.size) (h2 : 0 < b.size) (hF : ∀ i, i < a.size → ask (at0 b 0) (at0 a i) = true) (hL : ask (at0 b (b.size - 1)) (at0 a (a.size - 1)) = true) (hQ : Good2 κ it p pd ask a b Q) :
    sC prog w A E s (mergeHi' (a.map (kas_item it)) (b.map (kas_item it))) Q (St κ it p pd g) := by
  have sa : (a.map (kas_item it)).size = a.size := by simp
  have sb : (b.map (kas_item it)).size = b.size := by simp
  have M0 : Mh ask a b [] (a.size - 1 + 1) (b.size - 1 + 1) := ⟨by simp [show a.size - 1 + 1 = a.size by (first | lia | omega), show b.size - 1 + 1 = b.size by (first | lia | omega)], by simp, by simp, by simp, by (first | lia | omega), by (first | lia | omega)⟩
  have M1 : Mh ask a b [at0 a (a.size - 1)] (a.size - 1) b.size := by have := M0.stepA O ha hb Sa Sb hL; rwa [show b.size - 1 + 1 = b.size by (first | lia | omega)] at this
  have e0 : (#[kas_item it (at0 a ((a.map (kas_item it)).size - 1))] : Array Keyed) = Out it [at0 a (a.size - 1)].reverse := by rw [sa]; rfl
  have fin0 : ∀ (o : List Nat) (na nb g' : Nat) (x : Array Keyed), x = Out it o.reverse → Mh ask a b o na nb → na = 0 → Q ((a.map (kas_item it)).extract 0 na ++ (b.map (kas_item it)).extract 0 nb ++ x.reverse) (St κ it p pd g') := by
    intro o na nb g' x hx M e
    subst e
    rw [hx, outr_end0]
    exact hQ _ _ (M.done0 Sb)
  have finB : ∀ (o : List Nat) (na nb g' : Nat) (x : Array Keyed), x = Out it o.reverse → Mh ask a b o na nb → nb = 1 → Q ((b.map (kas_item it)).extract 0 nb ++ (a.map (kas_item it)).extract 0 na ++ x.reverse) (St κ it p pd g') := by
    intro o na nb g' x hx M e
    subst e
    rw [hx, outr_endB]
    exact hQ _ _ (M.firstB O ha hb Sa hF)
  refine sC_rule ?_
  refine sC_bind (sC_elem (q := a) (i := (a.map (kas_item it)).size - 1) (by rw [sa]; (first | lia | omega)) ?_)
  refine sC_ite (fun hc => sC_pure (fin0 _ _ _ g _ e0 (by rw [sa, sb]; exact M1) (eq_of_beq hc))) (fun hc => ?_)
  have ha1 : 1 ≤ a.size - 1 := by have q : ¬ ((a.map (kas_item it)).size - 1 == 0) = true := hc; rw [sa] at q; have := ne_of_beq q; (first | lia | omega)
  refine sC_ite (fun hc => sC_pure (finB _ _ _ g _ e0 (by rw [sa, sb]; exact M1) (eq_of_beq hc))) (fun hc => ?_)
  have hb1 : 2 ≤ b.size := by have q : ¬ ((b.map (kas_item it)).size == 1) = true := hc; rw [sb] at q; have := ne_of_beq q; (first | lia | omega)
  refine sC_bind (sC_get ?_)
  have ea : a.size - 1 = (a.size - 2) + 1 := by (first | lia | omega)
  have eb : b.size = (b.size - 2) + 2 := by (first | lia | omega)
  have M1' : Mh ask a b [at0 a (a.size - 1)] ((a.size - 2) + 1) ((b.size - 2) + 2) := by rw [← ea, ← eb]; exact M1
  refine bindHi (T := 0) (T' := a.size + b.size) (Q := Q) (HiS.mk e0 (by rw [sa]; exact ea) (by rw [sb]; exact eb) M1' (by (first | lia | omega))) (by rw [sa, sb]; exact Nat.le_refl _) ?_ (fun R y st hR => sC_pure hR) ?_
  · intro j o na nb mg g' M hp
    refine bindHi (T := j) (T' := j + 1) (Q := Q) (HiS.mk rfl rfl rfl M (by (first | lia | omega))) (by rw [sa, sb]; exact Nat.le_refl _) ?_ (fun R y st hR => sC_pure (Onw.done hR)) ?_
    · intro j' o na nb y g' M hp
      have hla := M.la
      have hlb := M.lb
      extract_lets
      refine sC_bind (sC_elem (i := nb + 1) hlb ?_)
      refine sC_bind (sC_elem (i := na) hla ?_)
      refine sC_bind (sC_lt H (hb _) (ha _) ?_)
      refine sC_ite (fun hw => ?_) (fun hw => ?_)
      · have M' := M.stepA O ha hb Sa Sb hw
        refine sC_bind (sC_elem (i := na) hla ?_)
        refine sC_ite (fun hc => sC_pure (Onw.done (fin0 _ na (nb + 2) g' _ outr_push M' (eq_of_beq hc)))) (fun hc => ?_)
        have hna : na ≠ 0 := by have q : ¬ (na == 0) = true := hc; exact ne_of_beq q
        have em : na = (na - 1) + 1 := (Nat.succ_pred_eq_of_ne_zero hna).symm
        have M'' : Mh ask a b (at0 a na :: o) ((na - 1) + 1) (nb + 2) := em ▸ M'
        refine sC_ite (fun hg => sC_pure (Onw.on (HiS.mk outr_push em rfl M'' (by (first | lia | omega))))) (fun hg => sC_pure ⟨rfl, HiS.mk outr_push em rfl M'' (by (first | lia | omega))⟩)
      · have M' := M.stepB O ha hb Sa Sb (by simpa using hw)
        refine sC_bind (sC_elem (i := nb + 1) hlb ?_)
        refine sC_ite (fun hc => sC_pure (Onw.done (finB _ (na + 1) (nb + 1) g' _ outr_push M' (eq_of_beq hc)))) (fun hc => ?_)
        have hnb : nb + 1 ≠ 1 := by have q : ¬ (nb + 1 == 1) = true := hc; exact ne_of_beq q
        have em : nb + 1 = (nb - 1) + 2 := n_pred2 hc
        have M'' : Mh ask a b (at0 b (nb + 1) :: o) (na + 1) ((nb - 1) + 2) := em ▸ M'
        refine sC_ite (fun hg => sC_pure (Onw.on (HiS.mk outr_push rfl em M'' (by (first | lia | omega))))) (fun hg => sC_pure ⟨rfl, HiS.mk outr_push rfl em M'' (by (first | lia | omega))⟩)
    · -- by leaps
      intro o na nb y g' M hp
      refine sC_rule ?_
      refine bindHi (T := j + 1) (T' := j + 1) (Q := Q) (HiS.mk rfl rfl rfl M hp) (by rw [sa, sb]; exact Nat.le_refl _) ?_ (fun R y st hR => sC_pure (Onw.done hR)) ?_
      · intro j' o na nb y g' M hp
        have hla := M.la
        have hlb := M.lb
        extract_lets _ _ _ _ _ _ _ _ _ _ _ _ jp _
        refine sC_iteJ (J := jp) fun mg' => ?_
        refine sC_bind (sC_modify ?_)
        refine sC_bind (sC_elem (i := nb + 1) hlb ?_)
        refine sC_bind (gallop_ok (left := false) (p := p) (pd := pd) (key := at0 b (nb + 1)) (q := a) (base := 0) (hint := na) (m := na + 1) H (hb _) ha (by (first | lia | omega)) (by (first | lia | omega)) (mono_r O ha (hb _) Sa (by (first | lia | omega))) ?_)
        intro r hr hT hN
        have hge : ∀ i, r ≤ i → i < r + (na + 1 - r) → ask (at0 b (nb + 1)) (at0 a i) = true := fun i h1 h2 => by have := byd_r (hN i h1 (by rwa [Nat.add_sub_of_le hr] at h2)); rwa [Nat.zero_add] at this
        have MA : Mh ask a b ((a.toList.drop r).take (na + 1 - r) ++ o) r (nb + 1 + 1) := Mh.stepAs (nb := nb + 1) O ha hb Sa Sb (na + 1 - r) (x := r) (o := o) (by rw [Nat.add_sub_of_le hr]; exact M) hge
        have hlt : ∀ m, r = m + 1 → ask (at0 b (nb + 1)) (at0 a m) = false := fun m hm => by have := byd_r (hT m (hm ▸ Nat.lt_succ_self m)); rwa [Nat.zero_add] at this
        dsimp (config := { zeta := false }) only
        extract_lets _ _ jp2 _ _
        refine sC_iteK (J := jp2) (fun a' o' => ∃ o m, o' = Out it o.reverse ∧ a' = m + 1 ∧ Mh ask a b o (m + 1) (nb + 1 + 1) ∧ ask (at0 b (nb + 1)) (at0 a m) = false ∧ m ≤ na) ?_ (fun hk F => ?_) (fun hk => ?_)
        · rintro _ _ ⟨o2, m, rfl, rfl, M2, hge2, hm⟩
          have hma : m < a.size := Nat.lt_of_le_of_lt hm hla
          have MB := M2.stepB O ha hb Sa Sb hge2
          refine sC_bind (sC_elem (i := nb + 1) hlb ?_)
          refine sC_ite (fun hc => sC_pure (Onw.done (finB _ (m + 1) (nb + 1) _ _ outr_push MB (eq_of_beq hc)))) (fun hc => ?_)
          have hnb : nb + 1 ≠ 1 := by have q : ¬ (nb + 1 == 1) = true := hc; exact ne_of_beq q
          refine sC_bind (sC_elem (i := m) hma ?_)
          refine sC_bind (gallop_ok (left := true) (p := p) (pd := pd) (key := at0 a m) (q := b) (base := 0) (hint := nb) (m := nb + 1) H (ha _) hb (by (first | lia | omega)) (by (first | lia | omega)) (mono_l O hb (ha _) Sb (by (first | lia | omega))) ?_)
          intro r2 hr2 hT2 hN2
          have hge3 : ∀ i, r2 ≤ i → i < r2 + (nb + 1 - r2) → ask (at0 b i) (at0 a m) = false := fun i h1 h2 => by have := byd_l (hN2 i h1 (by rwa [Nat.add_sub_of_le hr2] at h2)); rwa [Nat.zero_add] at this
          have hr20 : r2 ≠ 0 := fun e => by have := hge3 0 (by rw [e]; exact Nat.le_refl 0) (by rw [e, Nat.sub_zero, Nat.zero_add]; exact Nat.succ_pos _); rw [hF m hma] at this; cases this
          obtain ⟨r2, rfl⟩ : ∃ m, r2 = m + 1 := Nat.exists_eq_succ_of_ne_zero hr20
          have hlt2 : ask (at0 b r2) (at0 a m) = true := by have := byd_l (hT2 r2 (Nat.lt_succ_self r2)); rwa [Nat.zero_add] at this
          have MC := Mh.stepBs O ha hb Sa Sb (nb + 1 - (r2 + 1)) (x := r2 + 1) (by rw [Nat.add_sub_of_le hr2]; exact MB) hge3
          dsimp (config := { zeta := false }) only
          extract_lets _ _ _ jp3 _ _
          refine sC_iteK (J := jp3) (fun b' o' => ∃ o d, o' = Out it o.reverse ∧ b' = d + 2 ∧ Mh ask a b o (m + 1) (d + 1 + 1) ∧ ask (at0 b (d + 1)) (at0 a m) = true ∧ d + 1 ≤ nb) ?_ (fun hk2 F => ?_) (fun hk2 => ?_)
          · rintro _ _ ⟨o3, d, rfl, rfl, M3, hlt3, hd⟩
            have MD := M3.stepA O ha hb Sa Sb hlt3
            refine sC_bind (sC_elem (i := m) hma ?_)
            refine sC_ite (fun hc => sC_pure (Onw.done (fin0 _ m (d + 2) _ _ outr_push MD (eq_of_beq hc)))) (fun hc => ?_)
            have hr1 : m ≠ 0 := by have q : ¬ (m == 0) = true := hc; exact ne_of_beq q
            have em : m = (m - 1) + 1 := (Nat.succ_pred_eq_of_ne_zero hr1).symm
            have MD' : Mh ask a b (at0 a m :: o3) ((m - 1) + 1) (d + 2) := em ▸ MD
            refine sC_ite (fun _ => sC_pure (Onw.on (HiS.mk outr_push em rfl MD' (by (first | lia | omega))))) (fun _ => sC_pure ⟨rfl, HiS.mk outr_push em rfl MD' (by (first | lia | omega))⟩)
          · have hk2 : nb + 1 - (r2 + 1) > 0 := hk2
            have eo : Out it (at0 b (nb + 1) :: o2).reverse ++ ((b.map (kas_item it)).extract (r2 + 1) (nb + 1)).reverse = _ := outr_seg (k := nb + 1 - (r2 + 1)) (Nat.add_sub_of_le hr2).symm
            rw [← outr_push] at eo
            refine sC_ite (fun hc => sC_pure (Onw.done (finB _ (m + 1) (r2 + 1) _ _ eo MC (eq_of_beq hc)))) (fun hc => ?_)
            have hr21 : r2 + 1 ≠ 1 := by have q : ¬ (r2 + 1 == 1) = true := hc; exact ne_of_beq q
            refine sC_ite (fun hc => ?_) (fun _ => ?_)
            · exfalso
              have q : (r2 + 1 == 0) = true := hc
              exact absurd (eq_of_beq q) (Nat.succ_ne_zero r2)
            obtain ⟨d, rfl⟩ : ∃ x, r2 = x + 1 := Nat.exists_eq_succ_of_ne_zero fun e => hr21 (congrArg (· + 1) e)
            exact F _ _ ⟨_, d, eo, rfl, MC, hlt2, Nat.le_of_succ_le_succ hr2⟩
          · have hk2 : ¬ nb + 1 - (r2 + 1) > 0 := hk2
            have hr2e : r2 = nb := Nat.le_antisymm (Nat.le_of_succ_le_succ hr2) (Nat.le_of_succ_le_succ (Nat.sub_eq_zero_iff_le.mp (Nat.eq_zero_of_not_pos hk2)))
            subst hr2e
            obtain ⟨d, rfl⟩ : ∃ x, r2 = x + 1 := ⟨r2 - 1, by (first | lia | omega)⟩
            exact ⟨_, d, outr_push, rfl, MB, hlt2, Nat.le_refl _⟩
        · have hk : na + 1 - r > 0 := hk
          have eo : Out it o.reverse ++ ((a.map (kas_item it)).extract r (na + 1)).reverse = _ := outr_seg (k := na + 1 - r) (Nat.add_sub_of_le hr).symm
          refine sC_ite (fun hc => sC_pure (Onw.done (fin0 _ r (nb + 2) _ _ eo MA (eq_of_beq hc)))) (fun hc => ?_)
          have hr0 : r ≠ 0 := by have q : ¬ (r == 0) = true := hc; exact ne_of_beq q
          obtain ⟨m, rfl⟩ : ∃ x, r = x + 1 := Nat.exists_eq_succ_of_ne_zero hr0
          exact F _ _ ⟨_, m, eo, rfl, MA, hlt m rfl, Nat.le_of_succ_le_succ hr⟩
        · have hk : ¬ na + 1 - r > 0 := hk
          have hre : r = na + 1 := Nat.le_antisymm hr (Nat.sub_eq_zero_iff_le.mp (Nat.eq_zero_of_not_pos hk))
          subst hre
          exact ⟨o, na, rfl, rfl, M, hlt na rfl, Nat.le_refl _⟩
      · intro o na nb y g' M hp
        refine sC_bind (sC_modify ?_)
        exact sC_pure ⟨rfl, HiS.mk rfl rfl rfl M (by (first | lia | omega))⟩
  · intro o na nb y g' M hp
    (first | lia | omega)
end
end

/-! part S11 -/
set_option autoImplicit false
set_option maxRecDepth 100000
set_option linter.unusedVariables false
open PySem PySem.W PyProof.Rows
section
/-! ### a run in the midst of the row -/
section
variable {n : Nat} {ask : Nat → Nat → Bool}
structure Seg (p₀ p : Array Nat) (lo hi : Nat) : Prop where
  perm : p.Perm p₀
  out : ∀ k, k < lo ∨ hi ≤ k → at0 p k = at0 p₀ k
theorem Seg.refl (p : Array Nat) (lo hi : Nat) : Seg p p lo hi := ⟨Array.Perm.refl _, fun _ _ => rfl⟩
theorem Seg.size {p₀ p : Array Nat} {lo hi : Nat} (h : Seg p₀ p lo hi) : p.size = p₀.size := h.perm.size_eq
theorem Seg.rev {p₀ p : Array Nat} {lo hi i j : Nat} (h : Seg p₀ p lo hi) (hi1 : lo ≤ i) (hj : j ≤ hi) (hz : hi ≤ p₀.size) : Seg p₀ (kas_rev p i j) lo hi :=
  ⟨(rev_perm ..).trans h.perm, fun k hk => by rw [at_rev (by rw [h.size]; (first | lia | omega)), if_neg (by (first | lia | omega))]; exact h.out k hk⟩
theorem Seg.trans {p₀ p q : Array Nat} {lo hi : Nat} (h : Seg p₀ p lo hi) (h' : Seg p q lo hi) : Seg p₀ q lo hi := ⟨h'.perm.trans h.perm, fun k hk => (h'.out k hk).trans (h.out k hk)⟩
noncomputable def SrtS (ask : Nat → Nat → Bool) (p : Array Nat) (lo m : Nat) : Prop := ∀ i j, lo ≤ i → i < j → j < lo + m → ask (at0 p j) (at0 p i) = false
noncomputable def DscS (ask : Nat → Nat → Bool) (p : Array Nat) (lo m : Nat) : Prop := ∀ i j, lo ≤ i → i < j → j < lo + m → ask (at0 p i) (at0 p j) = false
theorem SrtS.snoc (A : Ask n ask) {p : Array Nat} {lo m : Nat} (hp : Small n p) (hm : 1 ≤ m) (h : SrtS ask p lo m) (hx : ask (at0 p (lo + m)) (at0 p (lo + m - 1)) = false) : SrtS ask p lo (m + 1) := by
  intro i j h1 h2 h3
  by_cases e : j < lo + m
  · exact h i j h1 h2 e
  · have : j = lo + m := by (first | lia | omega)
    subst this
    by_cases e2 : i = lo + m - 1
    · rw [e2]; exact hx
    · exact A.trans _ _ _ (hp _) (hp _) (hp _) (h i (lo + m - 1) h1 (by (first | lia | omega)) (by (first | lia | omega))) hx
theorem DscS.snoc (A : Ask n ask) {p : Array Nat} {lo m : Nat} (hp : Small n p) (hm : 1 ≤ m) (h : DscS ask p lo m) (hx : ask (at0 p (lo + m - 1)) (at0 p (lo + m)) = false) : DscS ask p lo (m + 1) := by
  intro i j h1 h2 h3
  by_cases e : j < lo + m
  · exact h i j h1 h2 e
  · have : j = lo + m := by (first | lia | omega)
    subst this
    by_cases e2 : i = lo + m - 1
    · rw [e2]; exact hx
    · exact A.trans _ _ _ (hp _) (hp _) (hp _) hx (h i (lo + m - 1) h1 (by (first | lia | omega)) (by (first | lia | omega)))
theorem DscS.turn {p : Array Nat} {lo m : Nat} (h : DscS ask p lo m) (hz : lo + m ≤ p.size) : SrtS ask (kas_rev p lo (lo + m)) lo m := by
  intro i j h1 h2 h3
  rw [at_rev hz, at_rev hz, if_pos ⟨Nat.le_trans h1 (Nat.le_of_lt h2), h3⟩, if_pos ⟨h1, Nat.lt_trans h2 h3⟩]
  exact h _ _ (by (first | lia | omega)) (n_flip h2 h3) (n_back h1 (Nat.lt_trans h2 h3))
/-- the way down: like ones stand behind -/
structure DnS (ask : Nat → Nat → Bool) (p : Array Nat) (lo m q : Nat) : Prop where
  dsc : DscS ask p lo m
  tail : ∀ i j, lo + m - (q + 1) ≤ i → i < j → j < lo + m → ask (at0 p j) (at0 p i) = false
  le : q + 1 ≤ m
theorem DnS.turn {p : Array Nat} {lo m q : Nat} (h : DnS ask p lo m q) (hz : lo + m ≤ p.size) : DscS ask (kas_rev p (lo + m - (q + 1)) (lo + m)) lo m := by
  have hq := h.le
  intro i j h1 h2 h3
  rw [at_rev hz, at_rev hz]
  by_cases e : lo + m - (q + 1) ≤ i
  · rw [if_pos ⟨e, Nat.lt_trans h2 h3⟩, if_pos ⟨Nat.le_trans e (Nat.le_of_lt h2), h3⟩]
    exact h.tail _ _ (by (first | lia | omega)) (n_flip h2 h3) (n_back e (Nat.lt_trans h2 h3))
  · rw [if_neg (by (first | lia | omega))]
    split
    · exact h.dsc _ _ h1 (by (first | lia | omega)) (by (first | lia | omega))
    · exact h.dsc _ _ h1 h2 h3
theorem DnS.flat {p : Array Nat} {lo m : Nat} (h : DscS ask p lo m) (hm : 1 ≤ m) : DnS ask p lo m 0 := ⟨h, fun i j h1 h2 h3 => by (first | lia | omega), hm⟩
theorem DnS.like (A : Ask n ask) {p : Array Nat} {lo m q : Nat} (hp : Small n p) (h : DnS ask p lo m q) (h1 : ask (at0 p (lo + m)) (at0 p (lo + m - 1)) = false) (h2 : ask (at0 p (lo + m - 1)) (at0 p (lo + m)) = false) : DnS ask p lo (m + 1) (q + 1) := by
  have hq := h.le
  refine ⟨h.dsc.snoc A hp (by (first | lia | omega)) h2, fun i j h3 h4 h5 => ?_, by (first | lia | omega)⟩
  by_cases e : j < lo + m
  · exact h.tail i j (by (first | lia | omega)) h4 e
  · have : j = lo + m := by (first | lia | omega)
    subst this
    by_cases e2 : i = lo + m - 1
    · rw [e2]; exact h1
    · exact A.trans _ _ _ (hp _) (hp _) (hp _) (h.tail i (lo + m - 1) (by (first | lia | omega)) (by (first | lia | omega)) (by (first | lia | omega))) h1
end

section
variable {prog : Program} {w : World} {A : Around} {E : Value → Shared → Prop} {s : Shared} {κ : SortKind} {it : Array Keyed} {n : Nat} {ask : Nat → Nat → Bool} {pd : Array (Nat × Nat × Nat)} {g : Nat}
theorem sC_ltAt {i j : Nat} {p : Array Nat} {Q : Option Bool → SortSt → Prop} (H : AskAt prog w A s κ it n ask) (hp : Small n p) (hi : i < p.size) (hj : j < p.size) (h : Q (some (ask (at0 p i) (at0 p j))) (St κ it p pd g)) :
    sC prog w A E s (ltAt' i j) Q (St κ it p pd g) := by
  rw [ltAt'_eq]
  exact sC_bind (sC_get (sC_bind (sC_elem hi (sC_bind (sC_elem hj (sC_lt H (hp _) (hp _) h))))))
theorem sC_rev {i j : Nat} {p : Array Nat} {Q : Unit → SortSt → Prop} (h : Q () (St κ it (kas_rev p i j) pd g)) : sC prog w A E s (reverseSlice' i j) Q (St κ it p pd g) := by
  rw [reverseSlice'_eq]
  refine sC_modify ?_
  have e : setArr (St κ it p pd g) (mirror (arrOf (St κ it p pd g)) i j ((j - i) / 2)) = St κ it (kas_rev p i j) pd g := by
    show SortSt.mk' κ (mirror (p.map (kas_item it)) i j ((j - i) / 2)) pd g none = SortSt.mk' κ ((mirror p i j ((j - i) / 2)).map (kas_item it)) pd g none
    have e1 : mirror (p.map (kas_item it)) i j ((j - i) / 2) = (mirror p i j ((j - i) / 2)).map (kas_item it) := kas_swaps_map (kas_item it) (fun k => i + k) (fun k => j - 1 - k) _ p
    rw [e1]
  rw [e]; exact h
theorem sC_move {k l : Nat} {p : Array Nat} {Q : Unit → SortSt → Prop} (h : Q () (St κ it (bubble p k (k - l)) pd g)) : sC prog w A E s (moveDown' k l) Q (St κ it p pd g) := by
  rw [moveDown'_eq]
  refine sC_modify ?_
  have e : setArr (St κ it p pd g) (bubble (arrOf (St κ it p pd g)) k (k - l)) = St κ it (bubble p k (k - l)) pd g := by
    show SortSt.mk' κ (bubble (p.map (kas_item it)) k (k - l)) pd g none = SortSt.mk' κ ((bubble p k (k - l)).map (kas_item it)) pd g none
    have e1 : bubble (p.map (kas_item it)) k (k - l) = (bubble p k (k - l)).map (kas_item it) := kas_swaps_map (kas_item it) (fun i => k - i) (fun i => k - i - 1) _ p
    rw [e1]
  rw [e]; exact h

noncomputable abbrev L2 := Option (Option Nat) × Nat
theorem asc_loop {a nrem lo : Nat} {p : Array Nat} {f : Nat → L2 → StateT SortSt Sem (ForInStep L2)} {Q : L2 → SortSt → Prop} (O : Ask n ask) (hp : Small n p) (h1 : 1 ≤ a) (ha : a ≤ nrem) (hs : SrtS ask p lo a)
    (hf : ∀ x m (Q' : ForInStep L2 → SortSt → Prop), 1 ≤ m → m < nrem → Q' (if ask (at0 p (lo + m)) (at0 p (lo + m - 1)) = true then .done (none, m) else .yield (none, m + 1)) (St κ it p pd g) → sC prog w A E s (f x (none, m)) Q' (St κ it p pd g))
    (h : ∀ m, a ≤ m → m ≤ nrem → SrtS ask p lo m → (m < nrem → ask (at0 p (lo + m)) (at0 p (lo + m - 1)) = true) → Q (none, m) (St κ it p pd g)) : sC prog w A E s (forIn [a:nrem] (none, a) f) Q (St κ it p pd g) := by
  refine sC_for (fun j b st => b = (none, j) ∧ st = St κ it p pd g ∧ SrtS ask p lo j) ⟨rfl, rfl, hs⟩ ?_ ?_
  · rintro j b st h2 h3 ⟨rfl, rfl, hS⟩
    refine hf j j _ (by (first | lia | omega)) h3 ?_
    cases hc : ask (at0 p (lo + j)) (at0 p (lo + j - 1)) with
    | true => rw [if_pos rfl]; exact h j h2 (by (first | lia | omega)) hS fun _ => hc
    | false => rw [if_neg (by decide)]; exact ⟨rfl, rfl, hS.snoc O hp (by (first | lia | omega)) hc⟩
  · rintro b st ⟨rfl, rfl, hS⟩
    rw [show max a nrem = nrem by (first | lia | omega)] at hS ⊢
    exact h nrem ha (Nat.le_refl _) hS fun h => absurd h (Nat.lt_irrefl _)

theorem desc_loop {a nrem lo : Nat} {p₀ p : Array Nat} {f : Nat → L3 → StateT SortSt Sem (ForInStep L3)} {Q : L3 → SortSt → Prop} (O : Ask n ask) (hp₀ : Small n p₀) (hz : lo + nrem ≤ p₀.size) (hS : Seg p₀ p lo (lo + nrem)) (h1 : 1 ≤ a) (ha : a ≤ nrem) (hs : DscS ask p lo a)
    (hf : ∀ x m q (p' : Array Nat) (Q' : ForInStep L3 → SortSt → Prop), 1 ≤ m → m < nrem → p'.size = p₀.size → Small n p' →
      (ask (at0 p' (lo + m)) (at0 p' (lo + m - 1)) = true → Q' (.yield (none, m + 1, 0)) (St κ it (if q > 0 then kas_rev p' (lo + m - (q + 1)) (lo + m) else p') pd g)) →
      (ask (at0 p' (lo + m)) (at0 p' (lo + m - 1)) = false → Q' (if ask (at0 p' (lo + m - 1)) (at0 p' (lo + m)) = true then .done (none, m, q) else .yield (none, m + 1, q + 1)) (St κ it p' pd g)) →
      sC prog w A E s (f x (none, m, q)) Q' (St κ it p' pd g))
    (h : ∀ m q p', a ≤ m → m ≤ nrem → Seg p₀ p' lo (lo + nrem) → DnS ask p' lo m q → Q (none, m, q) (St κ it p' pd g)) : sC prog w A E s (forIn [a:nrem] (none, a, 0) f) Q (St κ it p pd g) := by
  refine sC_for (fun j b st => ∃ q p', b = (none, j, q) ∧ st = St κ it p' pd g ∧ Seg p₀ p' lo (lo + nrem) ∧ DnS ask p' lo j q) ⟨0, p, rfl, rfl, hS, DnS.flat hs h1⟩ ?_ ?_
  · rintro j b st h2 h3 ⟨q, p', rfl, rfl, hG, hD⟩
    have hp' : Small n p' := hp₀.perm hG.perm
    refine hf j j q p' _ (by (first | lia | omega)) h3 hG.size hp' (fun hc => ?_) fun hc => ?_
    · refine ⟨0, _, rfl, rfl, ?_, DnS.flat ?_ (by (first | lia | omega))⟩
      · split
        · exact hG.rev (by have := hD.le; (first | lia | omega)) (by (first | lia | omega)) hz
        · exact hG
      · have hD' : DscS ask (if q > 0 then kas_rev p' (lo + j - (q + 1)) (lo + j) else p') lo j := by
          split
          · exact hD.turn (by rw [hG.size]; (first | lia | omega))
          · exact hD.dsc
        have hp2 : Small n (if q > 0 then kas_rev p' (lo + j - (q + 1)) (lo + j) else p') := by
          split
          · exact hp'.perm (rev_perm ..)
          · exact hp'
        refine hD'.snoc O hp2 (by (first | lia | omega)) ?_
        have := hD.le
        split
        · rw [at_rev (by rw [hG.size]; (first | lia | omega)), at_rev (by rw [hG.size]; (first | lia | omega)), if_pos ⟨by (first | lia | omega), by (first | lia | omega)⟩, if_neg (by (first | lia | omega)), n_pred (a := lo + j - (q + 1)) (n := lo + j) (by (first | lia | omega))]
          by_cases e : lo + j - (q + 1) = lo + j - 1
          · rw [e]; exact O.asymm _ _ (hp' _) (hp' _) hc
          · exact O.trans _ _ _ (hp' _) (hp' _) (hp' _) (O.asymm _ _ (hp' _) (hp' _) hc) (hD.dsc _ _ (by (first | lia | omega)) (n_less (Nat.succ_le_succ (Nat.zero_le q)) e) (by (first | lia | omega)))
        · exact O.asymm _ _ (hp' _) (hp' _) hc
    · cases hd : ask (at0 p' (lo + j - 1)) (at0 p' (lo + j)) with
      | true => rw [if_pos rfl]; exact h j q p' h2 (by (first | lia | omega)) hG hD
      | false => rw [if_neg (by decide)]; exact ⟨q + 1, p', rfl, rfl, hG, hD.like O hp' hc hd⟩
  · rintro b st ⟨q, p', rfl, rfl, hG, hD⟩
    rw [show max a nrem = nrem by (first | lia | omega)] at hD ⊢
    exact h nrem q p' ha (Nat.le_refl _) hG hD

theorem countRun_ok {lo nrem : Nat} {p₀ : Array Nat} {Q : Option Nat → SortSt → Prop} (H : AskAt prog w A s κ it n ask) (O : Ask n ask) (hp₀ : Small n p₀) (hz : lo + nrem ≤ p₀.size) (h1 : 1 ≤ nrem)
    (h : ∀ m p, 1 ≤ m → m ≤ nrem → Seg p₀ p lo (lo + nrem) → SrtS ask p lo m → Q (some m) (St κ it p pd g)) : sC prog w A E s (countRun' lo nrem) Q (St κ it p₀ pd g) := by
  have tail : ∀ (m : Nat) (p' : Array Nat), 1 ≤ m → m ≤ nrem → Seg p₀ p' lo (lo + nrem) → DscS ask p' lo m → ∀ (f : Nat → L2 → StateT SortSt Sem (ForInStep L2)) (K : L2 → StateT SortSt Sem (Option Nat)),
      (∀ (p : Array Nat) x m (Q' : ForInStep L2 → SortSt → Prop), p.size = p₀.size → Small n p → 1 ≤ m → m < nrem → Q' (if ask (at0 p (lo + m)) (at0 p (lo + m - 1)) = true then .done (none, m) else .yield (none, m + 1)) (St κ it p pd g) → sC prog w A E s (f x (none, m)) Q' (St κ it p pd g)) →
      (∀ m' p, 1 ≤ m' → m' ≤ nrem → Seg p₀ p lo (lo + nrem) → SrtS ask p lo m' → sC prog w A E s (K (none, m')) Q (St κ it p pd g)) →
      sC prog w A E s (forIn [m:nrem] (none, m) f >>= K) Q (St κ it (kas_rev p' lo (lo + m)) pd g) := by
    intro m p' hm1 hm2 hG hD f K hf hK
    have hG2 : Seg p₀ (kas_rev p' lo (lo + m)) lo (lo + nrem) := hG.rev (Nat.le_refl _) (by (first | lia | omega)) hz
    have hp2 := hp₀.perm hG2.perm
    refine sC_bind (asc_loop (ask := ask) (n := n) O hp2 hm1 hm2 (hD.turn (by rw [hG.size]; (first | lia | omega))) (fun x m Q' a1 a2 a3 => hf _ x m Q' hG2.size hp2 a1 a2 a3) fun m' a1 a2 a3 _ => ?_)
    exact hK m' _ (by (first | lia | omega)) a2 hG2 a3
  refine sC_bind (asc_loop (ask := ask) (n := n) (lo := lo) O hp₀ (Nat.le_refl _) h1 (fun i j a1 a2 a3 => by (first | lia | omega)) ?_ ?_)
  · intro x m Q' a1 a2 hQ
    refine sC_bind (sC_ltAt H hp₀ (by dsimp only; (first | lia | omega)) (by dsimp only; (first | lia | omega)) ?_)
    cases hc : ask (at0 p₀ (lo + m)) (at0 p₀ (lo + m - 1)) with
    | true => rw [hc] at hQ; exact sC_pure hQ
    | false => rw [hc] at hQ; exact sC_pure hQ
  intro m a1 a2 a3 a4
  have desc : ∀ (p : Array Nat), Seg p₀ p lo (lo + nrem) → m + 1 ≤ nrem → DscS ask p lo (m + 1) → ∀ (f : Nat → L3 → StateT SortSt Sem (ForInStep L3)) (K : L3 → StateT SortSt Sem (Option Nat)),
      (∀ x m q (p' : Array Nat) (Q' : ForInStep L3 → SortSt → Prop), 1 ≤ m → m < nrem → p'.size = p₀.size → Small n p' →
        (ask (at0 p' (lo + m)) (at0 p' (lo + m - 1)) = true → Q' (.yield (none, m + 1, 0)) (St κ it (if q > 0 then kas_rev p' (lo + m - (q + 1)) (lo + m) else p') pd g)) →
        (ask (at0 p' (lo + m)) (at0 p' (lo + m - 1)) = false → Q' (if ask (at0 p' (lo + m - 1)) (at0 p' (lo + m)) = true then .done (none, m, q) else .yield (none, m + 1, q + 1)) (St κ it p' pd g)) →
        sC prog w A E s (f x (none, m, q)) Q' (St κ it p' pd g)) →
      (∀ m' q p', m + 1 ≤ m' → m' ≤ nrem → Seg p₀ p' lo (lo + nrem) → DscS ask (if q > 0 then kas_rev p' (lo + m' - (q + 1)) (lo + m') else p') lo m' → Seg p₀ (if q > 0 then kas_rev p' (lo + m' - (q + 1)) (lo + m') else p') lo (lo + nrem) → sC prog w A E s (K (none, m', q)) Q (St κ it p' pd g)) →
      sC prog w A E s (forIn [m + 1:nrem] (none, m + 1, 0) f >>= K) Q (St κ it p pd g) := by
    intro p hG hm hD f K hf hK
    refine sC_bind (desc_loop (ask := ask) (n := n) O hp₀ hz hG (by (first | lia | omega)) hm hD hf fun m' q p' b1 b2 b3 b4 => hK m' q p' b1 b2 b3 ?_ ?_)
    · split
      · exact b4.turn (by rw [b3.size]; (first | lia | omega))
      · exact b4.dsc
    · have := b4.le
      split
      · exact b3.rev (by (first | lia | omega)) (by (first | lia | omega)) hz
      · exact b3
  refine sC_ite (fun hc => ?_) (fun hc => ?_)
  · exact sC_pure (h m p₀ a1 a2 (Seg.refl ..) a3)
  have hm : m < nrem := by have := ne_of_beq hc; dsimp only at this; (first | lia | omega)
  have hx := a4 hm
  refine sC_ite (fun hc1 => ?b1) (fun hc1 => ?b2)
  case' b1 =>
    have hc1 : m > 1 := hc1
    refine sC_bind (sC_ltAt (i := lo) (j := lo + m - 1) H hp₀ (by (first | lia | omega)) (by (first | lia | omega)) ?_)
    refine sC_ite (fun hr => sC_pure (h m p₀ a1 a2 (Seg.refl ..) a3)) (fun hr => ?_)
    have hr' : ask (at0 p₀ lo) (at0 p₀ (lo + m - 1)) = false := by simpa using hr
    refine sC_bind (sC_rev (i := lo) (j := lo + m) ?_)
    have hG : Seg p₀ (kas_rev p₀ lo (lo + m)) lo (lo + nrem) := (Seg.refl ..).rev (Nat.le_refl _) (by (first | lia | omega)) hz
    have all : ∀ i j, lo ≤ i → i < lo + m → lo ≤ j → j < lo + m → ask (at0 p₀ i) (at0 p₀ j) = false := by
      intro i j b1 b2 b3 b4
      have c1 : ask (at0 p₀ lo) (at0 p₀ j) = false := by
        by_cases e : j = lo + m - 1
        · rw [e]; exact hr'
        · exact O.trans _ _ _ (hp₀ _) (hp₀ _) (hp₀ _) (a3 j (lo + m - 1) b3 (by (first | lia | omega)) (by (first | lia | omega))) hr'
      by_cases e : i = lo
      · rw [e]; exact c1
      · exact O.trans _ _ _ (hp₀ _) (hp₀ _) (hp₀ _) c1 (a3 lo i (Nat.le_refl _) (by (first | lia | omega)) (by (first | lia | omega)))
    have hD : DscS ask (kas_rev p₀ lo (lo + m)) lo (m + 1) := by
      refine DscS.snoc O (hp₀.perm (rev_perm ..)) a1 (fun i j b1 b2 b3 => ?_) ?_
      · rw [at_rev (by (first | lia | omega)), at_rev (by (first | lia | omega)), if_pos ⟨b1, by (first | lia | omega)⟩, if_pos ⟨by (first | lia | omega), b3⟩]
        exact all _ _ (by (first | lia | omega)) (by (first | lia | omega)) (by (first | lia | omega)) (by (first | lia | omega))
      · rw [at_rev (by (first | lia | omega)), at_rev (by (first | lia | omega)), if_pos ⟨by (first | lia | omega), by (first | lia | omega)⟩, if_neg (by (first | lia | omega))]
        exact O.trans _ _ _ (hp₀ _) (hp₀ _) (hp₀ _) (O.asymm _ _ (hp₀ _) (hp₀ _) hx) (all _ _ (by (first | lia | omega)) (by (first | lia | omega)) (by (first | lia | omega)) (by (first | lia | omega)))
    clear hr hr' all
    generalize kas_rev p₀ lo (lo + m) = p at hG hD ⊢
  case' b2 =>
    have hc1 : ¬ m > 1 := hc1
    have hm1 : m = 1 := by (first | lia | omega)
    obtain ⟨p, hpp⟩ : ∃ p, p = p₀ := ⟨_, rfl⟩
    have hG : Seg p₀ p lo (lo + nrem) := by rw [hpp]; exact Seg.refl ..
    have hD : DscS ask p lo (m + 1) := by rw [hpp]; exact DscS.snoc O hp₀ a1 (fun i j b1 b2 b3 => by (first | lia | omega)) (O.asymm _ _ (hp₀ _) (hp₀ _) hx)
    rw [← hpp]
  all_goals
    refine sC_rule ?_
    refine desc p hG (by (first | lia | omega)) hD _ _ ?_ ?_
    · intro x m q p' Q' b1 b2 b3 b4 q1 q2
      refine sC_bind (sC_ltAt (i := lo + m) (j := lo + m - 1) H b4 (by (first | lia | omega)) (by (first | lia | omega)) ?_)
      refine sC_ite (fun hc => ?_) (fun hc => ?_)
      · have q1 := q1 hc
        refine sC_ite (fun hq => ?_) (fun hq => ?_)
        · have hq : q > 0 := hq
          rw [if_pos hq] at q1
          exact sC_bind (sC_rev (i := lo + m - (q + 1)) (j := lo + m) (sC_pure q1))
        · have hq : ¬ q > 0 := hq
          rw [if_neg hq] at q1
          exact sC_pure q1
      · have q2 := q2 (by simpa using hc)
        refine sC_bind (sC_ltAt (i := lo + m - 1) (j := lo + m) H b4 (by (first | lia | omega)) (by (first | lia | omega)) ?_)
        refine sC_ite (fun hc => ?_) (fun hc => ?_)
        · rw [if_pos hc] at q2; exact sC_pure q2
        · rw [if_neg hc] at q2; exact sC_pure q2
    · intro m' q p' b1 b2 b3 b4 b5
      refine sC_ite (fun hq => ?_) (fun hq => ?_)
      · have hq : q > 0 := hq
        rw [if_pos hq] at b4 b5
        refine sC_bind (sC_rev (i := lo + m' - (q + 1)) (j := lo + m') ?_)
        refine sC_bind (sC_rev (i := lo) (j := lo + m') ?_)
        refine tail m' _ (by (first | lia | omega)) b2 b5 b4 _ _ ?_ (fun m2 p2 d1 d2 d3 d4 => sC_pure (h m2 p2 d1 d2 d3 d4))
        intro p x m Q' c1 c2 c3 c4 hQ
        refine sC_bind (sC_ltAt (i := lo + m) (j := lo + m - 1) H c2 (by (first | lia | omega)) (by (first | lia | omega)) ?_)
        refine sC_ite (fun hc => ?_) (fun hc => ?_)
        · rw [if_pos hc] at hQ; exact sC_pure hQ
        · rw [if_neg hc] at hQ; exact sC_pure hQ
      · have hq : ¬ q > 0 := hq
        rw [if_neg hq] at b4 b5
        refine sC_bind (sC_rev (i := lo) (j := lo + m') ?_)
        refine tail m' _ (by (first | lia | omega)) b2 b5 b4 _ _ ?_ (fun m2 p2 d1 d2 d3 d4 => sC_pure (h m2 p2 d1 d2 d3 d4))
        intro p x m Q' c1 c2 c3 c4 hQ
        refine sC_bind (sC_ltAt (i := lo + m) (j := lo + m - 1) H c2 (by (first | lia | omega)) (by (first | lia | omega)) ?_)
        refine sC_ite (fun hc => ?_) (fun hc => ?_)
        · rw [if_pos hc] at hQ; exact sC_pure hQ
        · rw [if_neg hc] at hQ; exact sC_pure hQ
end
end

/-! part S12 -/
set_option autoImplicit false
set_option maxRecDepth 100000
set_option linter.unusedVariables false
open PySem PySem.W PyProof.Rows
section
section
variable {prog : Program} {w : World} {A : Around} {E : Value → Shared → Prop} {s : Shared} {κ : SortKind} {it : Array Keyed} {n : Nat} {ask : Nat → Nat → Bool} {pd : Array (Nat × Nat × Nat)} {g : Nat}
theorem at_bubD {p : Array Nat} {src dst : Nat} (hs : src < p.size) (hd : dst ≤ src) (k : Nat) : at0 (bubble p src (src - dst)) k = if k = dst then at0 p src else if dst < k ∧ k ≤ src then at0 p (k - 1) else at0 p k := by
  rw [at_bub hs (by (first | lia | omega)), show src - (src - dst) = dst by (first | lia | omega)]
/-- the one at s laid at d: what is before s stands in order still -/
theorem ins_srt {p : Array Nat} {lo s d : Nat} (O : Ask n ask) (hp : Small n p) (hd0 : lo ≤ d) (hd : d ≤ s) (hs : s < p.size) (hS : ∀ i j, lo ≤ i → i < j → j < s → ask (at0 p j) (at0 p i) = false)
    (a2 : ∀ i, lo ≤ i → i < d → ask (at0 p s) (at0 p i) = false) (a3 : ∀ i, d ≤ i → i < s → ask (at0 p s) (at0 p i) = true) (i j : Nat) (hi : lo ≤ i) (hij : i < j) (hj : j < s + 1) :
    ask (at0 (bubble p s (s - d)) j) (at0 (bubble p s (s - d)) i) = false := by
  rw [at_bubD hs hd, at_bubD hs hd]
  by_cases e1 : i = d
  · rw [if_pos e1, if_neg (by (first | lia | omega)), if_pos ⟨by (first | lia | omega), by (first | lia | omega)⟩]
    exact O.asymm _ _ (hp _) (hp _) (a3 (j - 1) (by (first | lia | omega)) (by (first | lia | omega)))
  · rw [if_neg e1]
    by_cases e2 : j = d
    · rw [if_pos e2, if_neg (by (first | lia | omega))]
      exact a2 i hi (by (first | lia | omega))
    · rw [if_neg e2]
      by_cases e3 : d < i
      · rw [if_pos (c := d < i ∧ i ≤ s) ⟨e3, by (first | lia | omega)⟩, if_pos ⟨by (first | lia | omega), by (first | lia | omega)⟩]
        exact hS _ _ (by (first | lia | omega)) (by (first | lia | omega)) (by (first | lia | omega))
      · rw [if_neg (c := d < i ∧ i ≤ s) (fun h => e3 h.1)]
        by_cases e4 : d < j
        · rw [if_pos ⟨e4, by (first | lia | omega)⟩]
          exact hS _ _ hi (by (first | lia | omega)) (by (first | lia | omega))
        · rw [if_neg (fun h => e4 h.1)]
          exact hS _ _ hi hij (by (first | lia | omega))
theorem bin_for {lo m ok : Nat} {p₀ p : Array Nat} {γ : Type} {f : Nat → Option γ × Unit → StateT SortSt Sem (ForInStep (Option γ × Unit))} {Q : Option γ × Unit → SortSt → Prop} (hok : max ok 1 ≤ m) (hG : Seg p₀ p lo (lo + m)) (hS : SrtS ask p lo (max ok 1))
    (hf : ∀ k p (Q' : ForInStep (Option γ × Unit) → SortSt → Prop), k < m → Seg p₀ p lo (lo + m) → SrtS ask p lo k → (∀ p', Seg p₀ p' lo (lo + m) → SrtS ask p' lo (k + 1) → Q' (.yield (none, ())) (St κ it p' pd g)) → sC prog w A E s (f k (none, ())) Q' (St κ it p pd g))
    (h : ∀ p, Seg p₀ p lo (lo + m) → SrtS ask p lo m → Q (none, ()) (St κ it p pd g)) : sC prog w A E s (forIn [max ok 1:m] (none, ()) f) Q (St κ it p pd g) := by
  refine sC_for (fun k b st => b = (none, ()) ∧ ∃ p, st = St κ it p pd g ∧ Seg p₀ p lo (lo + m) ∧ SrtS ask p lo k) ⟨rfl, p, rfl, hG, hS⟩ ?_ ?_
  · rintro k b st hk1 hk2 ⟨rfl, p, rfl, hG, hS⟩
    exact hf k p _ hk2 hG hS fun p' g' s' => ⟨rfl, p', rfl, g', s'⟩
  · rintro b st ⟨rfl, p, rfl, hG, hS⟩
    rw [Nat.max_eq_right hok] at hS
    exact h p hG hS
theorem binarySort_ok {lo m ok : Nat} {p₀ p : Array Nat} {Q : Bool → SortSt → Prop} (H : AskAt prog w A s κ it n ask) (O : Ask n ask) (hp₀ : Small n p₀) (hz : lo + m ≤ p₀.size) (h1 : 1 ≤ ok) (hok : ok ≤ m) (hG : Seg p₀ p lo (lo + m)) (hs : SrtS ask p lo ok)
    (h : ∀ p, Seg p₀ p lo (lo + m) → SrtS ask p lo m → Q true (St κ it p pd g)) : sC prog w A E s (binarySort' lo m ok) Q (St κ it p pd g) := by
  have e1 : max ok 1 = ok := Nat.max_eq_left h1
  refine sC_bind (bin_for (by rw [e1]; exact hok) hG (by rw [e1]; exact hs) ?_ fun p g' s' => sC_pure (h p g' s'))
  intro k p Q' hk hG hS hQ
  have hp : Small n p := hp₀.perm hG.perm
  have hks : lo + k < p.size := by rw [hG.size]; (first | lia | omega)
  refine sC_bind (bs_loop (B := fun i => !ask (at0 p (lo + k)) (at0 p (lo + i))) (m := k) (fun i j hij hj h => ?_) (fun x lo hi h => if_pos h) ?_ (Nat.zero_le k) (Nat.le_refl k) (fun i h => absurd h (Nat.not_lt_zero i)) (fun i h h' => absurd h' (Nat.not_lt.mpr h)) ?_)
  · have h' : ask (at0 p (lo + k)) (at0 p (lo + j)) = false := by simpa using h
    have := O.trans _ _ _ (hp _) (hp _) (hp _) (hS (lo + i) (lo + j) (by (first | lia | omega)) (by (first | lia | omega)) (by (first | lia | omega))) h'
    simpa using this
  · intro x l r Q' a1 a2 hQ
    dsimp only
    rw [if_neg (Nat.not_le.mpr a1)]
    have e : (l + r) / 2 = l + (r - l) / 2 := by (first | lia | omega)
    rw [← e] at hQ
    have hm : (l + r) / 2 < k := by (first | lia | omega)
    refine sC_bind (sC_ltAt (i := lo + k) (j := lo + (l + r) / 2) H hp hks (by (first | lia | omega)) ?_)
    cases hT : ask (at0 p (lo + k)) (at0 p (lo + (l + r) / 2)) with
    | true => rw [hT] at hQ; exact sC_pure hQ
    | false => rw [hT] at hQ; exact sC_pure hQ
  · intro l hl a2 a3
    have d := Nat.add_le_add_left hl lo
    refine sC_bind (sC_move (k := lo + k) (l := lo + l) (sC_pure (hQ _ ⟨(bubble_perm ..).trans hG.perm, fun i hi => ?_⟩ ?_)))
    · rw [at_bubD hks d, if_neg (by (first | lia | omega)), if_neg (by (first | lia | omega))]
      exact hG.out i hi
    · refine ins_srt (s := lo + k) (d := lo + l) O hp (Nat.le_add_right lo l) d hks hS (fun i h1 h2 => ?_) fun i h1 h2 => ?_
      · have := a2 (i - lo) (by (first | lia | omega))
        rw [Nat.add_sub_cancel' h1] at this
        simpa using this
      · have := a3 (i - lo) (by (first | lia | omega)) (by (first | lia | omega))
        rw [Nat.add_sub_cancel' (by (first | lia | omega))] at this
        simpa using this

/-! a row laid over another -/
noncomputable def layA {α : Type} (p : Array α) (lo : Nat) (o : List α) : Array α := o.zipIdx.foldl (fun a x => a.setIfInBounds (lo + x.2) x.1) p
theorem layA_get {α : Type} (lo : Nat) : ∀ (o : List α) (k : Nat) (p : Array α), lo + k + o.length ≤ p.size → ∀ i, ((o.zipIdx k).foldl (fun a x => a.setIfInBounds (lo + x.2) x.1) p)[i]? = if lo + k ≤ i ∧ i < lo + k + o.length then o[i - (lo + k)]? else p[i]?
  | [], k, p, _, i => by
    rw [if_neg (by simp)]; rfl
  | x :: o, k, p, hz, i => by
    rw [List.zipIdx_cons, List.foldl_cons, layA_get lo o (k + 1) _ (by rw [Array.size_setIfInBounds]; simp only [List.length_cons] at hz; (first | lia | omega))]
    simp only [List.length_cons] at hz ⊢
    by_cases h1 : i = lo + k
    · subst h1
      rw [if_neg (by (first | lia | omega)), if_pos ⟨by (first | lia | omega), by (first | lia | omega)⟩, Array.getElem?_setIfInBounds_self_of_lt (by (first | lia | omega))]
      simp
    · rw [Array.getElem?_setIfInBounds_ne (by (first | lia | omega))]
      by_cases h2 : lo + k ≤ i ∧ i < lo + k + (o.length + 1)
      · rw [if_pos h2, if_pos ⟨by (first | lia | omega), by (first | lia | omega)⟩, show i - (lo + k) = (i - (lo + (k + 1))) + 1 by (first | lia | omega)]
        simp
      · rw [if_neg h2, if_neg (by (first | lia | omega))]
theorem layA_map {α β : Type} (f : α → β) (lo : Nat) : ∀ (o : List (α × Nat)) (p : Array α), ((o.map fun x => (f x.1, x.2)).foldl (fun a x => a.setIfInBounds (lo + x.2) x.1) (p.map f)) = (o.foldl (fun a x => a.setIfInBounds (lo + x.2) x.1) p).map f
  | [], _ => rfl
  | x :: o, p => by
    rw [List.map_cons, List.foldl_cons, List.foldl_cons, ← layA_map f lo o]
    congr 1
    exact (Array.map_setIfInBounds ..).symm
theorem at_layA {p : Array Nat} {lo : Nat} {o : List Nat} (hz : lo + o.length ≤ p.size) (i : Nat) : at0 (layA p lo o) i = if lo ≤ i ∧ i < lo + o.length then (o[i - lo]?).getD 0 else at0 p i := by
  rw [at0_eq]
  unfold layA
  rw [layA_get lo o 0 p (by (first | lia | omega))]
  simp only [Nat.add_zero]
  split
  · rfl
  · rw [at0_eq]
theorem layA_list {p : Array Nat} {lo : Nat} {o : List Nat} (hz : lo + o.length ≤ p.size) : (layA p lo o).toList = p.toList.take lo ++ o ++ p.toList.drop (lo + o.length) := by
  apply List.ext_getElem?
  intro i
  have e := layA_get lo o 0 p (by (first | lia | omega)) i
  simp only [Nat.add_zero] at e
  have e2 : (layA p lo o).toList[i]? = (layA p lo o)[i]? := by simp
  rw [e2]
  unfold layA
  rw [e]
  have hl : p.toList.length = p.size := rfl
  have e3 : p[i]? = p.toList[i]? := by simp
  rw [e3]
  by_cases h1 : i < lo
  · rw [if_neg (by (first | lia | omega)), List.append_assoc, List.getElem?_append_left (by rw [List.length_take]; (first | lia | omega)), List.getElem?_take_of_lt h1]
  · by_cases h2 : i < lo + o.length
    · rw [if_pos ⟨by (first | lia | omega), h2⟩, List.getElem?_append_left (by rw [List.length_append, List.length_take]; (first | lia | omega)), List.getElem?_append_right (by rw [List.length_take]; (first | lia | omega)), List.length_take]
      congr 1
      exact n_sub_len (Nat.le_trans (Nat.le_add_right ..) hz)
    · rw [if_neg (by (first | lia | omega)), List.getElem?_append_right (by rw [List.length_append, List.length_take]; (first | lia | omega)), List.length_append, List.length_take, List.getElem?_drop]
      congr 1
      exact n_drop (Nat.le_trans (Nat.le_add_right ..) hz) h2
end
end

/-! part S13 -/
set_option autoImplicit false
set_option maxRecDepth 100000
set_option linter.unusedVariables false
open PySem PySem.W PyProof.Rows
section
section
variable {prog : Program} {w : World} {A : Around} {E : Value → Shared → Prop} {s : Shared} {κ : SortKind} {it : Array Keyed} {n : Nat} {ask : Nat → Nat → Bool} {pd : Array (Nat × Nat × Nat)} {g : Nat}
theorem sC_set {st st' st'' : SortSt} {Q : PUnit → SortSt → Prop} (e : st' = st'') (h : Q ⟨⟩ st'') : sC prog w A E s (set st') Q st := by
  unfold sC kasC
  subst e
  rw [StateT.run_set]; exact wpAny_pure ⟨rfl, h⟩
theorem sC_modify' {f : SortSt → SortSt} {st st'' : SortSt} {Q : PUnit → SortSt → Prop} (e : f st = st'') (h : Q ⟨⟩ st'') : sC prog w A E s (modify f) Q st := by
  subst e; exact sC_modify h
theorem mono_rS {a : Array Nat} {key base m : Nat} (O : Ask n ask) (ha : ∀ i, at0 a i < n) (hk : key < n) (Sa : SrtS ask a base m) : ∀ i j, i < j → j < m → byd ask false key a base j = true → byd ask false key a base i = true := by
  intro i j h1 h2 h3
  unfold byd at h3 ⊢
  simp only [Bool.false_eq_true, if_false, Bool.not_eq_true'] at h3 ⊢
  exact O.trans _ _ _ (ha _) (ha _) hk (Sa _ _ (by (first | lia | omega)) (by (first | lia | omega)) (by (first | lia | omega))) h3
theorem mono_lS {a : Array Nat} {key base m : Nat} (O : Ask n ask) (ha : ∀ i, at0 a i < n) (hk : key < n) (Sa : SrtS ask a base m) : ∀ i j, i < j → j < m → byd ask true key a base j = true → byd ask true key a base i = true := by
  intro i j h1 h2 h3
  unfold byd at h3 ⊢
  simp only [if_true] at h3 ⊢
  exact O.le_lt (ha _) (ha _) hk (Sa _ _ (by (first | lia | omega)) (by (first | lia | omega)) (by (first | lia | omega))) h3
theorem at_ext {p : Array Nat} {i j k : Nat} (hj : j ≤ p.size) (hk : i + k < j) : at0 (p.extract i j) k = at0 p (i + k) := by
  rw [at0_eq, at0_eq, Array.getElem?_extract_of_lt (by (first | lia | omega)), Array.getElem?_eq_getElem (by (first | lia | omega))]
theorem ext_size {p : Array Nat} {i j : Nat} (hj : j ≤ p.size) : (p.extract i j).size = j - i := by
  rw [Array.size_extract]; (first | lia | omega)
theorem ext_small {p : Array Nat} {i j : Nat} (hp : Small n p) : Small n (p.extract i j) := by
  intro k
  by_cases h : k < (p.extract i j).size
  · rw [Array.size_extract] at h
    rw [at0_eq, Array.getElem?_extract_of_lt (by (first | lia | omega))]
    have := hp (i + k)
    rw [at0_eq, Array.getElem?_eq_getElem (by (first | lia | omega))] at this
    exact this
  · rw [at0_eq, Array.getElem?_eq_none (by (first | lia | omega))]
    have := hp p.size
    rw [at0_eq, Array.getElem?_eq_none (Nat.le_refl _)] at this
    exact this
theorem ext_map {p : Array Nat} {i j : Nat} : (p.map (kas_item it)).extract i j = (p.extract i j).map (kas_item it) := by
  apply Array.ext'
  simp
theorem ext_list {p : Array Nat} {i j : Nat} : (p.extract i j).toList = (p.toList.drop i).take (j - i) := by
  simp [List.extract_eq_take_drop]

/-- the two runs, what stands ahead and behind left as it is -/
theorem join_ok {p p₀ : Array Nat} {na nb k r : Nat} {o : List Nat} (O : Ask n ask) (hp : Small n p) (hP : p.Perm p₀) (hn : na + nb = p.size) (h1 : SrtS ask p 0 na) (h2 : SrtS ask p na nb) (hk : k < na) (hr : 0 < r) (hr2 : r ≤ nb)
    (hA : ∀ i, i < k → ask (at0 p na) (at0 p i) = false) (hB : ∀ i, r ≤ i → i < nb → ask (at0 p (na + i)) (at0 p (na - 1)) = false) (M : MgEnd ask (p.extract k na) (p.extract na (na + r)) o) :
    (layA p k o).Perm p₀ ∧ SrtS ask (layA p k o) 0 (na + nb) := by
  have hl : k + o.length = na + r := by
    have := M.1.length_eq
    have l1 : (p.extract k na).toList.length = na - k := ext_size (p := p) (i := k) (j := na) (by (first | lia | omega))
    have l2 : (p.extract na (na + r)).toList.length = na + r - na := ext_size (p := p) (i := na) (j := na + r) (by (first | lia | omega))
    rw [List.length_append, l1, l2] at this
    (first | lia | omega)
  have hmem : ∀ x ∈ o, (∃ i, k ≤ i ∧ i < na ∧ x = at0 p i) ∨ ∃ i, i < r ∧ x = at0 p (na + i) := by
    intro x hx
    have := M.1.mem_iff.mp hx
    rcases List.mem_append.mp this with h | h
    · obtain ⟨i, hi, e⟩ := mem_take_at (a := p.extract k na) (i := na - k) (by rw [List.take_of_length_le (by rw [Array.length_toList, ext_size (by (first | lia | omega))]; exact Nat.le_refl _)]; exact h)
      exact .inl ⟨k + i, by (first | lia | omega), by (first | lia | omega), by rw [e.2, at_ext (by (first | lia | omega)) (by (first | lia | omega))]⟩
    · obtain ⟨i, hi, e⟩ := mem_take_at (a := p.extract na (na + r)) (i := r) (by rw [List.take_of_length_le (by rw [Array.length_toList, ext_size (by (first | lia | omega))]; (first | lia | omega))]; exact h)
      exact .inr ⟨i, hi, by rw [e.2, at_ext (by (first | lia | omega)) (by (first | lia | omega))]⟩
  refine ⟨?_, ?_⟩
  · refine Array.Perm.trans ?_ hP
    rw [Array.perm_iff_toList_perm, layA_list (by (first | lia | omega))]
    have e1 := M.1
    rw [ext_list, ext_list, show na + r - na = r by (first | lia | omega)] at e1
    have e2 : p.toList = p.toList.take k ++ ((p.toList.drop k).take (na - k) ++ (p.toList.drop na).take r) ++ p.toList.drop (k + o.length) := by
      have c1 : (p.toList.drop k).take (na - k) ++ (p.toList.drop na).take r = (p.toList.drop k).take (na - k + r) := by
        rw [List.take_add, List.drop_drop, show k + (na - k) = na by (first | lia | omega)]
      have hl2 : o.length = na - k + r := by (first | lia | omega)
      rw [c1, hl2, ← List.drop_drop, List.append_assoc, List.take_append_drop, List.take_append_drop]
    conv => rhs; rw [e2]
    exact (List.Perm.append_left _ e1).append_right _
  · intro i j _ hij hj
    rw [at_layA (by (first | lia | omega)), at_layA (by (first | lia | omega))]
    have get : ∀ i, k ≤ i → i < k + o.length → (o[i - k]?).getD 0 ∈ o ∧ o[i - k]? = some ((o[i - k]?).getD 0) := by
      intro i c1 c2
      have : i - k < o.length := by (first | lia | omega)
      rw [List.getElem?_eq_getElem this]
      exact ⟨List.getElem_mem this, rfl⟩
    have hBle : ∀ i, r ≤ i → i < nb → ∀ x ∈ o, ask (at0 p (na + i)) x = false := by
      intro i c1 c2 x hx
      rcases hmem x hx with ⟨j, d1, d2, rfl⟩ | ⟨j, d1, rfl⟩
      · by_cases e : j = na - 1
        · rw [e]; exact hB i c1 c2
        · exact O.trans _ _ _ (hp _) (hp _) (hp _) (h1 j (na - 1) (by (first | lia | omega)) (by (first | lia | omega)) (by (first | lia | omega))) (hB i c1 c2)
      · exact h2 _ _ (by (first | lia | omega)) (by (first | lia | omega)) (by (first | lia | omega))
    by_cases c1 : k ≤ i
    · by_cases c2 : i < k + o.length
      · rw [if_pos (⟨c1, c2⟩ : k ≤ i ∧ i < k + o.length)]
        obtain ⟨g1, g2⟩ := get i c1 c2
        by_cases c3 : j < k + o.length
        · rw [if_pos (⟨by (first | lia | omega), c3⟩ : k ≤ j ∧ j < k + o.length)]
          obtain ⟨g3, g4⟩ := get j (by (first | lia | omega)) c3
          have := List.pairwise_iff_getElem.mp M.2 (i - k) (j - k) (by (first | lia | omega)) (by (first | lia | omega)) (by (first | lia | omega))
          rw [List.getElem?_eq_getElem (by (first | lia | omega)), List.getElem?_eq_getElem (by (first | lia | omega))]
          exact this
        · rw [if_neg (by (first | lia | omega))]
          have := hBle (j - na) (by (first | lia | omega)) (by (first | lia | omega)) _ g1
          rwa [show na + (j - na) = j by (first | lia | omega)] at this
      · rw [if_neg (by (first | lia | omega)), if_neg (by (first | lia | omega))]
        exact h2 _ _ (by (first | lia | omega)) (by (first | lia | omega)) (by (first | lia | omega))
    · rw [if_neg (by (first | lia | omega) : ¬ (k ≤ i ∧ i < k + o.length))]
      have hAle : ∀ x ∈ o, ask x (at0 p i) = false := by
        intro x hx
        rcases hmem x hx with ⟨j, d1, d2, rfl⟩ | ⟨j, d1, rfl⟩
        · exact h1 _ _ (by (first | lia | omega)) (by (first | lia | omega)) (by (first | lia | omega))
        · by_cases e : j = 0
          · rw [e]; exact hA i (by (first | lia | omega))
          · exact O.trans _ _ _ (hp _) (hp _) (hp _) (hA i (by (first | lia | omega))) (h2 na (na + j) (by (first | lia | omega)) (by (first | lia | omega)) (by (first | lia | omega)))
      by_cases c2 : j < k
      · rw [if_neg (by (first | lia | omega))]; exact h1 _ _ (by (first | lia | omega)) hij (by (first | lia | omega))
      · by_cases c3 : j < k + o.length
        · rw [if_pos ⟨by (first | lia | omega), c3⟩]
          exact hAle _ (get j (by (first | lia | omega)) c3).1
        · rw [if_neg (by (first | lia | omega))]
          by_cases e : j = na
          · (first | lia | omega)
          · exact O.trans _ _ _ (hp _) (hp _) (hp _) (hA i (by (first | lia | omega))) (h2 na j (by (first | lia | omega)) (by (first | lia | omega)) (by (first | lia | omega)))

theorem out_layA {p : Array Nat} {o : List Nat} {k : Nat} : (Out it o).toList.zipIdx.foldl (fun (a : Array Keyed) x => a.setIfInBounds (k + x.2) x.1) (p.map (kas_item it)) = (layA p k o).map (kas_item it) := by
  unfold Out layA
  rw [← layA_map (kas_item it) k o.zipIdx p]
  congr 1
  simp only [List.zipIdx_map]
  rfl

theorem mergeAt_ok {na nb pw : Nat} {p₀ p : Array Nat} {Q : Bool → SortSt → Prop} (H : AskAt prog w A s κ it n ask) (O : Ask n ask) (hp₀ : Small n p₀) (hP : p.Perm p₀) (hn : na + nb = p.size) (ha : 1 ≤ na) (hb : 1 ≤ nb) (h1 : SrtS ask p 0 na) (h2 : SrtS ask p na nb)
    (h : ∀ p' g', p'.Perm p₀ → SrtS ask p' 0 (na + nb) → Q true (St κ it p' #[(0, na + nb, pw)] g')) : sC prog w A E s (mergeAt' 0) Q (St κ it p #[(0, na, pw), (na, nb, 0)] g) := by
  have hp : Small n p := hp₀.perm hP
  refine sC_bind (sC_get ?_)
  have ee : ((#[(0, na, pw), (na, nb, 0)] : Array (Nat × Nat × Nat)).setIfInBounds 0 (0, na + nb, pw)).eraseIdxIfInBounds (0 + 1) = #[(0, na + nb, pw)] := by
    apply Array.ext'
    simp [Array.eraseIdxIfInBounds]
  refine sC_bind (sC_set (st'' := St κ it p #[(0, na + nb, pw)] g) (congrArg (fun x => St κ it p x g) ee) ?_)
  refine sC_bind (sC_elem (q := p) (i := na) (by (first | lia | omega)) ?_)
  refine sC_bind (gallop_ok (left := false) (p := p) (pd := #[(0, na + nb, pw)]) (key := at0 p na) (q := p) (base := 0) (m := na) (hint := 0) H (hp _) hp (by (first | lia | omega)) (by (first | lia | omega)) (mono_rS O hp (hp _) h1) ?_)
  intro k hk hT hN
  have hA : ∀ i, i < k → ask (at0 p na) (at0 p i) = false := fun i hi => by have := byd_r (hT i hi); rwa [Nat.zero_add] at this
  have hA2 : ∀ i, k ≤ i → i < na → ask (at0 p na) (at0 p i) = true := fun i hi hi2 => by have := byd_r (hN i hi hi2); rwa [Nat.zero_add] at this
  refine sC_ite (fun hc => ?_) (fun hc => ?_)
  · have hc : (na - k == 0) = true := hc
    have hk0 : na - k = 0 := eq_of_beq hc
    refine sC_pure (h p g hP fun i j _ hij hj => ?_)
    by_cases c1 : j < na
    · exact h1 i j (by (first | lia | omega)) hij (by (first | lia | omega))
    · by_cases c2 : na ≤ i
      · exact h2 i j c2 hij (by (first | lia | omega))
      · by_cases e : j = na
        · rw [e]; exact hA i (by (first | lia | omega))
        · exact O.trans _ _ _ (hp _) (hp _) (hp _) (hA i (by (first | lia | omega))) (h2 na j (by (first | lia | omega)) (by (first | lia | omega)) (by (first | lia | omega)))
  have hc : ¬ (na - k == 0) = true := hc
  have hk0 : k < na := by have := ne_of_beq hc; (first | lia | omega)
  have ei : 0 + k + (na - k) - 1 = na - 1 := by (first | lia | omega)
  refine sC_bind (sC_elem (q := p) (i := 0 + k + (na - k) - 1) (by (first | lia | omega)) ?_)
  rw [ei]
  clear ei
  refine sC_bind (gallop_ok (left := true) (p := p) (pd := #[(0, na + nb, pw)]) (key := at0 p (na - 1)) (q := p) (base := na) (m := nb) (hint := nb - 1) H (hp _) hp (by (first | lia | omega)) (by (first | lia | omega)) (mono_lS O hp (hp _) h2) ?_)
  intro r hr hT2 hN2
  have hB : ∀ i, i < r → ask (at0 p (na + i)) (at0 p (na - 1)) = true := fun i hi => byd_l (hT2 i hi)
  have hB2 : ∀ i, r ≤ i → i < nb → ask (at0 p (na + i)) (at0 p (na - 1)) = false := fun i hi hi2 => byd_l (hN2 i hi hi2)
  have hr0 : r ≠ 0 := fun e => by have := hB2 0 (by (first | lia | omega)) (by (first | lia | omega)); rw [Nat.add_zero, hA2 (na - 1) (by (first | lia | omega)) (by (first | lia | omega))] at this; cases this
  refine sC_ite (fun hc => ?_) (fun _ => ?_)
  · have hc : (r == 0) = true := hc
    exact absurd (eq_of_beq hc) hr0
  have hr0 : 0 < r := Nat.pos_of_ne_zero hr0
  have G : Good2 κ it p #[(0, na + nb, pw)] ask (p.extract k na) (p.extract na (na + r)) (fun m st => ∃ o g', m = Out it o ∧ st = St κ it p #[(0, na + nb, pw)] g' ∧ MgEnd ask (p.extract k na) (p.extract na (na + r)) o) := fun o g' M => ⟨o, g', rfl, rfl, M⟩
  have sx : (p.extract k na).size = na - k := ext_size (by (first | lia | omega))
  have sy : (p.extract na (na + r)).size = r := by rw [ext_size (by (first | lia | omega))]; (first | lia | omega)
  have Sx : SrtA ask (p.extract k na) := fun i j hij hj => by
    rw [sx] at hj
    rw [at_ext (by (first | lia | omega)) (by (first | lia | omega)), at_ext (by (first | lia | omega)) (by (first | lia | omega))]
    exact h1 _ _ (by (first | lia | omega)) (by (first | lia | omega)) (by (first | lia | omega))
  have Sy : SrtA ask (p.extract na (na + r)) := fun i j hij hj => by
    rw [sy] at hj
    rw [at_ext (by (first | lia | omega)) (by (first | lia | omega)), at_ext (by (first | lia | omega)) (by (first | lia | omega))]
    exact h2 _ _ (by (first | lia | omega)) (by (first | lia | omega)) (by (first | lia | omega))
  have fin : ∀ (m : Array Keyed) (st : SortSt), (∃ o g', m = Out it o ∧ st = St κ it p #[(0, na + nb, pw)] g' ∧ MgEnd ask (p.extract k na) (p.extract na (na + r)) o) →
      ∃ st'', setArr st (m.toList.zipIdx.foldl (fun (a : Array Keyed) x => a.setIfInBounds (0 + k + x.2) x.1) (arrOf st)) = st'' ∧ ∃ g' p', st'' = St κ it p' #[(0, na + nb, pw)] g' ∧ p'.Perm p₀ ∧ SrtS ask p' 0 (na + nb) := by
    rintro m st ⟨o, g', rfl, rfl, M⟩
    obtain ⟨j1, j2⟩ := join_ok O hp hP hn h1 h2 hk0 hr0 hr hA hB2 M
    refine ⟨_, ?_, g', _, rfl, j1, j2⟩
    show setArr (St κ it p #[(0, na + nb, pw)] g') ((Out it o).toList.zipIdx.foldl (fun (a : Array Keyed) x => a.setIfInBounds (0 + k + x.2) x.1) (p.map (kas_item it))) = St κ it (layA p k o) #[(0, na + nb, pw)] g'
    rw [Nat.zero_add, out_layA]; rfl
  have e1 : ((p.map (kas_item it)).extract (0 + k) na) = (p.extract k na).map (kas_item it) := by rw [Nat.zero_add, ext_map]
  have e2 : ((p.map (kas_item it)).extract na (na + r)) = (p.extract na (na + r)).map (kas_item it) := ext_map
  have lo_ok : sC prog w A E s (mergeLo' ((p.map (kas_item it)).extract (0 + k) na) ((p.map (kas_item it)).extract na (na + r))) (fun m st => ∃ o g', m = Out it o ∧ st = St κ it p #[(0, na + nb, pw)] g' ∧ MgEnd ask (p.extract k na) (p.extract na (na + r)) o) (St κ it p #[(0, na + nb, pw)] g) := by
    rw [e1, e2]
    refine mergeLo_ok H O (ext_small hp) (ext_small hp) Sx Sy (by rw [sx]; (first | lia | omega)) (by rw [sy]; exact hr0) ?_ ?_ G
    · rw [at_ext (by (first | lia | omega)) (by (first | lia | omega)), at_ext (by (first | lia | omega)) (by (first | lia | omega))]
      exact hA2 _ (by (first | lia | omega)) (by (first | lia | omega))
    · intro i hi
      rw [sx, at_ext (by (first | lia | omega)) (by (first | lia | omega)), at_ext (by (first | lia | omega)) (by (first | lia | omega)), show k + (na - k - 1) = na - 1 by (first | lia | omega)]
      exact hB i (by (first | lia | omega))
  have hi_ok : sC prog w A E s (mergeHi' ((p.map (kas_item it)).extract (0 + k) na) ((p.map (kas_item it)).extract na (na + r))) (fun m st => ∃ o g', m = Out it o ∧ st = St κ it p #[(0, na + nb, pw)] g' ∧ MgEnd ask (p.extract k na) (p.extract na (na + r)) o) (St κ it p #[(0, na + nb, pw)] g) := by
    rw [e1, e2]
    refine mergeHi_ok H O (ext_small hp) (ext_small hp) Sx Sy (by rw [sx]; (first | lia | omega)) (by rw [sy]; exact hr0) ?_ ?_ G
    · intro i hi
      rw [at_ext (by (first | lia | omega)) (by (first | lia | omega)), at_ext (by (first | lia | omega)) (by (first | lia | omega))]
      exact hA2 _ (by (first | lia | omega)) (by (first | lia | omega))
    · rw [sx, sy, at_ext (by (first | lia | omega)) (by (first | lia | omega)), at_ext (by (first | lia | omega)) (by (first | lia | omega)), show k + (na - k - 1) = na - 1 by (first | lia | omega)]
      exact hB _ (by (first | lia | omega))
  refine sC_ite (fun _ => ?_) (fun _ => ?_)
  · refine sC_bind (sC_mono lo_ok fun m st hm => ?_)
    obtain ⟨st'', e, g', p', rfl, q1, q2⟩ := fin m st hm
    exact sC_bind (sC_modify' e (sC_bind (sC_get (sC_pure (h p' g' q1 q2)))))
  · refine sC_bind (sC_mono hi_ok fun m st hm => ?_)
    obtain ⟨st'', e, g', p', rfl, q1, q2⟩ := fin m st hm
    exact sC_bind (sC_modify' e (sC_bind (sC_get (sC_pure (h p' g' q1 q2)))))
end
end

/-! part S14 -/
set_option autoImplicit false
set_option maxRecDepth 100000
set_option linter.unusedVariables false
open PySem PySem.W PyProof.Rows
section
section
variable {prog : Program} {w : World} {A : Around} {E : Value → Shared → Prop} {s : Shared} {κ : SortKind} {it : Array Keyed} {n : Nat} {ask : Nat → Nat → Bool} {g : Nat}
theorem minRun_small {N : Nat} (h0 : 1 ≤ N) (h1 : N < 64) : minRun' N N 0 = N := by
  obtain ⟨f, rfl⟩ : ∃ f, N = f + 1 := ⟨N - 1, by (first | lia | omega)⟩
  rw [minRun'_succ, if_pos h1]
theorem minRun_eq {N : Nat} (h1 : 64 ≤ N) (h2 : N < 128) : minRun' N N 0 = N / 2 + N % 2 := by
  obtain ⟨f, rfl⟩ : ∃ f, N = f + 1 + 1 := ⟨N - 2, by (first | lia | omega)⟩
  have e1 : minRun' (f + 1 + 1) (f + 1 + 1) 0 = minRun' (f + 1) ((f + 1 + 1) / 2) (max 0 ((f + 1 + 1) % 2)) := by
    rw [minRun'_succ, if_neg (by (first | lia | omega))]
  rw [e1, minRun'_succ, if_pos (by (first | lia | omega))]
  (first | lia | omega)
/-- one run is there; two runs are there; all is one run -/
noncomputable def R1 (κ : SortKind) (it : Array Keyed) (ask : Nat → Nat → Bool) (p₀ : Array Nat) (g n1 : Nat) (st : SortSt) : Prop := ∃ p, st = St κ it p #[(0, n1, 0)] g ∧ p.Perm p₀ ∧ SrtS ask p 0 n1
noncomputable def R2 (κ : SortKind) (it : Array Keyed) (ask : Nat → Nat → Bool) (p₀ : Array Nat) (g N : Nat) (st : SortSt) : Prop := ∃ p n1 n2 pw, st = St κ it p #[(0, n1, pw), (n1, n2, 0)] g ∧ p.Perm p₀ ∧ SrtS ask p 0 n1 ∧ SrtS ask p n1 n2 ∧ n1 + n2 = N ∧ 1 ≤ n1 ∧ 1 ≤ n2
noncomputable def R3 (κ : SortKind) (it : Array Keyed) (ask : Nat → Nat → Bool) (p₀ : Array Nat) (N : Nat) (st : SortSt) : Prop := ∃ p m g, st = St κ it p #[m] g ∧ p.Perm p₀ ∧ SrtS ask p 0 N
theorem runs_for {N M : Nat} {p₀ : Array Nat} {f : Nat → Option Unit × Nat → StateT SortSt Sem (ForInStep (Option Unit × Nat))} {Q : Option Unit × Nat → SortSt → Prop} (h2 : 2 ≤ N)
    (s0 : sC prog w A E s (f 0 (none, 0)) (fun r st => ∃ n1, r = .yield (none, n1) ∧ M ≤ n1 ∧ n1 ≤ N ∧ R1 κ it ask p₀ g n1 st) (St κ it p₀ #[] g))
    (s1 : ∀ n1 p, M ≤ n1 → n1 ≤ N → p.Perm p₀ → SrtS ask p 0 n1 → sC prog w A E s (f 1 (none, n1)) (fun r st => (r = .done (none, N) ∧ R1 κ it ask p₀ g N st) ∨ (r = .yield (none, N) ∧ R2 κ it ask p₀ g N st)) (St κ it p #[(0, n1, 0)] g))
    (s2 : ∀ st, sC prog w A E s (f 2 (none, N)) (fun r st' => r = .done (none, N) ∧ st' = st) st) (h : ∀ st, R1 κ it ask p₀ g N st ∨ R2 κ it ask p₀ g N st → Q (none, N) st) : sC prog w A E s (forIn [:N] (none, 0) f) Q (St κ it p₀ #[] g) := by
  refine sC_for (fun j b st => (j = 0 ∧ b = (none, 0) ∧ st = St κ it p₀ #[] g) ∨ (j = 1 ∧ ∃ n1, b = (none, n1) ∧ M ≤ n1 ∧ n1 ≤ N ∧ R1 κ it ask p₀ g n1 st) ∨ (j = 2 ∧ b = (none, N) ∧ R2 κ it ask p₀ g N st)) (.inl ⟨rfl, rfl, rfl⟩) ?_ ?_
  · rintro j b st _ hj (⟨rfl, rfl, rfl⟩ | ⟨rfl, n1, rfl, a1, a2, p, rfl, hP, hS⟩ | ⟨rfl, rfl, hr⟩)
    · refine sC_mono s0 ?_
      rintro r st ⟨n1, rfl, a1, a2, a3⟩
      exact .inr (.inl ⟨rfl, n1, rfl, a1, a2, a3⟩)
    · refine sC_mono (s1 n1 p a1 a2 hP hS) ?_
      rintro r st (⟨rfl, hr⟩ | ⟨rfl, hr⟩)
      · exact h st (.inl hr)
      · exact .inr (.inr ⟨rfl, rfl, hr⟩)
    · refine sC_mono (s2 st) ?_
      rintro r st' ⟨rfl, rfl⟩
      exact h _ (.inr hr)
  · rintro b st (⟨hj, _⟩ | ⟨hj, _⟩ | ⟨hj, rfl, hr⟩)
    · (first | lia | omega)
    · (first | lia | omega)
    · exact h st (.inr hr)
theorem merge_for {N : Nat} {p₀ : Array Nat} {f : Nat → Option Unit × Unit → StateT SortSt Sem (ForInStep (Option Unit × Unit))} {Q : Option Unit × Unit → SortSt → Prop} {st₀ : SortSt} (h2 : 2 ≤ N) (h0 : R1 κ it ask p₀ g N st₀ ∨ R2 κ it ask p₀ g N st₀)
    (s1 : ∀ j p m g, sC prog w A E s (f j (none, ())) (fun r st => r = .done (none, ()) ∧ st = St κ it p #[m] g) (St κ it p #[m] g))
    (s0 : ∀ p n1 n2 pw, p.Perm p₀ → SrtS ask p 0 n1 → SrtS ask p n1 n2 → n1 + n2 = N → 1 ≤ n1 → 1 ≤ n2 → sC prog w A E s (f 0 (none, ())) (fun r st => r = .yield (none, ()) ∧ R3 κ it ask p₀ N st) (St κ it p #[(0, n1, pw), (n1, n2, 0)] g))
    (h : ∀ st, R3 κ it ask p₀ N st → Q (none, ()) st) : sC prog w A E s (forIn [:N] (none, ()) f) Q st₀ := by
  refine sC_for (fun j b st => b = (none, ()) ∧ (R3 κ it ask p₀ N st ∨ (j = 0 ∧ R2 κ it ask p₀ g N st))) ⟨rfl, ?_⟩ ?_ ?_
  · rcases h0 with ⟨p, e, q1, q2⟩ | hb
    · exact .inl ⟨p, _, g, e, q1, q2⟩
    · exact .inr ⟨rfl, hb⟩
  · rintro j b st _ hj ⟨rfl, ⟨p, m, g, rfl, hP, hS⟩ | ⟨rfl, p, n1, n2, pw, rfl, hP, hS1, hS2, e, c1, c2⟩⟩
    · refine sC_mono (s1 j p m g) ?_
      rintro r st ⟨rfl, rfl⟩
      exact h _ ⟨p, m, g, rfl, hP, hS⟩
    · refine sC_mono (s0 p n1 n2 pw hP hS1 hS2 e c1 c2) ?_
      rintro r st ⟨rfl, h3⟩
      exact ⟨rfl, .inl h3⟩
  · rintro b st ⟨rfl, h3 | ⟨hj, _⟩⟩
    · exact h st h3
    · (first | lia | omega)
theorem R2.of {N n1 : Nat} {p₀ p q : Array Nat} {pw : Nat} (hP : p.Perm p₀) (hS : SrtS ask p 0 n1) (hG : Seg p q n1 (n1 + (N - n1))) (hS2 : SrtS ask q n1 (N - n1)) (h1 : 1 ≤ n1) (h2 : n1 < N) : R2 κ it ask p₀ g N (St κ it q #[(0, n1, pw), (n1, N - n1, 0)] g) :=
  ⟨q, n1, N - n1, pw, rfl, hG.perm.trans hP, fun i j c1 c2 c3 => by rw [hG.out i (by (first | lia | omega)), hG.out j (by (first | lia | omega))]; exact hS i j c1 c2 c3, hS2, by (first | lia | omega), h1, by (first | lia | omega)⟩

theorem sortRuns_ok {N : Nat} {p₀ : Array Nat} {Q : Unit → SortSt → Prop} (H : AskAt prog w A s κ it n ask) (O : Ask n ask) (hp₀ : Small n p₀) (hN : p₀.size = N) (h2 : 2 ≤ N) (h128 : N < 128)
    (h : ∀ p' pd g, p'.Perm p₀ → SrtS ask p' 0 N → Q () (St κ it p' pd g)) : sC prog w A E s sortRuns' Q (St κ it p₀ #[] g) := by
  have hsz : (arrOf (St κ it p₀ #[] g)).size = N := by show (p₀.map (kas_item it)).size = N; rw [Array.size_map, hN]
  have hM : N ≤ 2 * minRun' N N 0 ∧ minRun' N N 0 ≤ N := by
    by_cases h64 : N < 64
    · rw [minRun_small (by (first | lia | omega)) h64]; (first | lia | omega)
    · rw [minRun_eq (by (first | lia | omega)) h128]; (first | lia | omega)
  have hM1 := hM.1
  have hM2 := hM.2
  refine sC_bind (sC_get ?_)
  rw [hsz]
  refine sC_bind (runs_for (M := minRun' N N 0) (ask := ask) h2 ?_ ?_ ?_ ?_)
  · refine sC_ite (fun hc => ?_) (fun _ => ?_)
    · have hc : (0 : Nat) ≥ N := hc
      (first | lia | omega)
    refine sC_bind (countRun_ok (p₀ := p₀) (lo := 0) (nrem := N - 0) H O hp₀ (by (first | lia | omega)) (by (first | lia | omega)) ?_)
    intro m p b1 b2 hG hS
    refine sC_ite (fun hc => ?_) (fun hc => ?_)
    · have hc : m < (minRun' N N 0) := hc
      refine sC_rule ?_
      refine sC_bind (binarySort_ok (p₀ := p) (lo := 0) (m := min (N - 0) (minRun' N N 0)) H O (hp₀.perm hG.perm) (by rw [hG.size]; (first | lia | omega)) b1 (by (first | lia | omega)) (Seg.refl ..) hS ?_)
      intro p' hG' hS'
      refine sC_ite (fun hc => by cases hc) (fun _ => ?_)
      refine sC_bind (sC_get ?_)
      refine sC_bind (sC_modify' (st'' := St κ it p' #[(0, min (N - 0) (minRun' N N 0), 0)] g) rfl ?_)
      exact sC_pure ⟨min (N - 0) (minRun' N N 0), congrArg (fun x => ForInStep.yield (none, x)) (Nat.zero_add _), by (first | lia | omega), by (first | lia | omega), p', rfl, hG'.perm.trans hG.perm, hS'⟩
    · have hc : ¬ m < (minRun' N N 0) := hc
      refine sC_bind (sC_get ?_)
      refine sC_bind (sC_modify' (st'' := St κ it p #[(0, m, 0)] g) rfl ?_)
      exact sC_pure ⟨m, congrArg (fun x => ForInStep.yield (none, x)) (Nat.zero_add _), by (first | lia | omega), by (first | lia | omega), p, rfl, hG.perm, hS⟩
  · intro n1 p a1 a2 hP hS
    refine sC_ite (fun hc => ?_) (fun hc => ?_)
    · have hc : n1 ≥ N := hc
      have e : n1 = N := by (first | lia | omega)
      exact sC_pure (.inl ⟨congrArg (fun x => ForInStep.done (none, x)) e, p, by rw [e], hP, e ▸ hS⟩)
    have hc : ¬ n1 ≥ N := hc
    have hp : Small n p := hp₀.perm hP
    have hz := hP.size_eq
    have hN1 : n1 + (N - n1) = N := by (first | lia | omega)
    refine sC_bind (countRun_ok (p₀ := p) (lo := n1) (nrem := N - n1) H O hp (by (first | lia | omega)) (by (first | lia | omega)) ?_)
    intro m p1 b1 b2 hG hS1
    have fin : ∀ (q : Array Nat) (f : Nat → Option Unit × Unit → StateT SortSt Sem (ForInStep (Option Unit × Unit))) (α : Type) (K : Option Unit × Unit → StateT SortSt Sem α) (Q2 : α → SortSt → Prop),
        (∀ j Q', Q' (.done (none, ())) (St κ it q #[(0, n1, 0)] g) → sC prog w A E s (f j (none, ())) Q' (St κ it q #[(0, n1, 0)] g)) → sC prog w A E s (K (none, ())) Q2 (St κ it q #[(0, n1, 0)] g) →
        sC prog w A E s (forIn [:N] (none, ()) f >>= K) Q2 (St κ it q #[(0, n1, 0)] g) := by
      intro q f α K Q2 hf hK
      refine sC_bind (sC_for (fun _ b st => b = (none, ()) ∧ st = St κ it q #[(0, n1, 0)] g) ⟨rfl, rfl⟩ ?_ ?_)
      · rintro j b st _ _ ⟨rfl, rfl⟩
        exact hf j _ hK
      · rintro b st ⟨rfl, rfl⟩
        exact hK
    refine sC_ite (fun hc => ?_) (fun hc => ?_)
    · have hc : m < (minRun' N N 0) := hc
      refine sC_rule ?_
      have ef : min (N - n1) (minRun' N N 0) = N - n1 := by (first | lia | omega)
      refine sC_bind (binarySort_ok (p₀ := p1) (lo := n1) (m := min (N - n1) (minRun' N N 0)) H O (hp.perm hG.perm) (by rw [hG.size]; (first | lia | omega)) b1 (by (first | lia | omega)) (Seg.refl ..) hS1 ?_)
      intro p' hG' hS'
      rw [ef] at hG' hS'
      refine sC_ite (fun hc => by cases hc) (fun _ => ?_)
      refine sC_bind (sC_get ?_)
      refine fin p' _ _ _ _ (fun _ _ q => sC_bind (sC_get (sC_pure q))) ?_
      refine sC_bind (sC_modify' (st'' := St κ it p' #[(0, n1, _)] g) rfl ?_)
      refine sC_bind (sC_modify' (st'' := St κ it p' #[(0, n1, _), (n1, min (N - n1) (minRun' N N 0), 0)] g) rfl ?_)
      refine sC_pure (.inr ⟨congrArg (fun x => ForInStep.yield (none, x)) (show n1 + min (N - n1) (minRun' N N 0) = N by rw [ef, hN1]), ?_⟩)
      rw [ef]
      exact R2.of hP hS (hG.trans hG') hS' (by (first | lia | omega)) (by (first | lia | omega))
    · have hc : ¬ m < (minRun' N N 0) := hc
      have em : m = N - n1 := by (first | lia | omega)
      refine sC_bind (sC_get ?_)
      refine fin p1 _ _ _ _ (fun _ _ q => sC_bind (sC_get (sC_pure q))) ?_
      refine sC_bind (sC_modify' (st'' := St κ it p1 #[(0, n1, _)] g) rfl ?_)
      refine sC_bind (sC_modify' (st'' := St κ it p1 #[(0, n1, _), (n1, m, 0)] g) rfl ?_)
      refine sC_pure (.inr ⟨congrArg (fun x => ForInStep.yield (none, x)) (show n1 + m = N by (first | lia | omega)), ?_⟩)
      rw [em] at hS1 ⊢
      exact R2.of hP hS hG hS1 (by (first | lia | omega)) (by (first | lia | omega))
  · intro st
    refine sC_ite (fun hc => sC_pure ⟨rfl, rfl⟩) (fun hc => ?_)
    have hc : ¬ N ≥ N := hc
    (first | lia | omega)
  · intro st hst
    refine sC_bind (merge_for (ask := ask) h2 hst ?_ ?_ ?_)
    · intro j p m g
      refine sC_bind (sC_get ?_)
      refine sC_ite (fun _ => sC_pure ⟨rfl, rfl⟩) (fun hc => ?_)
      exact absurd (Nat.le_refl 1) hc
    · intro p n1 n2 pw hP hS1 hS2 e c1 c2
      refine sC_bind (sC_get ?_)
      refine sC_ite (fun hc => ?_) (fun _ => ?_)
      · have hc : (2 : Nat) ≤ 1 := hc
        (first | lia | omega)
      refine sC_bind (mergeAt_ok (p₀ := p₀) H O hp₀ hP (by rw [hP.size_eq]; (first | lia | omega)) c1 c2 hS1 hS2 ?_)
      intro p' g' q1 q2
      refine sC_ite (fun hc => by cases hc) (fun _ => ?_)
      exact sC_pure ⟨rfl, p', _, g', rfl, q1, e ▸ q2⟩
    · rintro st ⟨p, m, g, rfl, hP, hS⟩
      exact sC_pure (h p _ g hP hS)
end
end

/-! part S15 -/
set_option autoImplicit false
set_option maxRecDepth 100000
set_option linter.unusedVariables false
open PySem PySem.W PyProof.Rows
section
section
variable {prog : Program} {w : World} {A : Around} {E : Value → Shared → Prop} {s : Shared}
noncomputable def outP (vs : List Value) (p : List Nat) : List Value := p.map fun i => vs.getD i Value.none
theorem small_range (n : Nat) (h : 0 < n) : Small n (List.toArray (List.range n)) := by
  intro k
  rw [at0_eq]
  by_cases hk : k < n <;> simp [hk] <;> (first | lia | omega)
theorem srt_list {ask : Nat → Nat → Bool} {p : Array Nat} (h : SrtS ask p 0 p.size) : p.toList.Pairwise (LeA ask) := by
  rw [List.pairwise_iff_getElem]
  intro i j hi hj hij
  have hi' : i < p.size := hi
  have hj' : j < p.size := hj
  have := h i j (by (first | lia | omega)) hij (by (first | lia | omega))
  rw [at0_eq, at0_eq] at this
  show ask p.toList[j] p.toList[i] = false
  simpa [hi', hj'] using this
theorem sort_N {a : Addr} {vs : List Value} {n : Nat} {κ : SortKind} {ask : Nat → Nat → Bool} {P : PySem.Fin → Shared → Prop} (ho : s.heap.get? a = some (seqObj "list" vs.toArray n)) (h2 : 2 ≤ vs.length) (h128 : vs.length < 128)
    (hκ : ∀ Q : SortKind → Shared → Prop, Q κ { s with heap := midHeap s.heap a vs } → wpAny (model prog w) A (keyKind' vs.toArray) Q E { s with heap := midHeap s.heap a vs })
    (hA : Ask vs.length ask) (hcmp : ∀ i j (C : Bool → Shared → Prop), i < vs.length → j < vs.length → C (ask i j) { s with heap := midHeap s.heap a vs } → kas_ask prog w A κ vs i j C { s with heap := midHeap s.heap a vs })
    (h : ∀ p : List Nat, p.Perm (List.range vs.length) → p.Pairwise (LeA ask) → P (.done (.ret .none)) { s with heap := sortedHeap s.heap a vs (outP vs p).toArray }) :
    wpAny (model prog w) A (Builtin.«list.sort» ⟨[.ref a], []⟩) P E s := by
  rw [list_sort_plain]
  have ha : a < s.heap.objs.size := Heap.lt_size ho
  refine wpAny_bind (listItems_at ho rfl ?_)
  refine wpAny_bind (listUpdate_at ho rfl ?_ (by rw [List.size_toArray, sizeLine_eq]; (first | lia | omega)) (Nat.zero_le _))
  obtain ⟨e1, ho1⟩ : ∃ e1, (s.heap.update a (Obj.mapSeq fun _ => (#[] : Array Value))).get? a = some (seqObj "list" #[] e1) := ⟨_, get?_update_seq ho (fun _ => #[])⟩
  refine wpAny_bind (seqEpoch_at ho1 rfl ?_)
  refine wpAny_bind (wpAny_newTuple ?_ (by show vs.length ≤ _; rw [sizeLine_eq]; (first | lia | omega)))
  refine wpAny_bind (wpAny_newList ?_ (Nat.zero_le _))
  refine wpAny_holding ?_
  have ho6 : (midHeap s.heap a vs).get? a = some (seqObj "list" #[] e1) := by
    unfold midHeap
    rw [Heap.get?_push_ne _ _ _ (by rw [size_push', Heap.size_update]; exact Nat.ne_of_lt (Nat.lt_succ_of_lt ha)), Heap.get?_push_ne _ _ _ (by rw [Heap.size_update]; exact Nat.ne_of_lt ha)]
    exact ho1
  show wpAny (model prog w) A _ P E { s with heap := midHeap s.heap a vs }
  dsimp only
  have hn2 : ¬ vs.toArray.size < 2 := by rw [List.size_toArray]; (first | lia | omega)
  rw [if_neg hn2, if_neg hn2]
  refine wpAny_bind (hκ _ ?_)
  have est : SortSt.mk' κ (vs.toArray.zip vs.toArray) #[] 7 none = St κ (pairsOf vs) (List.toArray (List.range vs.length)) #[] 7 := by
    have e := kas_range (pairsOf vs)
    rw [pairsOf_size] at e
    show SortSt.mk' κ (pairsOf vs) #[] 7 none = SortSt.mk' κ ((List.toArray (List.range vs.length)).map (kas_item (pairsOf vs))) #[] 7 none
    rw [e]
  have hsr : (List.toArray (List.range vs.length)).size = vs.length := by simp
  have hAsk : AskAt prog w A { s with heap := midHeap s.heap a vs } κ (pairsOf vs) vs.length ask := fun i j hi hj C hC => by have := hcmp i j C hi hj hC; rw [kas_ask_eq] at this; exact this
  have run : sC prog w A E { s with heap := midHeap s.heap a vs } sortRuns' (fun _ st' => ∃ p : Array Nat, p.toList.Perm (List.range vs.length) ∧ p.toList.Pairwise (LeA ask) ∧ arrOf st' = p.map (kas_item (pairsOf vs)) ∧ failedOf st' = none) (St κ (pairsOf vs) (List.toArray (List.range vs.length)) #[] 7) :=
    sortRuns_ok hAsk hA (small_range _ (by (first | lia | omega))) hsr h2 h128 fun p' pd g q1 q2 => ⟨p', by simpa using Array.perm_iff_toList_perm.mp q1, srt_list (by rw [q1.size_eq, hsr]; exact q2), rfl, rfl⟩
  rw [← est] at run
  refine wpAny_bind (wpAny_mono run ?_ fun _ _ e => e)
  rintro ⟨⟨⟩, st'⟩ s' ⟨rfl, p, hp, hq, har, hf⟩
  dsimp only
  have hout : (arrOf st').map (·.2) = (outP vs p.toList).toArray := by
    apply Array.toList_inj.mp
    rw [har, Array.map_map, Array.toList_map]
    exact List.map_congr_left fun i _ => by show (kas_item (pairsOf vs) i).2 = _; rw [kas_item_eq]
  rw [hout]
  have hsz : (outP vs p.toList).toArray.size = vs.length := by rw [List.size_toArray]; unfold outP; rw [List.length_map, hp.length_eq, List.length_range]
  refine wpAny_bind (seqEpoch_at ho6 rfl ?_)
  refine wpAny_bind (listUpdate_at ho6 rfl ?_ (Nat.zero_le _) (by rw [hsz, sizeLine_eq]; (first | lia | omega)))
  rw [hf]
  simp only [bne_self_eq_false, Bool.false_eq_true, if_false]
  exact wpAny_pure (h p.toList hp hq)

theorem sorted_N {l : Addr} {vs : List Value} {κ : SortKind} {ask : Nat → Nat → Bool} {Q : Value → Shared → Prop} (hl : s.heap.IsList l vs.toArray) (h2 : 2 ≤ vs.length) (h128 : vs.length < 128)
    (hκ : ∀ A' E' (Q : SortKind → Shared → Prop), Q κ { s with heap := midHeap (colHeap s.heap vs) (s.heap.objs.size + 1) vs } → wpAny (model prog w) A' (keyKind' vs.toArray) Q E' { s with heap := midHeap (colHeap s.heap vs) (s.heap.objs.size + 1) vs })
    (hA : Ask vs.length ask) (hcmp : ∀ A' i j (C : Bool → Shared → Prop), i < vs.length → j < vs.length → C (ask i j) { s with heap := midHeap (colHeap s.heap vs) (s.heap.objs.size + 1) vs } → kas_ask prog w A' κ vs i j C { s with heap := midHeap (colHeap s.heap vs) (s.heap.objs.size + 1) vs })
    (h : ∀ p : List Nat, p.Perm (List.range vs.length) → p.Pairwise (LeA ask) → Q (.ref (s.heap.objs.size + 1)) { s with heap := sortedAll s.heap vs (outP vs p).toArray }) :
    wpAny (model prog w) A (call (.builtin "sorted") [.ref l]) Q E s := by
  refine Calls.call_function_entry kind_sorted plain_sorted entry_sorted (args_sorted1 _) ?_
  unfold Builtin.«sorted»
  refine wpAny_bind (m := checkCount "sorted" 1 1 _) (wpAny_pure ?_)
  refine wpAny_bind (collect_list hl ?_ (by rw [sizeLine_eq]; (first | lia | omega)))
  refine wpAny_bind (wpAny_newList ?_ (by rw [sizeLine_eq]; (first | lia | omega)))
  have hsz : ((s.heap.push (seqObj "list" #[] 0)).update s.heap.objs.size (Obj.mapSeq (· ++ vs.toArray))).objs.size = s.heap.objs.size + 1 := by
    rw [Heap.size_update, size_push']
  have hoL : (colHeap s.heap vs).get? (s.heap.objs.size + 1) = some (seqObj "list" vs.toArray 0) := by
    unfold colHeap
    rw [← hsz]; exact Heap.get?_push_size _ rfl
  show wpAny _ _ _ _ _ { s with heap := colHeap s.heap vs }
  rw [hsz]
  refine wpAny_bind (wpAny_holding (wpAny_call_entry slot_list_sort ⟨_, hoL, rfl⟩ entry_list_sort (sort_N (s := { s with heap := colHeap s.heap vs }) hoL h2 h128 (hκ _ _) hA (hcmp _) fun p q1 q2 => ⟨_, rfl, ?_⟩) (args_list_sort _)))
  exact wpAny_pure ⟨_, rfl, h p q1 q2⟩
end
end

/-! part S16 -/
set_option autoImplicit false
set_option maxRecDepth 100000
set_option linter.unusedVariables false
open PySem PySem.W PyProof.Rows
section
variable {K : Glo} {F : Frm}

/-! ### sorted and sort of ints, of strings, of tuples of ints -/
noncomputable def enc : V → List Int
  | .int a => [0, a]
  | .str x => 1 :: x.cps.toList.map fun n : Nat => (n : Int)
  | .tup vs => match intsOf vs with
    | some ns => 2 :: ns
    | none => [3]
  | _ => [3]
noncomputable def ltK (a b : V) : Bool := lexB (enc a) (enc b)
noncomputable def strsOf : List V → Option (List Str)
  | [] => some []
  | .str x :: vs => (strsOf vs).map (x :: ·)
  | _ :: _ => none
noncomputable def okK (us : List V) : Bool := (intsOf us).isSome || (strsOf us).isSome || (tupsOf us).isSome
noncomputable def sortK (us : List V) : List V := us.mergeSort fun a b => !ltK b a

theorem ltK_asymm {a b : V} (h : ltK a b = true) : ltK b a = false := lexB_asymm _ _ h
theorem ltK_trans {a b c : V} (h1 : ltK b a = false) (h2 : ltK c b = false) : ltK c a = false := lexB_trans _ _ _ h1 h2
theorem sortK_perm (us : List V) : (sortK us).Perm us := List.mergeSort_perm _ _
theorem sortK_sorted (us : List V) : (sortK us).Pairwise fun a b => ltK b a = false := by
  have := List.pairwise_mergeSort (le := fun a b : V => !ltK b a) (by
    intro a b c h1 h2
    simp only [Bool.not_eq_true'] at h1 h2 ⊢
    exact ltK_trans h1 h2) (by
    intro a b
    cases h : ltK b a with
    | false => simp
    | true => rw [ltK_asymm h]; simp) us
  exact this.imp fun h => by simpa using h
theorem intsOf_all : ∀ {us : List V} {ns : List Int}, intsOf us = some ns → us = ns.map .int
  | [], ns, e => by cases e; rfl
  | .int i :: us, ns, e => by
    unfold intsOf at e
    cases h : intsOf us with
    | none => rw [h] at e; cases e
    | some n' => rw [h] at e; cases e; rw [List.map_cons, ← intsOf_all h]
  | .none :: _, _, e => by cases e
  | .bool _ :: _, _, e => by cases e
  | .str _ :: _, _, e => by cases e
  | .tup _ :: _, _, e => by cases e
  | .obj _ :: _, _, e => by cases e
  | .fn _ :: _, _, e => by cases e
  | .rng _ _ _ :: _, _, e => by cases e
theorem intsOf_mapK : ∀ ns : List Int, intsOf (ns.map .int) = some ns
  | [] => rfl
  | n :: ns => by rw [List.map_cons]; unfold intsOf; rw [intsOf_mapK ns]; rfl
theorem strsOf_all : ∀ {us : List V} {ns : List Str}, strsOf us = some ns → us = ns.map .str
  | [], ns, e => by cases e; rfl
  | .str i :: us, ns, e => by
    unfold strsOf at e
    cases h : strsOf us with
    | none => rw [h] at e; cases e
    | some n' => rw [h] at e; cases e; rw [List.map_cons, ← strsOf_all h]
  | .none :: _, _, e => by cases e
  | .bool _ :: _, _, e => by cases e
  | .int _ :: _, _, e => by cases e
  | .tup _ :: _, _, e => by cases e
  | .obj _ :: _, _, e => by cases e
  | .fn _ :: _, _, e => by cases e
  | .rng _ _ _ :: _, _, e => by cases e
theorem tupsOf_all : ∀ {us : List V} {ts : List (List Int)}, tupsOf us = some ts → us = ts.map (fun t => .tup (t.map .int)) ∧ [] ∉ ts
  | [], ts, e => by cases e; exact ⟨rfl, by simp⟩
  | v :: us, ts, e => by
    obtain ⟨t, ts', e1, e2, rfl⟩ := mapO_cons e
    obtain ⟨vs, rfl, e3, hne⟩ := tupInts_is e1
    obtain ⟨h1, h2⟩ := tupsOf_all e2
    refine ⟨by rw [List.map_cons, ← h1, intsOf_all e3], ?_⟩
    intro hm
    rcases List.mem_cons.mp hm with h | h
    · exact hne h.symm
    · exact h2 h
theorem map_inj_nat : ∀ {a b : List Nat}, a.map (fun n : Nat => (n : Int)) = b.map (fun n : Nat => (n : Int)) → a = b
  | [], [], _ => rfl
  | [], _ :: _, h => by simp at h
  | _ :: _, [], h => by simp at h
  | x :: a, y :: b, h => by
    simp only [List.map_cons, List.cons.injEq] at h
    rw [map_inj_nat h.2, Int.ofNat.inj h.1]
theorem ltK_total {us : List V} (ok : okK us = true) {a b : V} (ha : a ∈ us) (hb : b ∈ us) (h1 : ltK a b = false) (h2 : ltK b a = false) : a = b := by
  have e := lexB_total _ _ h1 h2
  unfold okK at ok
  rw [Bool.or_eq_true, Bool.or_eq_true] at ok
  rcases ok with (ok | ok) | ok
  · obtain ⟨ns, h⟩ := Option.isSome_iff_exists.mp ok
    rw [intsOf_all h] at ha hb
    obtain ⟨x, _, rfl⟩ := List.mem_map.mp ha
    obtain ⟨y, _, rfl⟩ := List.mem_map.mp hb
    unfold enc at e
    simp at e
    rw [e]
  · obtain ⟨ns, h⟩ := Option.isSome_iff_exists.mp ok
    rw [strsOf_all h] at ha hb
    obtain ⟨x, _, rfl⟩ := List.mem_map.mp ha
    obtain ⟨y, _, rfl⟩ := List.mem_map.mp hb
    unfold enc at e
    simp only [List.cons.injEq, true_and] at e
    have := map_inj_nat e
    cases x; cases y
    congr 2
    exact Array.toList_inj.mp this
  · obtain ⟨ns, h⟩ := Option.isSome_iff_exists.mp ok
    rw [(tupsOf_all h).1] at ha hb
    obtain ⟨x, _, rfl⟩ := List.mem_map.mp ha
    obtain ⟨y, _, rfl⟩ := List.mem_map.mp hb
    unfold enc at e
    simp only [intsOf_mapK, List.cons.injEq, true_and] at e
    rw [e]
theorem sortK_uniq {us o : List V} (ok : okK us = true) (hp : o.Perm us) (hs : o.Pairwise fun a b => ltK b a = false) : o = sortK us := by
  refine List.Perm.eq_of_pairwise (le := fun a b => ltK b a = false) (fun a b ha hb h1 h2 => ?_) hs (sortK_sorted us) (hp.trans (sortK_perm us).symm)
  exact ltK_total ok (hp.mem_iff.mp ha) ((sortK_perm us).mem_iff.mp hb) h2 h1
/-! the keys as the sort sees them -/
theorem lexB_nats : ∀ a b : List Nat, lexB (a.map fun n : Nat => (n : Int)) (b.map fun n : Nat => (n : Int)) = decide (a < b)
  | [], [] => by simp [lexB]
  | [], _ :: _ => by simp [lexB]
  | _ :: _, [] => by simp [lexB]
  | x :: a, y :: b => by
    simp only [List.map_cons, lexB]
    by_cases h : x = y
    · subst h
      rw [if_pos rfl, lexB_nats a b]
      simp [List.cons_lt_cons_iff]
    · rw [if_neg (by (first | lia | omega))]
      simp [List.cons_lt_cons_iff, h]
theorem ltK_int {a b : Int} : ltK (.int a) (.int b) = decide (a < b) := by
  unfold ltK enc
  simp only [lexB, if_true]
  by_cases h : a = b
  · rw [if_pos h]; subst h; simp
  · rw [if_neg h]
theorem ltK_str {a b : Str} : ltK (.str a) (.str b) = decide (a.cps.toList < b.cps.toList) := by
  unfold ltK enc
  simp only [lexB, if_true]
  exact lexB_nats _ _
theorem ltK_tup {a b : List Int} : ltK (.tup (a.map .int)) (.tup (b.map .int)) = lexB a b := by
  unfold ltK enc
  simp only [intsOf_mapK, lexB, if_true]
theorem getD_mem' {us : List V} {i : Nat} (h : i < us.length) : us.getD i V.none ∈ us := by
  rw [List.getD_eq_getElem?_getD, List.getElem?_eq_getElem h]; exact List.getElem_mem h
theorem two_is {xs : List Value} (h : 2 ≤ xs.length) : ∃ a b r, xs = a :: b :: r := by
  match xs, h with
  | a :: b :: r, _ => exact ⟨a, b, r, rfl⟩
theorem sortable {us : List V} {xs : List Value} {ρ : List Addr} {s : Shared} (r : RepL K s.heap ρ us xs) (h2 : 2 ≤ us.length) (ok : okK us = true) : ∃ κ : SortKind, (∀ A E (Q : SortKind → Shared → Prop), Q κ s → wpAny (model K.prog K.w) A (keyKind' xs.toArray) Q E s) ∧
    ∀ A i j (C : Bool → Shared → Prop), i < us.length → j < us.length → C (ltK (us.getD i .none) (us.getD j .none)) s → kas_ask K.prog K.w A κ xs i j C s := by
  unfold okK at ok
  rw [Bool.or_eq_true, Bool.or_eq_true] at ok
  have hxl : xs.length = us.length := r.length
  rcases ok with (ok | ok) | ok
  · obtain ⟨ns, h⟩ := Option.isSome_iff_exists.mp ok
    refine ⟨oneType', fun A E Q q => ?_, fun A i j C hi hj hC => ?_⟩
    · have hI := intsOf_are r h
      obtain ⟨a, b, t, rfl⟩ := two_is (by (first | lia | omega) : 2 ≤ xs.length)
      exact wpAny_of_eq (keyKind_ints hI) q
    · have e := intsOf_all h
      have m1 := getD_mem' hi
      have m2 := getD_mem' hj
      have r1 := getD_rep r hi
      have r2 := getD_rep r hj
      unfold kas_ask
      generalize us.getD i .none = x at m1 r1 hC
      generalize us.getD j .none = y at m2 r2 hC
      rw [e] at m1 m2
      obtain ⟨x, _, rfl⟩ := List.mem_map.mp m1
      obtain ⟨y, _, rfl⟩ := List.mem_map.mp m2
      obtain ⟨t, e1⟩ := Rep.int_iff.mp r1
      obtain ⟨u, e2⟩ := Rep.int_iff.mp r2
      rw [e1, e2, keyLt'_oneType]
      exact oneLt_int (by rw [ltK_int] at hC; exact hC)
  · obtain ⟨ns, h⟩ := Option.isSome_iff_exists.mp ok
    have e := strsOf_all h
    refine ⟨oneType', fun A E Q q => ?_, fun A i j C hi hj hC => ?_⟩
    · have hI : StrsAre xs (xs.map strOf) := strsAre_map xs fun v hv => by
        obtain ⟨i, hi, rfl⟩ := List.mem_iff_getElem.mp hv
        obtain ⟨u, e1, q⟩ := r.getW (List.getElem?_eq_getElem hi)
        have hm := List.mem_of_getElem? e1
        rw [e] at hm
        obtain ⟨x, _, rfl⟩ := List.mem_map.mp hm
        obtain ⟨t, e2⟩ := Rep.str_iff.mp q
        exact ⟨x, t, e2⟩
      obtain ⟨a, b, t, rfl⟩ := two_is (by (first | lia | omega) : 2 ≤ xs.length)
      exact wpAny_of_eq (keyKind_strs hI) q
    · have m1 := getD_mem' hi
      have m2 := getD_mem' hj
      have r1 := getD_rep r hi
      have r2 := getD_rep r hj
      unfold kas_ask
      generalize us.getD i .none = x at m1 r1 hC
      generalize us.getD j .none = y at m2 r2 hC
      rw [e] at m1 m2
      obtain ⟨x, _, rfl⟩ := List.mem_map.mp m1
      obtain ⟨y, _, rfl⟩ := List.mem_map.mp m2
      obtain ⟨t, e1⟩ := Rep.str_iff.mp r1
      obtain ⟨u, e2⟩ := Rep.str_iff.mp r2
      rw [e1, e2]
      exact kas_lt_str (by rw [ltK_str] at hC; exact hC)
  · obtain ⟨ts, h⟩ := Option.isSome_iff_exists.mp ok
    obtain ⟨t1, t2⟩ := tups_at r h
    have hmid : ∀ i, i < xs.length → ∃ a o ys n, xs.getD i Value.none = .ref a ∧ s.heap.get? a = some o ∧ o.cls = .type "tuple" ∧ o.data = .seq ys n ∧ IntsAre ys.toList (ts.getD i []) ∧ ts.getD i [] ≠ [] := by
      intro i hi'
      obtain ⟨a', o, ys, n', e1, e2, _, e3, e4, e5, e6⟩ := t2 i (by (first | lia | omega))
      exact ⟨a', o, ys, n', e1, e2, e3, e4, e5, e6⟩
    refine ⟨tuples' true, fun A E Q q => ?_, fun A i j C hi hj hC => ?_⟩
    · obtain ⟨fs, k1, k2, k3⟩ := katTups_of (h := s.heap) (by (first | lia | omega)) hmid
      refine kat_kind (s := s) (T := .type "int") k1 (by (first | lia | omega)) (fun v hv => ?_) (by decide) q
      obtain ⟨i, t, rfl⟩ := k3 v hv
      exact .now
    · obtain ⟨a1, o1, xs1, n1, e1, g1, _, d1, I1, _⟩ := hmid i (by (first | lia | omega))
      obtain ⟨a2, o2, xs2, n2, e2, g2, _, d2, I2, _⟩ := hmid j (by (first | lia | omega))
      unfold kas_ask
      rw [e1, e2]
      refine kat_lt (s := s) g1 d1 g2 d2 (lex_at _ _ _ _ _ 0 I1 I2 fun c hc => ?_)
      have hsz : ∀ {ys : Array Value} {ns : List Int}, IntsAre ys.toList ns → ys.size = ns.length := by
        intro ys ns hI
        have := (ints_rep (K := K) (h := s.heap) (ρ := ρ) hI).length
        simpa using this
      rw [hsz I1, hsz I2, lex_eq] at hc
      have ge : ∀ i, i < us.length → us.getD i .none = .tup ((ts.getD i []).map .int) := by
        intro i hi
        rw [(tupsOf_all h).1, List.getD_eq_getElem?_getD, List.getElem?_map, List.getD_eq_getElem?_getD, List.getElem?_eq_getElem (by (first | lia | omega))]
        rfl
      rw [ge i hi, ge j hj, ltK_tup] at hC
      rw [hc]; exact hC
theorem askK_ok (us : List V) (n : Nat) : Ask n fun i j => ltK (us.getD i .none) (us.getD j .none) := ⟨fun i j _ _ h => ltK_asymm h, fun i j k _ _ _ h1 h2 => ltK_trans h1 h2⟩
theorem map_getDK {us : List V} : (List.range us.length).map (fun i => us.getD i .none) = us := by
  apply List.ext_getElem
  · simp
  · intro i h1 h2
    simp [List.getD_eq_getElem?_getD, h2]
theorem out_is {us : List V} {p : List Nat} (ok : okK us = true) (hp : p.Perm (List.range us.length)) (hs : p.Pairwise (LeA fun i j => ltK (us.getD i .none) (us.getD j .none))) : (p.map fun i => us.getD i .none) = sortK us := by
  refine sortK_uniq ok ?_ ?_
  · have := hp.map fun i => us.getD i .none
    rwa [map_getDK] at this
  · rw [List.pairwise_map]
    exact hs.imp fun h => h
theorem sortK_short {us : List V} (h : us.length < 2) : sortK us = us := by
  match us, h with
  | [], _ => (unfold sortK; simp)
  | [a], _ => (unfold sortK; simp)

noncomputable def sortedN : List V → M V
  | [.obj l] => fun σ => match σ.st[l]? with
    | some (.lst vs) => if okK vs = true ∧ vs.length < 128 then .ok (.obj σ.st.length) { σ with st := σ.st ++ [.lst (sortK vs)] } else .stuck
    | _ => .stuck
  | _ => stuck
theorem built_sortedN : BuiltOk K (.builtin "sorted") sortedN := by
  intro F fk hnh σ ρ s vs ws rel r
  unfold sortedN
  split
  · rename_i l
    obtain ⟨x, r', rfl, r1, r2⟩ := RepL.cons_iff.mp r
    obtain rfl := RepL.nil_iff.mp r2
    cases hl : σ.st[l]? with
    | none => exact Run.stuck
    | some c =>
      cases c with
      | set _ => exact Run.stuck
      | itr _ _ _ => exact Run.stuck
      | lst us =>
        dsimp only
        by_cases hz : okK us = true ∧ us.length < 128
        · rw [if_pos hz]
          obtain ⟨ok, h128⟩ := hz
          obtain ⟨a, xs, n, rfl, hρ, hL, hr, hn⟩ := rel.list r1 hl
          have hxl : xs.length = us.length := hr.length
          have fin : ∀ (out : List Value), RepL K s.heap ρ (sortK us) out → ∃ ρ', Rel K F { σ with st := σ.st ++ [.lst (sortK us)] } ρ' { s with heap := sortedAll s.heap xs out.toArray } ∧
              Ext F.mine ρ ρ' s.heap (sortedAll s.heap xs out.toArray) ∧ Rep K (sortedAll s.heap xs out.toArray) ρ' (.obj σ.st.length) (.ref (s.heap.objs.size + 1)) := by
            intro out hrep
            obtain ⟨m, hm⟩ := sortedAll_out (h := s.heap) (xs := xs) (out := out.toArray)
            obtain ⟨rel', x'⟩ := rel.newAt (s' := { s with heap := sortedAll s.heap xs out.toArray }) sortedAll_keep (Heap.get?_none_of_le (Nat.le_succ _)) (n := m) hm hrep (by rw [(sortK_perm us).length_eq]; exact hn) rfl rfl
            exact ⟨_, rel', x', Rep.obj_iff.mpr ⟨_, by rw [← rel.len, List.getElem?_concat_length], rfl⟩⟩
          by_cases hsm : us.length < 2
          · exact Run.ok (sorted_small hL.isList (by (first | lia | omega)) (fin xs (by rw [sortK_short hsm]; exact hr)) [] (.inl rfl))
          · have hrm : RepL K (midHeap (colHeap s.heap xs) (s.heap.objs.size + 1) xs) ρ us xs := RepL.mono' (List.prefix_refl _) (fun b o e _ => mid_keep b o e) hr
            obtain ⟨κ, k1, k2⟩ := sortable (s := { s with heap := midHeap (colHeap s.heap xs) (s.heap.objs.size + 1) xs }) hrm (by (first | lia | omega)) ok
            refine Run.ok (sorted_N (κ := κ) (ask := fun i j => ltK (us.getD i .none) (us.getD j .none)) hL.isList (by (first | lia | omega)) (by (first | lia | omega)) (fun A' E' Q q => k1 A' E' Q q) (askK_ok us _) (fun A' i j C hi hj hC => k2 A' i j C (by (first | lia | omega)) (by (first | lia | omega)) hC) fun p q1 q2 => fin _ ?_)
            rw [hxl] at q1
            rw [← out_is ok q1 q2]
            exact maps_rep hr p fun i hi => by simpa using q1.mem_iff.mp hi
        · rw [if_neg hz]; exact Run.stuck
  · exact Run.stuck

end

/-! part F36 -/
set_option autoImplicit false
set_option maxRecDepth 100000
set_option linter.unusedVariables false
open PySem PySem.W PyProof.Rows
section
variable {K : Glo} {F : Frm}

/-! ### strings: +, str(n), isinstance(e, str) -/
noncomputable def addS : V → V → M V
  | .str x, .str y => fun σ => if x.length + y.length ≤ 1000000 then .ok (.str (x ++ y)) σ else .stuck
  | a, b => addV a b
theorem bin_addS : BinOk K .Add addS := by
  intro F fk σ ρ s a b wa wb rel ra rb
  rcases (show addS a b = addV a b ∨ ∃ x y, a = .str x ∧ b = .str y by
    cases a with
    | str x => cases b <;> first | exact .inl rfl | exact .inr ⟨_, _, rfl, rfl⟩
    | _ => exact .inl rfl) with h | ⟨x, y, rfl, rfl⟩
  · rw [h]; exact bin_add F fk σ ρ s _ _ wa wb rel ra rb
  · unfold addS
    dsimp only
    obtain ⟨t, rfl⟩ := Rep.str_iff.mp ra
    obtain ⟨u, rfl⟩ := Rep.str_iff.mp rb
    by_cases h : x.length + y.length ≤ 1000000
    · rw [if_pos h]
      exact Run.ok (add_str (fun t' tk => ⟨ρ, rel.tok _, Ext.refl .., Rep.str ..⟩) (sizeLine_ge h))
    · rw [if_neg h]; exact Run.stuck
noncomputable def isStrV : V → M V
  | .str _ => fun σ => .ok (.bool true) σ
  | .int _ => fun σ => .ok (.bool false) σ
  | _ => stuck
theorem simE_isStr (fk : FOk F) {np pos sp : Pos} {arg : Expr} {ma : M V}
    (hx : F.env.kindOf (Str.ofString "isinstance") = some .globalImplicit) (hm : K.mg (Str.ofString "isinstance") = none)
    (hx2 : F.env.kindOf (Str.ofString "str") = some .globalImplicit) (hm2 : K.mg (Str.ofString "str") = none) (ha : SimE K F arg ma)
    (hst : starEach [arg, .Name (Str.ofString "str") sp] F.env = [(false, eval arg F.env), (false, eval (.Name (Str.ofString "str") sp) F.env)] := by rfl) :
    SimE K F (.Call (.Name (Str.ofString "isinstance") np) [arg, .Name (Str.ofString "str") sp] [] pos) (do let v ← ma; isStrV v) := by
  intro σ ρ s rel
  refine Run.of_wp fun hne => ?_
  rw [eval_CallName]
  refine wpAny_bind (wp_builtin fk rel hx hm (v := .builtin "isinstance") (by decide +kernel) ?_)
  refine wp_callWith rfl (by rw [backTo_any, hst]; rfl) ?_
  rw [hst]
  show wpAny _ _ (spliced ((false, eval arg F.env) :: (false, eval (.Name (Str.ofString "str") sp) F.env) :: backTo pos [])) _ _ s
  rw [spliced_cons_eq]
  refine wpAny_bind (Run.bindWp (ha σ ρ s rel) hne fun v σ₁ ρ₁ s₁ wv e1 e2 rel₁ x₁ rv => ?_)
  rw [e2] at hne ⊢
  rw [spliced_cons_eq]
  refine wpAny_bind (wpAny_holding (wpAny_bind (wp_builtin fk rel₁ hx2 hm2 (v := .type "str") (by decide +kernel) ?_)))
  refine wpAny_bind (wpAny_holding (wpAny_pure (wpAny_pure (wpAny_pure ?_))))
  show wpAny _ _ (PySem.call (.builtin "isinstance") [wv, .type "str"]) _ _ s₁
  cases v with
  | str x =>
    obtain ⟨t, rfl⟩ := Rep.str_iff.mp rv
    exact IsiPair.str_str ⟨_, _, ρ₁, rfl, rel₁, x₁, Rep.bool _⟩
  | int i =>
    obtain ⟨t, rfl⟩ := Rep.int_iff.mp rv
    exact IsiPair.int_str ⟨_, _, ρ₁, rfl, rel₁.tok _, x₁, Rep.bool _⟩
  | _ => exact absurd rfl hne
end

/-! part F37 -/
set_option autoImplicit false
set_option maxRecDepth 100000
set_option linter.unusedVariables false
open PySem PySem.W PyProof.Rows
section
variable {K : Glo} {F : Frm}

/-! ### a, b, c = a list -/
section
variable {A : Around} {E : Value → Shared → Prop}
theorem draw_list {it t : Addr} {items : Array Value} (hne : t ≠ it) : ∀ (n i : Nat) (s : Shared) (Q : List Value → Shared → Prop), s.heap.IsListIter it t i → s.heap.IsList t items → i + n ≤ items.size →
    (∀ h', h'.IsListIter it t (i + n) → Heap.SameBut it s.heap h' → Q ((items.toList.drop i).take n) { s with heap := h' }) → wpAny (model K.prog K.w) A (draw (.ref it) n) Q E s
  | 0, i, s, Q, hit, _, _, hQ => by
    show wpAny _ _ (pure []) Q E s
    exact wpAny_pure (by simpa using hQ s.heap hit (Heap.SameBut.refl ..))
  | n + 1, i, s, Q, hit, ht, hle, hQ => by
    have hlt : i < items.size := by (first | lia | omega)
    show wpAny _ _ (pyNext (.ref it) >>= _) Q E s
    refine wpAny_bind (wpAny_pyNext_list_item hit ht (x := items[i]) (by simp [hlt]) fun h₁ hit₁ hs₁ => ?_)
    refine wpAny_bind (wpAny_holding (draw_list hne n (i + 1) _ _ hit₁ (by obtain ⟨o, e, r⟩ := ht; exact ⟨o, hs₁.extBut _ _ hne e, r⟩) (by (first | lia | omega)) fun h₂ hit₂ hs₂ => wpAny_pure ?_))
    have hd : items.toList.drop i = items[i] :: items.toList.drop (i + 1) := by simp [List.drop_eq_getElem_cons, hlt]
    have := hQ h₂ (by rw [show i + (n + 1) = i + 1 + n by (first | lia | omega)]; exact hit₂) (hs₁.trans hs₂)
    rw [hd, List.take_succ_cons] at this
    exact this

theorem unpack_list {s : Shared} {t : Addr} {items : Array Value} {targets : List (Bool × (Value → Sem Unit))} {Q : Unit → Shared → Prop} (hh : A.handled = none) (ht : s.heap.IsList t items)
    (hn : targets.length = items.size) (hstar : targets.findIdx? (·.1) = none)
    (h : ∀ h', Heap.ExtBut s.heap.objs.size s.heap h' → wpAny (model K.prog K.w) A (assignInOrder (targets.map (·.2)) items.toList) Q E { s with heap := h' }) :
    wpAny (model K.prog K.w) A (unpack (.ref t) targets) Q E s := by
  have hlt : t ≠ s.heap.objs.size := by obtain ⟨o, ho, _⟩ := ht; exact Nat.ne_of_lt (Heap.lt_size ho)
  unfold unpack
  rw [hn, hstar]
  refine wpAny_bind (wpAny_holding ?_)
  unfold unpackItems
  refine wpAny_bind ?_
  unfold notIterableAtAll
  refine wpAny_bind (wpAny_specialOf ht.typeIs slot_list_iter.lookup ?_)
  refine wpAny_pure ?_
  simp only [Bool.false_eq_true, if_false]
  refine wpAny_bind (wpAny_holding (wpAny_pyIter_list ht ?_))
  refine wpAny_bind (wpAny_holding (draw_list hlt items.size 0 _ _ ⟨_, Heap.get?_push_size _ rfl, rfl, rfl⟩ (ht.push _) (by (first | lia | omega)) fun h₁ hit₁ hs₁ => ?_))
  have hall : List.take items.size (List.drop 0 items.toList) = items.toList := by
    rw [List.drop_zero]; exact List.take_of_length_le (by simp)
  rw [hall]
  rw [if_neg (by simp)]
  have ht₁ : h₁.IsList t items := by obtain ⟨o, e, r⟩ := ht.push { cls := .type "list_iterator", data := .fields #[.ref t, .int 0 0] }; exact ⟨o, hs₁.extBut _ _ hlt e, r⟩
  refine wpAny_bind (wpAny_holding (wpAny_pyNext_list_end hh hit₁ ht₁ (by simp) fun h₂ he₂ => ?_))
  simp only [Option.isSome_none, Bool.false_eq_true, if_false]
  exact wpAny_pure (h h₂ fun b o hb e => he₂ b o hb (hs₁.extBut b o hb (Heap.get?_push_of_some _ e)))
end

noncomputable def unpackL (n : Nat) (m : List V → M Unit) : V → M Unit
  | .obj l => fun σ => match σ.st[l]? with
    | some (.lst vs) => if vs.length = n then m vs σ else .stuck
    | _ => .stuck
  | _ => stuck
theorem simT_list (fk : FOk F) {es : List Expr} {m : List V → M Unit} (k : Nat) (pos : Pos) (hs : SimTs K F es m) (hnh : F.nh = true := by rfl) : SimT K F (.Tuple es k pos) (unpackL es.length m) := by
  obtain ⟨⟨n, h1, h2, h3⟩, h4⟩ := hs
  intro σ ρ s v w rel r
  cases v with
  | obj l =>
    unfold unpackL
    dsimp only
    cases hc : σ.st[l]? with
    | none => exact Run.stuck
    | some c =>
      cases c with
      | set _ => exact Run.stuck
      | itr _ _ _ => exact Run.stuck
      | lst vs =>
        dsimp only
        by_cases hl : vs.length = es.length
        · rw [if_pos hl]
          obtain ⟨a, ws, n', rfl, hρ, hL, rl, _⟩ := rel.list r hc
          refine Run.of_wp fun hne => ?_
          rw [assign_Tuple]
          refine wpAny_bind (wpAny_standAt ?_)
          refine unpack_list (fk.hd hnh) hL.isList (by rw [h1, h2, List.size_toArray, rl.length, hl]) h3 fun h' hx => ?_
          have hk := kept_of_extBut hx
          have rel' : Rel K F σ ρ { s with heap := h' } := rel.kept hk rfl rfl
          have x' : Ext F.mine ρ ρ s.heap h' := Ext.kept hk
          refine wpAny_mono ((h4 σ ρ { s with heap := h' } vs ws rel' (rl.mono x') hl).wp hne) ?_ ?_
          · rintro b s'' ⟨b', σ'', ρ', e, q1, q2, q3⟩; exact ⟨b', σ'', ρ', e, q1, x'.trans q2, q3⟩
          · rintro b s'' ⟨b', σ'', ρ', e, q1, q2, q3⟩; exact ⟨b', σ'', ρ', e, q1, x'.trans q2, q3.up x'⟩
        · rw [if_neg hl]; exact Run.stuck
  | _ => exact Run.stuck

/-! ### a text's sign, ord -/
noncomputable def sgnI : V → V → M V
  | .str x, .int k => fun σ => if 0 ≤ k ∧ k < 1000000 then (match x.cps[k.toNat]? with
    | some c => .ok (.str ⟨#[c]⟩) σ
    | none => .stuck) else .stuck
  | _, _ => fun _ => .stuck
theorem getItem_sgn {A : Around} {E : Value → Shared → Prop} {s : Shared} {x : Str} {k : Int} {t u : Tok} {c : Nat} {Q : Value → Shared → Prop} (hk : 0 ≤ k ∧ k < 1000000) (e : x.cps[k.toNat]? = some c)
    (h : Q (.str ⟨#[c]⟩ s.toks) { s with toks := s.toks + 1 }) : wpAny (model K.prog K.w) A (getItem (.str x t) (.int k u)) Q E s := by
  have hl : k.toNat < x.cps.size := (Array.getElem?_eq_some_iff.mp e).1
  have h1 : fitsSsize k = true := by unfold fitsSsize; simp; (first | lia | omega)
  have hidx : seqIndex? k x.length = some k.toNat := by
    unfold seqIndex?
    have h1 : ¬ k < 0 := by (first | lia | omega)
    simp only [h1, if_false]
    rw [if_pos (by simp only [Bool.and_eq_true, decide_eq_true_eq]; exact ⟨by (first | lia | omega), by show k < ((x.cps.size : Nat) : Int); (first | lia | omega)⟩)]
  have hc : Txt.charAt x k = some c := by
    unfold Txt.charAt; rw [hidx]; exact e
  refine SB.getItem h1 (by rw [hc]; rfl) ?_
  have : Txt.item x k = ⟨#[c]⟩ := by unfold Txt.item; rw [hc]; rfl
  rw [this]; exact h

theorem simE_sgn (fk : FOk F) {value slice : Expr} {mv mi : M V} (pos : Pos) (hv : SimE K F value mv) (hi : SimE K F slice mi)
    (hs : ∀ o i, subscripted slice false o i = PySem.operate [o, i] (getItem o i) := by intro _ _; rfl) :
    SimE K F (.Subscript value slice pos) (do let o ← mv; let i ← mi; sgnI o i) := by
  intro σ ρ s rel
  rw [eval_Subscript]
  refine Run.bind (hv σ ρ s rel) fun a σ₁ ρ₁ s₁ wa _ rel₁ x₁ ra => ?_
  refine Run.bind (Run.holding (hi σ₁ ρ₁ s₁ rel₁)) fun b σ₂ ρ₂ s₂ wb _ rel₂ x₂ rb => ?_
  refine Run.standAt ?_
  cases a with
  | str x =>
    cases b with
    | int k =>
      obtain ⟨t, rfl⟩ := Rep.str_iff.mp ra
      obtain ⟨u, rfl⟩ := Rep.int_iff.mp rb
      unfold sgnI
      dsimp only
      by_cases hk : 0 ≤ k ∧ k < 1000000
      · rw [if_pos hk]
        cases e : x.cps[k.toNat]? with
        | none => exact Run.stuck
        | some c =>
          refine Run.ok (tail_any (typeIs_str _ _ _) PySem.F.slot_str_getitem.lookup (getItem_sgn hk e ?_) (hs _ _))
          exact ⟨ρ₂, rel₂.tok _, Ext.kept fun _ _ e => e, Rep.str _ _⟩
      · rw [if_neg hk]; exact Run.stuck
    | _ => exact Run.stuck
  | _ => exact Run.stuck

noncomputable def ordB : List V → M V
  | [.str x] => if x.length = 1 then pure (.int ((x.cps.getD 0 0 : Nat) : Int)) else stuck
  | _ => stuck
theorem built_ord : BuiltOk K (.builtin "ord") ordB := by
  intro F fk hnh σ ρ s vs ws rel r
  cases vs with
  | nil => exact Run.stuck
  | cons v vs =>
    cases v with
    | str x =>
      cases vs with
      | nil =>
        obtain ⟨w, ws, rfl, r1, r2⟩ := RepL.cons_iff.mp r
        obtain rfl := RepL.nil_iff.mp r2
        obtain ⟨t, rfl⟩ := Rep.str_iff.mp r1
        unfold ordB
        dsimp only
        by_cases h1 : x.length = 1
        · rw [if_pos h1]
          exact Run.ok (ord_of_one h1 ⟨ρ, rel.tok _, Ext.kept fun _ _ e => e, Rep.int ..⟩)
        · rw [if_neg h1]; exact Run.stuck
      | cons _ _ => exact Run.stuck
    | _ => exact Run.stuck
end

/-! part F38 -/
set_option autoImplicit false
set_option maxRecDepth 100000
set_option linter.unusedVariables false
open PySem PySem.W PyProof.Rows
section
variable {K : Glo} {F : Frm}

/-! ### {.. for ..}, len and in of a set of ints -/
noncomputable def emitS (elt : Expr) (env : Env) (acc : Value) : Sem Unit := do let v ← eval elt env; standAt elt.pos; let _ ← call (.builtin "set.add") [acc, v]
theorem turn_endS {gens : List Comprehension} {d : Nat} {elt target iter : Expr} {ifs : List Expr} {test : Option Expr} {scope : Scope} {pos : Pos} {env : Env} {acc : Value} (hg : gens[d]? = some ⟨target, iter, ifs, 0⟩) (hn : gens[d + 1]? = none) (ht : ifs = test.toList) :
    TurnOk (.SetComp elt gens scope pos) d env acc target test (emitS elt env acc) := by
  intro M A Q E s it h
  unfold compTurn
  simp only [hg]
  refine wpAny_bind (wpAny_standAt (wpAny_bind ?_))
  refine wpAny_mono h (fun r s₁ h₁ => ?_) fun _ _ e => e
  cases r with
  | none => exact wpAny_pure h₁
  | some v =>
    refine wpAny_bind (wpAny_mono h₁ (fun _ s₂ h₂ => wpAny_bind (wpAny_mono h₂ (fun _ s₃ h₃ => ?_) fun _ _ e => e)) fun _ _ e => e)
    refine wpAny_bind (wp_ifs ifs test ht (wpAny_mono h₃ (fun ok s₄ h₄ => ?_) fun _ _ e => e))
    cases ok with
    | true =>
      simp only [if_true] at h₄ ⊢
      rw [hn]
      have hh : wpAny M A (emitS elt env acc >>= fun _ => again (.compLoop (.SetComp elt gens scope pos) d it acc env)) Q E s₄ :=
        wpAny_bind (wpAny_mono h₄ (fun _ s₅ h₅ => wpAny_pure h₅) fun _ _ e => e)
      unfold emitS at hh
      exact hh
    | false =>
      simp only [Bool.false_eq_true, if_false] at h₄ ⊢
      exact wpAny_pure h₄

noncomputable def addAt (l : Nat) : V → M Unit
  | .int i => fun σ => match σ.st[l]? with
    | some (.set ns) => if l ≠ 0 ∧ ns.length < 4000 then .ok () { σ with st := σ.st.set l (.set (if i ∈ ns then ns else ns ++ [i])) } else .stuck
    | _ => .stuck
  | _ => stuck
theorem run_setAdd {σ : S} {ρ : List Addr} {s : Shared} {l : Nat} {a : Addr} {v : V} {w : Value} (rel : Rel K F σ ρ s) (hρ : ρ[l]? = some a) (rv : Rep K s.heap ρ v w) :
    Run K F (do let _ ← call (.builtin "set.add") [.ref a, w]) URep (addAt l v σ) ρ s := by
  cases v with
  | int i =>
    obtain ⟨t, rfl⟩ := Rep.int_iff.mp rv
    unfold addAt
    dsimp only
    cases hc : σ.st[l]? with
    | none => exact Run.stuck
    | some c =>
      cases c with
      | lst _ => exact Run.stuck
      | itr _ _ _ => exact Run.stuck
      | set ns =>
        dsimp only
        by_cases hl : l ≠ 0 ∧ ns.length < 4000
        · rw [if_pos hl]
          obtain ⟨hnd, hS⟩ := rel.cell l a _ hρ hc
          refine Run.ok (wpAny_bind (call_set_add (knd := intKind K.prog K.w) (k := i) (by simp [intKind, Value.isInt]) rfl hS (by show ns.length + 1 < 4096; (first | lia | omega)) fun h' hsb hS' => wpAny_pure ?_))
          have hS2 : CelRep K h' ρ (.set (if i ∈ ns then ns else ns ++ [i])) a := by
            by_cases hi : i ∈ ns
            · rw [if_pos hi]
              rw [if_pos (decide_eq_true hi)] at hS'
              have e : (fun k' => decide (k' ∈ ns) || decide (k' = i)) = fun k => decide (k ∈ ns) := by
                funext k
                by_cases hk : k = i
                · subst hk; simp [hi]
                · simp [hk]
              rw [e] at hS'
              exact ⟨hnd, hS'⟩
            · rw [if_neg hi]
              rw [if_neg (by simpa using hi)] at hS'
              refine ⟨List.nodup_append.mpr ⟨hnd, by simp, fun x hx y hy q => hi (by rw [List.mem_singleton.mp hy] at q; exact q ▸ hx)⟩, ?_⟩
              have e : (fun k' => decide (k' ∈ ns) || decide (k' = i)) = fun k => decide (k ∈ ns ++ [i]) := by
                funext k
                simp
              rw [e] at hS'
              rw [List.length_append]
              exact hS'
          obtain ⟨o, _, _, _, eo, _⟩ := hS'
          obtain ⟨r1, r2⟩ := rel.updC (s' := { s with heap := h', toks := s.toks + 1 }) hρ hl.1 hsb hS2 ⟨o, eo⟩ rfl rfl
          exact ⟨ρ, r1, r2, trivial⟩
        · rw [if_neg hl]; exact Run.stuck
  | _ => exact Run.stuck
theorem simA_emitS {elt : Expr} {me : M V} (he : SimE K F elt me) (l : Nat) (a : Addr) : SimA K F l a (emitS elt F.env (.ref a)) (do let v ← me; addAt l v) := by
  intro σ ρ s rel hla
  unfold emitS
  refine Run.bind (he σ ρ s rel) fun v σ₁ ρ₁ s₁ w _ rel₁ x₁ rv => ?_
  exact Run.standAt (run_setAdd rel₁ (getElem?_prefix x₁.pre hla) rv)

theorem simE_setcomp (fk : FOk F) {elt target iter : Expr} {ifs : List Expr} {gs : List Comprehension} {scope : Scope} {pos : Pos} {cl : List (Str × Addr)} {free : List String} {mi : M V} {mc : Nat → (S → Nat → Option (Option V)) → M Unit}
    (ck : CompOk F scope cl free) (hi : SimE K F iter mi)
    (hc : ∀ C, SimClauses K (compFrm F scope cl C) (.SetComp elt (⟨target, iter, ifs, 0⟩ :: gs) scope pos) 0 mc) (hs : ∀ x, foldedSetIterable iter F.env x = pure x := by intro _; rfl) (hnh : F.nh = true := by rfl) :
    SimE K F (.SetComp elt (⟨target, iter, ifs, 0⟩ :: gs) scope pos) (mi >>= compTailC (.set []) free mc) := by
  intro σ ρ s rel
  refine Run.of_wp fun hne => ?_
  show wpAny _ _ (comprehension (.SetComp elt (⟨target, iter, ifs, 0⟩ :: gs) scope pos) scope F.env _ (newSet (.type "set")) false (eval iter F.env) none) _ _ s
  refine wp_comp fk (use := none) rfl accOk_set hs ck hi hc rel hne hnh ?_ fun _ _ q => q
  intro v σ' ρ' s' w C m e r1 x1 rv hm q1 q2 q3 q4
  exact ⟨m, hm, fun h' hsb => ⟨v, σ', ρ', e, r1.butC q3 q1 q2 hm hsb rfl rfl (rel.noFrame q4), x1.butC q4 hsb, Rep.mono' (List.prefix_refl _) (fun b o e f => (hsb.2 b (ns_ne_tup hm e f)).trans e) rv⟩⟩

noncomputable def lenSet : List V → M V
  | [.obj l] => fun σ => match σ.st[l]? with
    | some (.set ns) => .ok (.int ns.length) σ
    | _ => .stuck
  | _ => fun _ => .stuck
theorem built_lenSet : BuiltOk K (.builtin "len") lenSet := by
  intro F fk hnh σ ρ s vs ws rel r
  cases vs with
  | nil => exact Run.stuck
  | cons v vs =>
    cases v with
    | obj l =>
      cases vs with
      | nil =>
        obtain ⟨w, ws', rfl, r1, r2⟩ := RepL.cons_iff.mp r
        rw [RepL.nil_iff.mp r2]
        obtain ⟨a, hρ, rfl⟩ := Rep.obj_iff.mp r1
        unfold lenSet
        dsimp only
        cases hc : σ.st[l]? with
        | none => exact Run.stuck
        | some c =>
          cases c with
          | lst _ => exact Run.stuck
          | itr _ _ _ => exact Run.stuck
          | set ns =>
            obtain ⟨hnd, o, es, ep, t, e, ex, d, _, _, hsz, hf, hn⟩ := rel.cell l a _ hρ hc
            have hsz' : es.size < 4096 := hsz
            refine Run.ok (call_len_set e ex d hf (by (first | lia | omega)) ⟨ρ, rel.tok _, Ext.kept fun _ _ e => e, ?_⟩)
            rw [hn]; exact Rep.int ..
      | cons _ _ => exact Run.stuck
    | _ => exact Run.stuck
noncomputable def inS : V → V → M V
  | .int i, .obj l => fun σ => match σ.st[l]? with
    | some (.set ns) => .ok (.bool (decide (i ∈ ns))) σ
    | _ => .stuck
  | _, _ => fun _ => .stuck
theorem cmp_inS : CmpOk K .In inS := by
  intro F fk σ ρ s a b wa wb rel ra rb
  cases a with
  | int i =>
    cases b with
    | obj l =>
      obtain ⟨t, rfl⟩ := Rep.int_iff.mp ra
      obtain ⟨ad, hρ, rfl⟩ := Rep.obj_iff.mp rb
      unfold inS
      dsimp only
      cases hc : σ.st[l]? with
      | none => exact Run.stuck
      | some c =>
        cases c with
        | lst _ => exact Run.stuck
        | itr _ _ _ => exact Run.stuck
        | set ns =>
          obtain ⟨hnd, hS⟩ := rel.cell l ad _ hρ hc
          exact Run.ok (wpAny_inSet_of (knd := intKind K.prog K.w) (k := i) (by simp [intKind, Value.isInt]) rfl hS ⟨ρ, rel.tok _, Ext.kept fun _ _ e => e, Rep.bool _⟩)
    | _ => exact Run.stuck
  | _ => exact Run.stuck
end

/-! part G04 -/
set_option autoImplicit false
set_option maxRecDepth 100000
set_option linter.unusedVariables false
set_option Elab.async false
set_option maxHeartbeats 2000000
open PySem PySem.W PyProof.Rows
section
noncomputable abbrev prg : Program := PySem.Challenge.pw_dm0136_04
noncomputable def bltNames : List String := ["TypeError", "isinstance", "len", "list", "min", "ord", "range", "reversed", "sorted", "str"]
noncomputable def siftdown_r : DefRec := recAt prg 4
theorem has_f_siftdown {K : Glo} (hp : ∀ d ∈ recsOf prg, d ∈ recsOf K.p) (hfree : ∀ x ∈ bltNames, K.mg (Str.ofString x) = none) : HasF K "_siftdown" 1 f_siftdown := by
  refine hasF_of (d := siftdown_r) (lvl := 0) (hp _ (List.mem_iff_getElem?.mpr ⟨3, by kernel_rfl⟩)) (by kernel_rfl) (by kernel_rfl) (by kernel_rfl) (by kernel_rfl) (by decide) ?_ ?_ ?_
  · intro pm code doc ws h
    obtain ⟨a0, a1, a2, rfl⟩ := len3 h
    rfl
  · intro n y hy
    simp only [List.mem_cons, List.not_mem_nil, or_false] at hy
    rcases hy with rfl | rfl | rfl
    · exact .inl (by kernel_rfl)
    · exact .inl (by kernel_rfl)
    · exact .inl (by kernel_rfl)
  · intro pm code doc L fa A hr fk
    show SimSs K _ _ siftdown_m
    exact (simSs_cons (simS_assign _ (simT_local "newitem" _ fk (by kernel_rfl)) (simE_sub fk _ (simE_name fk "heap" _) (simE_name fk "pos" _))) (simSs_cons (simS_while _ 4096 (simB_cmp fk cmp_gt tru_ok _ (simE_name fk "pos" _) (simE_name fk "startpos" _)) (simSs_cons (simS_assign _ (simT_local "parentpos" _ fk (by kernel_rfl)) (simE_bin fk bin_shr _ (simE_bin fk bin_sub _ (simE_name fk "pos" _) (simE_int 1 _ _)) (simE_int 1 _ _))) (simSs_cons (simS_assign _ (simT_local "parent" _ fk (by kernel_rfl)) (simE_sub fk _ (simE_name fk "heap" _) (simE_name fk "parentpos" _))) (simSs_cons (simS_if _ (simB_cmpX fk cmp_ltX tru_ok _ (simE_name fk "newitem" _) (simE_name fk "parent" _)) (simSs_cons (simS_assign _ (simT_sub fk _ (simE_name fk "heap" _) (simE_name fk "pos" _)) (simE_name fk "parent" _)) (simSs_cons (simS_assign _ (simT_local "pos" _ fk (by kernel_rfl)) (simE_name fk "parentpos" _)) (simSs_one (simS_continue _)))) simSs_nil) (simSs_one (simS_break _)))))) (simSs_one (simS_assign _ (simT_sub fk _ (simE_name fk "heap" _) (simE_name fk "pos" _)) (simE_name fk "newitem" _)))))
noncomputable def heappush_r : DefRec := recAt prg 1
theorem has_f_heappush {K : Glo} (hp : ∀ d ∈ recsOf prg, d ∈ recsOf K.p) (hfree : ∀ x ∈ bltNames, K.mg (Str.ofString x) = none) (h_siftdown : HasF K "_siftdown" 1 f_siftdown) : HasF K "heappush" 2 f_heappush := by
  refine hasF_of (d := heappush_r) (lvl := 1) (hp _ (List.mem_iff_getElem?.mpr ⟨0, by kernel_rfl⟩)) (by kernel_rfl) (by kernel_rfl) (by kernel_rfl) (by kernel_rfl) (by decide) ?_ ?_ ?_
  · intro pm code doc ws h
    obtain ⟨a0, a1, rfl⟩ := len2 h
    rfl
  · intro n y hy
    simp only [List.mem_cons, List.not_mem_nil, or_false] at hy
    rcases hy with rfl | rfl
    · exact .inl (by kernel_rfl)
    · exact .inl (by kernel_rfl)
  · intro pm code doc L fa A hr fk
    show SimSs K _ _ heappush_m
    exact (simSs_cons (simS_expr fk _ (simE_meth fk PySem.F.slot_list_append PySem.F.type_list_append (simE_name fk "heap" _) (simEs_cons (simE_name fk "item" _) simEs_nil) meth_append)) (simSs_one (simS_expr fk _ (simE_callF fk h_siftdown (hr.le (by decide)) (simEs_cons (simE_name fk "heap" _) (simEs_cons (simE_int 0 _ _) (simEs_cons (simE_bin fk bin_sub _ (simE_callB fk rfl (by kernel_rfl) (hfree "len" (by decide)) (by kernel_rfl) built_len (simEs_cons (simE_name fk "heap" _) simEs_nil)) (simE_int 1 _ _)) simEs_nil)))))))
noncomputable def siftup_r : DefRec := recAt prg 5
theorem has_f_siftup {K : Glo} (hp : ∀ d ∈ recsOf prg, d ∈ recsOf K.p) (hfree : ∀ x ∈ bltNames, K.mg (Str.ofString x) = none) (h_siftdown : HasF K "_siftdown" 1 f_siftdown) : HasF K "_siftup" 2 f_siftup := by
  refine hasF_of (d := siftup_r) (lvl := 1) (hp _ (List.mem_iff_getElem?.mpr ⟨4, by kernel_rfl⟩)) (by kernel_rfl) (by kernel_rfl) (by kernel_rfl) (by kernel_rfl) (by decide) ?_ ?_ ?_
  · intro pm code doc ws h
    obtain ⟨a0, a1, rfl⟩ := len2 h
    rfl
  · intro n y hy
    simp only [List.mem_cons, List.not_mem_nil, or_false] at hy
    rcases hy with rfl | rfl
    · exact .inl (by kernel_rfl)
    · exact .inl (by kernel_rfl)
  · intro pm code doc L fa A hr fk
    show SimSs K _ _ siftup_m
    exact (simSs_cons (simS_assign _ (simT_local "endpos" _ fk (by kernel_rfl)) (simE_callB fk rfl (by kernel_rfl) (hfree "len" (by decide)) (by kernel_rfl) built_len (simEs_cons (simE_name fk "heap" _) simEs_nil))) (simSs_cons (simS_assign _ (simT_local "startpos" _ fk (by kernel_rfl)) (simE_name fk "pos" _)) (simSs_cons (simS_assign _ (simT_local "newitem" _ fk (by kernel_rfl)) (simE_sub fk _ (simE_name fk "heap" _) (simE_name fk "pos" _))) (simSs_cons (simS_assign _ (simT_local "childpos" _ fk (by kernel_rfl)) (simE_bin fk bin_add _ (simE_bin fk bin_mul _ (simE_int 2 _ _) (simE_name fk "pos" _)) (simE_int 1 _ _))) (simSs_cons (simS_while _ 4096 (simB_cmp fk cmp_lt tru_ok _ (simE_name fk "childpos" _) (simE_name fk "endpos" _)) (simSs_cons (simS_assign _ (simT_local "rightpos" _ fk (by kernel_rfl)) (simE_bin fk bin_add _ (simE_name fk "childpos" _) (simE_int 1 _ _))) (simSs_cons (simS_if _ (simB_boolop _ (simAll_and (simB_cmp fk cmp_lt tru_ok _ (simE_name fk "rightpos" _) (simE_name fk "endpos" _)) (simAll_and (simB_not _ (simB_cmpX fk cmp_ltX tru_ok _ (simE_sub fk _ (simE_name fk "heap" _) (simE_name fk "childpos" _)) (simE_sub fk _ (simE_name fk "heap" _) (simE_name fk "rightpos" _)))) simAll_and_nil))) (simSs_one (simS_assign _ (simT_local "childpos" _ fk (by kernel_rfl)) (simE_name fk "rightpos" _))) simSs_nil) (simSs_cons (simS_assign _ (simT_sub fk _ (simE_name fk "heap" _) (simE_name fk "pos" _)) (simE_sub fk _ (simE_name fk "heap" _) (simE_name fk "childpos" _))) (simSs_cons (simS_assign _ (simT_local "pos" _ fk (by kernel_rfl)) (simE_name fk "childpos" _)) (simSs_one (simS_assign _ (simT_local "childpos" _ fk (by kernel_rfl)) (simE_bin fk bin_add _ (simE_bin fk bin_mul _ (simE_int 2 _ _) (simE_name fk "pos" _)) (simE_int 1 _ _))))))))) (simSs_cons (simS_assign _ (simT_sub fk _ (simE_name fk "heap" _) (simE_name fk "pos" _)) (simE_name fk "newitem" _)) (simSs_one (simS_expr fk _ (simE_callF fk h_siftdown (hr.le (by decide)) (simEs_cons (simE_name fk "heap" _) (simEs_cons (simE_name fk "startpos" _) (simEs_cons (simE_name fk "pos" _) simEs_nil))))))))))))
noncomputable def heappop_r : DefRec := recAt prg 2
theorem has_f_heappop {K : Glo} (hp : ∀ d ∈ recsOf prg, d ∈ recsOf K.p) (hfree : ∀ x ∈ bltNames, K.mg (Str.ofString x) = none) (h_siftup : HasF K "_siftup" 2 f_siftup) : HasF K "heappop" 3 f_heappop := by
  refine hasF_of (d := heappop_r) (lvl := 2) (hp _ (List.mem_iff_getElem?.mpr ⟨1, by kernel_rfl⟩)) (by kernel_rfl) (by kernel_rfl) (by kernel_rfl) (by kernel_rfl) (by decide) ?_ ?_ ?_
  · intro pm code doc ws h
    obtain ⟨a0, rfl⟩ := len1 h
    rfl
  · intro n y hy
    simp only [List.mem_cons, List.not_mem_nil, or_false] at hy
    subst hy
    · exact .inl (by kernel_rfl)
  · intro pm code doc L fa A hr fk
    show SimSs K _ _ heappop_m
    exact (simSs_cons (simS_assign _ (simT_local "lastelt" _ fk (by kernel_rfl)) (simE_meth fk PySem.F.slot_list_pop PySem.F.type_list_pop (simE_name fk "heap" _) simEs_nil meth_pop0)) (simSs_cons (simS_if _ (simB_val fk tru_ok (simE_name fk "heap" _)) (simSs_cons (simS_assign _ (simT_local "returnitem" _ fk (by kernel_rfl)) (simE_sub fk _ (simE_name fk "heap" _) (simE_int 0 _ _))) (simSs_cons (simS_assign _ (simT_sub fk _ (simE_name fk "heap" _) (simE_int 0 _ _)) (simE_name fk "lastelt" _)) (simSs_cons (simS_expr fk _ (simE_callF fk h_siftup (hr.le (by decide)) (simEs_cons (simE_name fk "heap" _) (simEs_cons (simE_int 0 _ _) simEs_nil)))) (simSs_one (simS_return _ (simE_name fk "returnitem" _)))))) simSs_nil) (simSs_one (simS_return _ (simE_name fk "lastelt" _)))))
noncomputable def heapify_r : DefRec := recAt prg 3
theorem has_f_heapify {K : Glo} (hp : ∀ d ∈ recsOf prg, d ∈ recsOf K.p) (hfree : ∀ x ∈ bltNames, K.mg (Str.ofString x) = none) (h_siftup : HasF K "_siftup" 2 f_siftup) : HasF K "heapify" 3 f_heapify := by
  refine hasF_of (d := heapify_r) (lvl := 2) (hp _ (List.mem_iff_getElem?.mpr ⟨2, by kernel_rfl⟩)) (by kernel_rfl) (by kernel_rfl) (by kernel_rfl) (by kernel_rfl) (by decide) ?_ ?_ ?_
  · intro pm code doc ws h
    obtain ⟨a0, rfl⟩ := len1 h
    rfl
  · intro n y hy
    simp only [List.mem_cons, List.not_mem_nil, or_false] at hy
    subst hy
    · exact .inl (by kernel_rfl)
  · intro pm code doc L fa A hr fk
    show SimSs K _ _ heapify_m
    exact (simSs_cons (simS_assign _ (simT_local "n" _ fk (by kernel_rfl)) (simE_callB fk rfl (by kernel_rfl) (hfree "len" (by decide)) (by kernel_rfl) built_len (simEs_cons (simE_name fk "x" _) simEs_nil))) (simSs_one (simS_for_rev fk _ 4096 (by kernel_rfl) (hfree "reversed" (by decide)) (simE_callB fk rfl (by kernel_rfl) (hfree "range" (by decide)) (by kernel_rfl) built_range1 (simEs_cons (simE_bin fk bin_fdiv _ (simE_name fk "n" _) (simE_int 2 _ _)) simEs_nil)) (simT_local "i" _ fk (by kernel_rfl)) (simSs_one (simS_expr fk _ (simE_callF fk h_siftup (hr.le (by decide)) (simEs_cons (simE_name fk "x" _) (simEs_cons (simE_name fk "i" _) simEs_nil))))))))

/-! _law_item -/
noncomputable def law_item_s1 : M Fl := (do let v ← (do let vs ← (do let v ← (do if (← (do let a ← (getv "rest"); let b ← (pure (V.int 6) : M V); let c ← ltV a b; truV c)) = true then (getv "own") else (do let a ← (getv "own"); let b ← (pure (V.int 12) : M V); fmodV a b)); let vs ← (do let v ← (getv "task"); let vs ← (do let v ← (getv "k"); let vs ← (pure [] : M (List V)); pure (v :: vs)); pure (v :: vs)); pure (v :: vs)); newL vs); pure (.ret v) : M Fl)
noncomputable def law_item_s2 : M Fl := (seqM (do let v ← (do if (← (do let a ← (do let a ← (getv "rest"); let b ← (pure (V.int 6) : M V); fmodV a b); let b ← (pure (V.int 5) : M V); let c ← eqV a b; truV c)) = true then (do let o ← (pure (V.str (Str.ofString "ab")) : M V); let i ← (do let a ← (do let a ← (getv "own"); let b ← (pure (V.int 12) : M V); fdivV a b); let b ← (pure (V.int 2) : M V); fmodV a b); sgnI o i) else (do let a ← (getv "rest"); let b ← (pure (V.int 6) : M V); fmodV a b)); (fun v => setv "task" v) v; pure .next : M Fl) law_item_s1)
noncomputable def law_item_s3 : M Fl := (seqM (do let v ← (do let a ← (getv "x"); let b ← (pure (V.int 12) : M V); fdivV a b); (fun v => setv "own" v) v; pure .next : M Fl) law_item_s2)
noncomputable def law_item_m : M Fl := (seqM (do let v ← (do let a ← (getv "x"); let b ← (pure (V.int 12) : M V); fmodV a b); (fun v => setv "rest" v) v; pure .next : M Fl) law_item_s3)
noncomputable def f_law_item : Fun := funM ["x", "k"] law_item_m
noncomputable def law_item_r : DefRec := recAt prg 7
theorem has_f_law_item {K : Glo} (hp : ∀ d ∈ recsOf prg, d ∈ recsOf K.p) (hfree : ∀ x ∈ bltNames, K.mg (Str.ofString x) = none) : HasF K "_law_item" 1 f_law_item := by
  refine hasF_of (d := law_item_r) (lvl := 0) (hp _ (List.mem_iff_getElem?.mpr ⟨5, by kernel_rfl⟩)) (by kernel_rfl) (by kernel_rfl) (by kernel_rfl) (by kernel_rfl) (by decide) ?_ ?_ ?_
  · intro pm code doc ws h
    obtain ⟨a0, a1, rfl⟩ := len2 h
    rfl
  · intro n y hy
    simp only [List.mem_cons, List.not_mem_nil, or_false] at hy
    rcases hy with rfl | rfl
    · exact .inl (by kernel_rfl)
    · exact .inl (by kernel_rfl)
  · intro pm code doc L fa A hr fk
    show SimSs K _ _ law_item_m
    exact (simSs_cons (simS_assign _ (simT_local "rest" _ fk (by kernel_rfl)) (simE_bin fk bin_fmod _ (simE_name fk "x" _) (simE_int 12 _ _))) (simSs_cons (simS_assign _ (simT_local "own" _ fk (by kernel_rfl)) (simE_bin fk bin_fdiv _ (simE_name fk "x" _) (simE_int 12 _ _))) (simSs_cons (simS_assign _ (simT_local "task" _ fk (by kernel_rfl)) (simE_ite _ (simB_cmp fk cmp_eq tru_ok _ (simE_bin fk bin_fmod _ (simE_name fk "rest" _) (simE_int 6 _ _)) (simE_int 5 _ _)) (simE_sgn fk _ (simE_str _ _ _) (simE_bin fk bin_fmod _ (simE_bin fk bin_fdiv _ (simE_name fk "own" _) (simE_int 12 _ _)) (simE_int 2 _ _))) (simE_bin fk bin_fmod _ (simE_name fk "rest" _) (simE_int 6 _ _)))) (simSs_one (simS_return _ (simE_list _ (simEs_cons (simE_ite _ (simB_cmp fk cmp_lt tru_ok _ (simE_name fk "rest" _) (simE_int 6 _ _)) (simE_name fk "own" _) (simE_bin fk bin_fmod _ (simE_name fk "own" _) (simE_int 12 _ _))) (simEs_cons (simE_name fk "task" _) (simEs_cons (simE_name fk "k" _) simEs_nil)))))))))

/-! _law_clash -/
noncomputable def law_clash_c1_t : V → M Unit := (fun v => setv "item" v)
noncomputable def law_clash_c1_i : M Bool := (do if (← (do let v ← (do let v ← (do let o ← (getv "item"); let i ← (pure (V.int 1) : M V); getI o i); isStrV v); truV v)) = true then (do if (← (do let a ← (do let o ← (getv "item"); let i ← (pure (V.int 0) : M V); getI o i); let b ← (getv "numbers"); let c ← inV a b; truV c)) = true then (pure true : M Bool) else pure false) else pure false)
noncomputable def law_clash_c1_e (l : Nat) : M Unit := (do let v ← (do let o ← (getv "item"); let i ← (pure (V.int 0) : M V); getI o i); appendAt l v)
noncomputable def law_clash_c1 (l : Nat) (nxt : S → Nat → Option (Option V)) : M Unit := loopC 4096 law_clash_c1_t law_clash_c1_i (law_clash_c1_e l) nxt
noncomputable def law_clash_c2_t : V → M Unit := (fun v => setv "item" v)
noncomputable def law_clash_c2_i : M Bool := (do let b ← (do let v ← (do let v ← (do let o ← (getv "item"); let i ← (pure (V.int 1) : M V); getI o i); isStrV v); truV v); pure (!b))
noncomputable def law_clash_c2_e (l : Nat) : M Unit := (do let v ← (do let o ← (getv "item"); let i ← (pure (V.int 0) : M V); getI o i); appendAt l v)
noncomputable def law_clash_c2 (l : Nat) (nxt : S → Nat → Option (Option V)) : M Unit := loopC 4096 law_clash_c2_t law_clash_c2_i (law_clash_c2_e l) nxt
noncomputable def law_clash_s3 : M Fl := (do let v ← ((getv "items") >>= compTail ["numbers"] law_clash_c1); pure (.ret v) : M Fl)
noncomputable def law_clash_m : M Fl := (seqM (do let v ← ((getv "items") >>= compTail [] law_clash_c2); (fun v => setv "numbers" v) v; pure .next : M Fl) law_clash_s3)
noncomputable def f_law_clash : Fun := funM ["items"] law_clash_m
noncomputable def law_clash_r : DefRec := recAt prg 8
theorem has_f_law_clash {K : Glo} (hp : ∀ d ∈ recsOf prg, d ∈ recsOf K.p) (hfree : ∀ x ∈ bltNames, K.mg (Str.ofString x) = none) : HasF K "_law_clash" 1 f_law_clash := by
  refine hasF_of (d := law_clash_r) (lvl := 0) (hp _ (List.mem_iff_getElem?.mpr ⟨6, by kernel_rfl⟩)) (by kernel_rfl) (by kernel_rfl) (by kernel_rfl) (by kernel_rfl) (by decide) ?_ ?_ ?_
  · intro pm code doc ws h
    obtain ⟨a0, rfl⟩ := len1 h
    rfl
  · intro n y hy
    simp only [List.mem_cons, List.not_mem_nil, or_false] at hy
    subst hy
    · exact .inl (by kernel_rfl)
  · intro pm code doc L fa A hr fk
    show SimSs K _ _ law_clash_m
    exact (simSs_cons (simS_assign _ (simT_cellD "numbers" _ fk (by kernel_rfl) rfl) (simE_listcomp fk ⟨rfl, rfl, by decide +kernel, by decide +kernel, (by intro x hx; cases hx), (by intro x c h; cases h)⟩ (simE_name fk "items" _) (fun C => clauses_of 4096 rfl (fun acc => turn_end rfl rfl (test := (some _)) rfl) (simT_local "item" _ (FOk.comp fk rfl) (by kernel_rfl)) (simTest_some (simB_not _ (simB_val (FOk.comp fk rfl) tru_ok (simE_isStr (FOk.comp fk rfl) (by kernel_rfl) (hfree "isinstance" (by decide)) (by kernel_rfl) (hfree "str" (by decide)) (simE_sub (FOk.comp fk rfl) _ (simE_name (FOk.comp fk rfl) "item" _) (simE_int 1 _ _)))))) (fun l a => simA_emit (FOk.comp fk rfl) (simE_sub (FOk.comp fk rfl) _ (simE_name (FOk.comp fk rfl) "item" _) (simE_int 0 _ _)) l a)))) (simSs_one (simS_return _ (simE_listcomp fk ⟨rfl, rfl, by decide +kernel, by decide +kernel, (by intro x hx; simp only [List.mem_cons, List.not_mem_nil, or_false] at hx; rcases hx with rfl <;> exact ⟨by first | exact .inl (by rfl) | exact .inr (by rfl), kne_cell (by kernel_rfl), fun c h => h⟩), (ck_cells (ck_cons rfl ck_nil))⟩ (simE_name fk "items" _) (fun C => clauses_of 4096 rfl (fun acc => turn_end rfl rfl (test := (some _)) rfl) (simT_local "item" _ (FOk.comp fk rfl) (by kernel_rfl)) (simTest_some (simB_boolop _ (simAll_and (simB_val (FOk.comp fk rfl) tru_ok (simE_isStr (FOk.comp fk rfl) (by kernel_rfl) (hfree "isinstance" (by decide)) (by kernel_rfl) (hfree "str" (by decide)) (simE_sub (FOk.comp fk rfl) _ (simE_name (FOk.comp fk rfl) "item" _) (simE_int 1 _ _)))) (simAll_and (simB_cmp (FOk.comp fk rfl) cmp_in tru_ok _ (simE_sub (FOk.comp fk rfl) _ (simE_name (FOk.comp fk rfl) "item" _) (simE_int 0 _ _)) (simE_name (FOk.comp fk rfl) "numbers" _)) simAll_and_nil)))) (fun l a => simA_emit (FOk.comp fk rfl) (simE_sub (FOk.comp fk rfl) _ (simE_name (FOk.comp fk rfl) "item" _) (simE_int 0 _ _)) l a))))))

/-! _law_order -/
noncomputable def law_order_c1_t : V → M Unit := (fun v => setv "mark" v)
noncomputable def law_order_c1_i : M Bool := (pure true : M Bool)
noncomputable def law_order_c1_e (l : Nat) : M Unit := (do let v ← (do let o ← (getv "mark"); let i ← (pure (V.int 3) : M V); getI o i); appendAt l v)
noncomputable def law_order_c1 (l : Nat) (nxt : S → Nat → Option (Option V)) : M Unit := loopC 4096 law_order_c1_t law_order_c1_i (law_order_c1_e l) nxt
noncomputable def law_order_l2_t : V → M Unit := (unpackL 3 (consT (fun v => setv "priority" v) (consT (fun v => setv "task" v) (consT (fun v => setv "k" v) (fun _ => pure ())))))
noncomputable def law_order_l2_b : M Fl := (do if (← (do let v ← (do let v ← (getv "task"); isStrV v); truV v)) = true then (do let _ ← (do let ov ← (getv "marks"); chkL ov; let vs ← (do let v ← (do let vs ← (do let v ← (getv "priority"); let vs ← (do let v ← (pure (V.int 1) : M V); let vs ← (do let v ← (do let vs ← (do let v ← (getv "task"); let vs ← (pure [] : M (List V)); pure (v :: vs)); ordB vs); let vs ← (do let v ← (getv "k"); let vs ← (pure [] : M (List V)); pure (v :: vs)); pure (v :: vs)); pure (v :: vs)); pure (v :: vs)); mkT vs); let vs ← (pure [] : M (List V)); pure (v :: vs)); appendG ov vs); pure .next : M Fl) else (do let _ ← (do let ov ← (getv "marks"); chkL ov; let vs ← (do let v ← (do let vs ← (do let v ← (getv "priority"); let vs ← (do let v ← (pure (V.int 0) : M V); let vs ← (do let v ← (getv "task"); let vs ← (do let v ← (getv "k"); let vs ← (pure [] : M (List V)); pure (v :: vs)); pure (v :: vs)); pure (v :: vs)); pure (v :: vs)); mkT vs); let vs ← (pure [] : M (List V)); pure (v :: vs)); appendG ov vs); pure .next : M Fl) : M Fl)
noncomputable def law_order_s3 : M Fl := (do let v ← ((do let vs ← (do let v ← (getv "marks"); let vs ← (pure [] : M (List V)); pure (v :: vs)); sortedN vs) >>= compTail [] law_order_c1); pure (.ret v) : M Fl)
noncomputable def law_order_s4 : M Fl := (seqM (do let v ← (getv "items"); okIter v; forG (nxtOf v) law_order_l2_t law_order_l2_b 4096 0) law_order_s3)
noncomputable def law_order_m : M Fl := (seqM (do let v ← (do let vs ← (pure [] : M (List V)); newL vs); (fun v => setv "marks" v) v; pure .next : M Fl) law_order_s4)
noncomputable def f_law_order : Fun := funM ["items"] law_order_m
noncomputable def law_order_r : DefRec := recAt prg 9
theorem has_f_law_order {K : Glo} (hp : ∀ d ∈ recsOf prg, d ∈ recsOf K.p) (hfree : ∀ x ∈ bltNames, K.mg (Str.ofString x) = none) : HasF K "_law_order" 1 f_law_order := by
  refine hasF_of (d := law_order_r) (lvl := 0) (hp _ (List.mem_iff_getElem?.mpr ⟨7, by kernel_rfl⟩)) (by kernel_rfl) (by kernel_rfl) (by kernel_rfl) (by kernel_rfl) (by decide) ?_ ?_ ?_
  · intro pm code doc ws h
    obtain ⟨a0, rfl⟩ := len1 h
    rfl
  · intro n y hy
    simp only [List.mem_cons, List.not_mem_nil, or_false] at hy
    subst hy
    · exact .inl (by kernel_rfl)
  · intro pm code doc L fa A hr fk
    show SimSs K _ _ law_order_m
    exact (simSs_cons (simS_assign _ (simT_local "marks" _ fk (by kernel_rfl)) (simE_list _ simEs_nil)) (simSs_cons (simS_for fk _ 4096 (simE_name fk "items" _) (simT_list fk _ _ (simTs_cons (simT_local "priority" _ fk (by kernel_rfl)) (simTs_cons (simT_local "task" _ fk (by kernel_rfl)) (simTs_cons (simT_local "k" _ fk (by kernel_rfl)) simTs_nil)))) (simSs_one (simS_if _ (simB_val fk tru_ok (simE_isStr fk (by kernel_rfl) (hfree "isinstance" (by decide)) (by kernel_rfl) (hfree "str" (by decide)) (simE_name fk "task" _))) (simSs_one (simS_expr fk _ (simE_meth fk PySem.F.slot_list_append PySem.F.type_list_append (simE_name fk "marks" _) (simEs_cons (simE_tuple _ _ (simEs_cons (simE_name fk "priority" _) (simEs_cons (simE_int 1 _ _) (simEs_cons (simE_callB fk rfl (by kernel_rfl) (hfree "ord" (by decide)) (by kernel_rfl) built_ord (simEs_cons (simE_name fk "task" _) simEs_nil)) (simEs_cons (simE_name fk "k" _) simEs_nil))))) simEs_nil) meth_append))) (simSs_one (simS_expr fk _ (simE_meth fk PySem.F.slot_list_append PySem.F.type_list_append (simE_name fk "marks" _) (simEs_cons (simE_tuple _ _ (simEs_cons (simE_name fk "priority" _) (simEs_cons (simE_int 0 _ _) (simEs_cons (simE_name fk "task" _) (simEs_cons (simE_name fk "k" _) simEs_nil))))) simEs_nil) meth_append)))))) (simSs_one (simS_return _ (simE_listcomp fk ⟨rfl, rfl, by decide +kernel, by decide +kernel, (by intro x hx; cases hx), (by intro x c h; cases h)⟩ (simE_callB fk rfl (by kernel_rfl) (hfree "sorted" (by decide)) (by kernel_rfl) built_sortedN (simEs_cons (simE_name fk "marks" _) simEs_nil)) (fun C => clauses_of 4096 rfl (fun acc => turn_end rfl rfl (test := none) rfl) (simT_local "mark" _ (FOk.comp fk rfl) (by kernel_rfl)) simTest_none (fun l a => simA_emit (FOk.comp fk rfl) (simE_sub (FOk.comp fk rfl) _ (simE_name (FOk.comp fk rfl) "mark" _) (simE_int 3 _ _)) l a)))))))

/-! _law_run -/
noncomputable def law_run_l1_t : V → M Unit := (fun v => setv "item" v)
noncomputable def law_run_l1_b : M Fl := (do let _ ← (do let ov ← (getv "told"); chkL ov; let vs ← (do let v ← (do let o ← (do let vs ← (do let v ← (getv "heap"); let vs ← (pure [] : M (List V)); pure (v :: vs)); callF f_heappop vs); let i ← (pure (V.int 2) : M V); getI o i); let vs ← (pure [] : M (List V)); pure (v :: vs)); appendG ov vs); pure .next : M Fl)
noncomputable def law_run_s2 : M Fl := (do let v ← (getv "items"); okIter v; forG (nxtOf v) law_run_l1_t law_run_l1_b 4096 0)
noncomputable def law_run_s3 : M Fl := (do let _ ← (do let vs ← (do let v ← (getv "heap"); let vs ← (do let v ← (getv "item"); let vs ← (pure [] : M (List V)); pure (v :: vs)); pure (v :: vs)); callF f_heappush vs); pure .next : M Fl)
noncomputable def law_run_l4_t : V → M Unit := (fun v => setv "item" v)
noncomputable def law_run_l4_b : M Fl := (seqM (do let a ← getv "begun"; let b ← (pure (V.int 1) : M V); let c ← iaddV a b; setv "begun" c; pure .next : M Fl) law_run_s3)
noncomputable def law_run_s5 : M Fl := (seqM (do let v ← (pure (V.bool true) : M V); (fun v => setv "made" v) v; pure .next : M Fl) law_run_s2)
noncomputable def law_run_t6_b : M Fl := (seqM (do if (← (do let v ← (getv "pushed"); truV v)) = true then (do let v ← (getv "items"); okIter v; forG (nxtOf v) law_run_l4_t law_run_l4_b 4096 0) else (do let _ ← (do let vs ← (do let v ← (getv "heap"); let vs ← (pure [] : M (List V)); pure (v :: vs)); callF f_heapify vs); pure .next : M Fl) : M Fl) law_run_s5)
noncomputable def law_run_h7 (msg : Str) : M Fl := (do let v ← (do let vs ← (do let v ← (getv "heap"); let vs ← (do let v ← (getv "begun"); let vs ← (do let v ← (getv "made"); let vs ← (do let v ← (getv "told"); let vs ← (do let v ← (pure (V.str msg) : M V); let vs ← (pure [] : M (List V)); pure (v :: vs)); pure (v :: vs)); pure (v :: vs)); pure (v :: vs)); pure (v :: vs)); mkT vs); pure (.ret v) : M Fl)
noncomputable def law_run_s8 : M Fl := (do let v ← (do let vs ← (do let v ← (getv "heap"); let vs ← (do let v ← (getv "begun"); let vs ← (do let v ← (getv "made"); let vs ← (do let v ← (getv "told"); let vs ← (do let v ← (pure V.none : M V); let vs ← (pure [] : M (List V)); pure (v :: vs)); pure (v :: vs)); pure (v :: vs)); pure (v :: vs)); pure (v :: vs)); mkT vs); pure (.ret v) : M Fl)
noncomputable def law_run_s9 : M Fl := (seqM (tryM law_run_t6_b (hndM "TypeError" "fault" law_run_h7 noH)) law_run_s8)
noncomputable def law_run_s10 : M Fl := (seqM (do let v ← (pure (V.bool false) : M V); (fun v => setv "made" v) v; pure .next : M Fl) law_run_s9)
noncomputable def law_run_s11 : M Fl := (seqM (do let v ← (do let vs ← (pure [] : M (List V)); newL vs); (fun v => setv "told" v) v; pure .next : M Fl) law_run_s10)
noncomputable def law_run_s12 : M Fl := (seqM (do let v ← (do let vs ← (do let v ← (getv "heap"); let vs ← (pure [] : M (List V)); pure (v :: vs)); lenB vs); (fun v => setv "begun" v) v; pure .next : M Fl) law_run_s11)
noncomputable def law_run_m : M Fl := (seqM (do let v ← (do if (← (do let v ← (getv "pushed"); truV v)) = true then (do let vs ← (pure [] : M (List V)); newL vs) else (do let vs ← (do let v ← (getv "items"); let vs ← (pure [] : M (List V)); pure (v :: vs)); listB vs)); (fun v => setv "heap" v) v; pure .next : M Fl) law_run_s12)
noncomputable def f_law_run : Fun := funM ["items", "pushed"] law_run_m
noncomputable def law_run_r : DefRec := recAt prg 10
theorem has_f_law_run {K : Glo} (hp : ∀ d ∈ recsOf prg, d ∈ recsOf K.p) (hfree : ∀ x ∈ bltNames, K.mg (Str.ofString x) = none) (hheapify : HasF K "heapify" 3 f_heapify) (hheappop : HasF K "heappop" 3 f_heappop) (hheappush : HasF K "heappush" 2 f_heappush) : HasF K "_law_run" 4 f_law_run := by
  refine hasF_of (d := law_run_r) (lvl := 3) (hp _ (List.mem_iff_getElem?.mpr ⟨8, by kernel_rfl⟩)) (by kernel_rfl) (by kernel_rfl) (by kernel_rfl) (by kernel_rfl) (by decide) ?_ ?_ ?_
  · intro pm code doc ws h
    obtain ⟨a0, a1, rfl⟩ := len2 h
    rfl
  · intro n y hy
    simp only [List.mem_cons, List.not_mem_nil, or_false] at hy
    rcases hy with rfl | rfl
    · exact .inl (by kernel_rfl)
    · exact .inl (by kernel_rfl)
  · intro pm code doc L fa A hr fk
    show SimSs K _ _ law_run_m
    exact (simSs_cons (simS_assign _ (simT_local "heap" _ fk (by kernel_rfl)) (simE_ite _ (simB_val fk tru_ok (simE_name fk "pushed" _)) (simE_list _ simEs_nil) (simE_callB fk rfl (by kernel_rfl) (hfree "list" (by decide)) (by kernel_rfl) built_list (simEs_cons (simE_name fk "items" _) simEs_nil)))) (simSs_cons (simS_assign _ (simT_local "begun" _ fk (by kernel_rfl)) (simE_callB fk rfl (by kernel_rfl) (hfree "len" (by decide)) (by kernel_rfl) built_len (simEs_cons (simE_name fk "heap" _) simEs_nil))) (simSs_cons (simS_assign _ (simT_local "told" _ fk (by kernel_rfl)) (simE_list _ simEs_nil)) (simSs_cons (simS_assign _ (simT_local "made" _ fk (by kernel_rfl)) (simE_bool false _ _)) (simSs_cons (simS_try fk (simSs_cons (simS_if _ (simB_val fk tru_ok (simE_name fk "pushed" _)) (simSs_one (simS_for fk _ 4096 (simE_name fk "items" _) (simT_local "item" _ fk (by kernel_rfl)) (simSs_cons (simS_aug fk inp_add "begun" _ (by kernel_rfl) (simE_int 1 _ _)) (simSs_one (simS_expr fk _ (simE_callF fk hheappush (hr.le (by decide)) (simEs_cons (simE_name fk "heap" _) (simEs_cons (simE_name fk "item" _) simEs_nil)))))))) (simSs_one (simS_expr fk _ (simE_callF fk hheapify (hr.le (by decide)) (simEs_cons (simE_name fk "heap" _) simEs_nil))))) (simSs_cons (simS_assign _ (simT_local "made" _ fk (by kernel_rfl)) (simE_bool true _ _)) (simSs_one (simS_for fk _ 4096 (simE_name fk "items" _) (simT_local "item" _ fk (by kernel_rfl)) (simSs_one (simS_expr fk _ (simE_meth fk PySem.F.slot_list_append PySem.F.type_list_append (simE_name fk "told" _) (simEs_cons (simE_sub fk _ (simE_callF fk hheappop (hr.le (by decide)) (simEs_cons (simE_name fk "heap" _) simEs_nil)) (simE_int 2 _ _)) simEs_nil) meth_append))))))) (simHs_as fk excT_TypeError (by kernel_rfl) (hfree "TypeError" (by decide)) (by kernel_rfl) (by kernel_rfl) (fun v msg => (simSsX_one (simSX_return_tuple _ _ _ (simEsX_cons (simEX_name (fk.h v) "heap" _) (simEsX_cons (simEX_name (fk.h v) "begun" _) (simEsX_cons (simEX_name (fk.h v) "made" _) (simEsX_cons (simEX_name (fk.h v) "told" _) (simEsX_cons (simEX_strOf (fk.h v) PySem.F.excStr_TypeError (by kernel_rfl) (hfree "str" (by decide)) (by kernel_rfl)) simEsX_nil)))))))) simHs_nil)) (simSs_one (simS_return _ (simE_tuple _ _ (simEs_cons (simE_name fk "heap" _) (simEs_cons (simE_name fk "begun" _) (simEs_cons (simE_name fk "made" _) (simEs_cons (simE_name fk "told" _) (simEs_cons (simE_none _ _) simEs_nil)))))))))))))

/-! law -/
noncomputable def law_c1_t : V → M Unit := (fun v => setv "k" v)
noncomputable def law_c1_i : M Bool := (do let a ← (getv "k"); let b ← (getv "inside"); let c ← inS a b; truV c)
noncomputable def law_c1_e (l : Nat) : M Unit := (do let v ← (getv "k"); appendAt l v)
noncomputable def law_c1 (l : Nat) (nxt : S → Nat → Option (Option V)) : M Unit := loopC 4096 law_c1_t law_c1_i (law_c1_e l) nxt
noncomputable def law_s2 : M Fl := (do if (← (do let a ← ((do let o ← (getv "order"); let i ← (do let a ← (pure V.none : M V); let b ← (do let a ← (do let vs ← (do let v ← (getv "told"); let vs ← (pure [] : M (List V)); pure (v :: vs)); lenB vs); let b ← (pure (V.int 1) : M V); addS a b); let c ← (pure V.none : M V); pure (a, b, c)); sliceV o i) >>= compTail ["inside"] law_c1); let b ← (do let vs ← (pure [] : M (List V)); newL vs); let c ← neV a b; truV c)) = true then (do let v ← (pure (V.bool false) : M V); pure (.ret v) : M Fl) else (pure .next : M Fl) : M Fl)
noncomputable def law_s3 : M Fl := (do if (← (do let v ← (getv "made"); truV v)) = true then (seqM (do if (← (do if (← (do let a ← (do let vs ← (do let v ← (getv "told"); let vs ← (pure [] : M (List V)); pure (v :: vs)); lenB vs); let b ← (getv "ahead"); let c ← geV a b; truV c)) = true then pure true else (do if (← (do let a ← (do let vs ← (do let v ← (getv "heap"); let vs ← (pure [] : M (List V)); pure (v :: vs)); lenB vs); let b ← (do let a ← (do let a ← (do let vs ← (do let v ← (getv "items"); let vs ← (pure [] : M (List V)); pure (v :: vs)); lenB vs); let b ← (do let vs ← (do let v ← (getv "told"); let vs ← (pure [] : M (List V)); pure (v :: vs)); lenB vs); subV a b); let b ← (pure (V.int 1) : M V); subV a b); let c ← neV a b; truV c)) = true then pure true else (pure false : M Bool)))) = true then (do let v ← (pure (V.bool false) : M V); pure (.ret v) : M Fl) else (pure .next : M Fl) : M Fl) law_s2) else (do if (← (do let a ← (do let vs ← (do let v ← (getv "heap"); let vs ← (pure [] : M (List V)); pure (v :: vs)); lenB vs); let b ← (getv "begun"); let c ← neV a b; truV c)) = true then (do let v ← (pure (V.bool false) : M V); pure (.ret v) : M Fl) else (pure .next : M Fl) : M Fl) : M Fl)
noncomputable def law_c4_t : V → M Unit := (fun v => setv "item" v)
noncomputable def law_c4_i : M Bool := (pure true : M Bool)
noncomputable def law_c4_e (l : Nat) : M Unit := (do let v ← (do let o ← (getv "item"); let i ← (pure (V.int 2) : M V); getI o i); addAt l v)
noncomputable def law_c4 (l : Nat) (nxt : S → Nat → Option (Option V)) : M Unit := loopC 4096 law_c4_t law_c4_i (law_c4_e l) nxt
noncomputable def law_s5 : M Fl := (seqM (do if (← (do let a ← (do let vs ← (do let v ← (getv "inside"); let vs ← (pure [] : M (List V)); pure (v :: vs)); lenSet vs); let b ← (do let a ← (do let vs ← (do let v ← (getv "heap"); let vs ← (pure [] : M (List V)); pure (v :: vs)); lenB vs); let b ← (pure (V.int 1) : M V); subV a b); let c ← ltV a b; truV c)) = true then (do let v ← (pure (V.bool false) : M V); pure (.ret v) : M Fl) else (pure .next : M Fl) : M Fl) law_s3)
noncomputable def law_s6 : M Fl := (seqM (do let v ← ((getv "heap") >>= compTailC (.set []) [] law_c4); (fun v => setv "inside" v) v; pure .next : M Fl) law_s5)
noncomputable def law_s7 : M Fl := (pure .cont : M Fl)
noncomputable def law_s8 : M Fl := (seqM (do if (← (do if (← (do let a ← (getv "fault"); let b ← (getv "words"); let c ← notInV a b; truV c)) = true then pure true else (do if (← (do let a ← (getv "told"); let b ← (do let o ← (getv "order"); let i ← (do let a ← (pure V.none : M V); let b ← (do let vs ← (do let v ← (getv "told"); let vs ← (pure [] : M (List V)); pure (v :: vs)); lenB vs); let c ← (pure V.none : M V); pure (a, b, c)); sliceV o i); let c ← neV a b; truV c)) = true then pure true else (pure false : M Bool)))) = true then (do let v ← (pure (V.bool false) : M V); pure (.ret v) : M Fl) else (pure .next : M Fl) : M Fl) law_s6)
noncomputable def law_s9 : M Fl := (seqM (do if (← (do let a ← (getv "clash"); let b ← (do let vs ← (pure [] : M (List V)); newL vs); let c ← eqV a b; truV c)) = true then (seqM (do if (← (do if (← (do let a ← (getv "fault"); let b ← (pure V.none : M V); let c ← isNotV a b; truV c)) = true then pure true else (do if (← (do let a ← (getv "told"); let b ← (getv "order"); let c ← neV a b; truV c)) = true then pure true else (pure false : M Bool)))) = true then (do let v ← (pure (V.bool false) : M V); pure (.ret v) : M Fl) else (pure .next : M Fl) : M Fl) law_s7) else (pure .next : M Fl) : M Fl) law_s8)
noncomputable def law_l10_t : V → M Unit := (fun v => setv "pushed" v)
noncomputable def law_l10_b : M Fl := (seqM (do let v ← (do let vs ← (do let v ← (getv "items"); let vs ← (do let v ← (getv "pushed"); let vs ← (pure [] : M (List V)); pure (v :: vs)); pure (v :: vs)); callF f_law_run vs); (unpackT 5 (consT (fun v => setv "heap" v) (consT (fun v => setv "begun" v) (consT (fun v => setv "made" v) (consT (fun v => setv "told" v) (consT (fun v => setv "fault" v) (fun _ => pure ()))))))) v; pure .next : M Fl) law_s9)
noncomputable def law_s11 : M Fl := (do let v ← (pure (V.bool true) : M V); pure (.ret v) : M Fl)
noncomputable def law_l12_t : V → M Unit := (unpackT 2 (consT (fun v => setv "one" v) (consT (fun v => setv "other" v) (fun _ => pure ()))))
noncomputable def law_l12_b : M Fl := (do let _ ← (do let ov ← (getv "words"); chkL ov; let vs ← (do let v ← (do let a ← (do let a ← (do let a ← (do let a ← (pure (V.str (Str.ofString "'<' not supported between instances of '")) : M V); let b ← (getv "one"); addS a b); let b ← (pure (V.str (Str.ofString "' and '")) : M V); addS a b); let b ← (getv "other"); addS a b); let b ← (pure (V.str (Str.ofString "'")) : M V); addS a b); let vs ← (pure [] : M (List V)); pure (v :: vs)); appendG ov vs); pure .next : M Fl)
noncomputable def law_s13 : M Fl := (seqM (do let v ← (do let vs ← (do let v ← (pure (V.bool false) : M V); let vs ← (do let v ← (pure (V.bool true) : M V); let vs ← (pure [] : M (List V)); pure (v :: vs)); pure (v :: vs)); mkT vs); okIter v; forG (nxtOf v) law_l10_t law_l10_b 4096 0) law_s11)
noncomputable def law_s14 : M Fl := (seqM (do let v ← (do let vs ← (do let v ← (do let vs ← (do let v ← (pure (V.str (Str.ofString "int")) : M V); let vs ← (do let v ← (pure (V.str (Str.ofString "str")) : M V); let vs ← (pure [] : M (List V)); pure (v :: vs)); pure (v :: vs)); mkT vs); let vs ← (do let v ← (do let vs ← (do let v ← (pure (V.str (Str.ofString "str")) : M V); let vs ← (do let v ← (pure (V.str (Str.ofString "int")) : M V); let vs ← (pure [] : M (List V)); pure (v :: vs)); pure (v :: vs)); mkT vs); let vs ← (pure [] : M (List V)); pure (v :: vs)); pure (v :: vs)); mkT vs); okIter v; forG (nxtOf v) law_l12_t law_l12_b 4096 0) law_s13)
noncomputable def law_c15_t : V → M Unit := (fun v => setv "k" v)
noncomputable def law_c15_i : M Bool := (do if (← (do let a ← (getv "clash"); let b ← (do let vs ← (pure [] : M (List V)); newL vs); let c ← neV a b; truV c)) = true then (do if (← (do let a ← (do let o ← (do let o ← (getv "items"); let i ← (getv "k"); getI o i); let i ← (pure (V.int 0) : M V); getI o i); let b ← (do let vs ← (do let v ← (getv "clash"); let vs ← (pure [] : M (List V)); pure (v :: vs)); minLB vs); let c ← ltV a b; truV c)) = true then (pure true : M Bool) else pure false) else pure false)
noncomputable def law_c15_e (l : Nat) : M Unit := (do let v ← (getv "k"); appendAt l v)
noncomputable def law_c15 (l : Nat) (nxt : S → Nat → Option (Option V)) : M Unit := loopC 4096 law_c15_t law_c15_i (law_c15_e l) nxt
noncomputable def law_s16 : M Fl := (seqM (do let v ← (do let vs ← (pure [] : M (List V)); newL vs); (fun v => setv "words" v) v; pure .next : M Fl) law_s14)
noncomputable def law_s17 : M Fl := (seqM (do let v ← (do let vs ← (do let v ← ((getv "order") >>= compTail ["clash", "items"] law_c15); let vs ← (pure [] : M (List V)); pure (v :: vs)); lenB vs); (fun v => setv "ahead" v) v; pure .next : M Fl) law_s16)
noncomputable def law_s18 : M Fl := (seqM (do let v ← (do let vs ← (do let v ← (getv "items"); let vs ← (pure [] : M (List V)); pure (v :: vs)); callF f_law_clash vs); (fun v => setv "clash" v) v; pure .next : M Fl) law_s17)
noncomputable def law_c19_t : V → M Unit := (fun v => setv "k" v)
noncomputable def law_c19_i : M Bool := (pure true : M Bool)
noncomputable def law_c19_e (l : Nat) : M Unit := (do let v ← (do let vs ← (do let v ← (do let o ← (getv "numbers"); let i ← (getv "k"); getI o i); let vs ← (do let v ← (getv "k"); let vs ← (pure [] : M (List V)); pure (v :: vs)); pure (v :: vs)); callF f_law_item vs); appendAt l v)
noncomputable def law_c19 (l : Nat) (nxt : S → Nat → Option (Option V)) : M Unit := loopC 4096 law_c19_t law_c19_i (law_c19_e l) nxt
noncomputable def law_s20 : M Fl := (seqM (do let v ← (do let vs ← (do let v ← (getv "items"); let vs ← (pure [] : M (List V)); pure (v :: vs)); callF f_law_order vs); (fun v => setv "order" v) v; pure .next : M Fl) law_s18)
noncomputable def law_s21 : M Fl := (seqM (do let v ← ((do let vs ← (do let v ← (do let vs ← (do let v ← (getv "numbers"); let vs ← (pure [] : M (List V)); pure (v :: vs)); lenB vs); let vs ← (pure [] : M (List V)); pure (v :: vs)); rangeB1 vs) >>= compTail ["numbers"] law_c19); (fun v => setv "items" v) v; pure .next : M Fl) law_s20)
noncomputable def law_m : M Fl := (seqM (do let v ← (do let a ← (getv "script"); let b ← (do let vs ← (do let v ← (pure (V.int 13) : M V); let vs ← (do let v ← (pure (V.int 2) : M V); let vs ← (do let v ← (pure (V.int 26) : M V); let vs ← (pure [] : M (List V)); pure (v :: vs)); pure (v :: vs)); pure (v :: vs)); newL vs); addS a b); (fun v => setv "numbers" v) v; pure .next : M Fl) law_s21)
noncomputable def f_law : Fun := funM ["script"] law_m
noncomputable def law_r : DefRec := recAt prg 11
theorem has_f_law {K : Glo} (hp : ∀ d ∈ recsOf prg, d ∈ recsOf K.p) (hfree : ∀ x ∈ bltNames, K.mg (Str.ofString x) = none) (h_law_clash : HasF K "_law_clash" 1 f_law_clash) (h_law_item : HasF K "_law_item" 1 f_law_item) (h_law_order : HasF K "_law_order" 1 f_law_order) (h_law_run : HasF K "_law_run" 4 f_law_run) : HasF K "law" 5 f_law := by
  refine hasF_of (d := law_r) (lvl := 4) (hp _ (List.mem_iff_getElem?.mpr ⟨9, by kernel_rfl⟩)) (by kernel_rfl) (by kernel_rfl) (by kernel_rfl) (by kernel_rfl) (by decide) ?_ ?_ ?_
  · intro pm code doc ws h
    obtain ⟨a0, rfl⟩ := len1 h
    rfl
  · intro n y hy
    simp only [List.mem_cons, List.not_mem_nil, or_false] at hy
    subst hy
    · exact .inl (by kernel_rfl)
  · intro pm code doc L fa A hr fk
    show SimSs K _ _ law_m
    exact (simSs_cons (simS_assign _ (simT_cellD "numbers" _ fk (by kernel_rfl) rfl) (simE_bin fk bin_addS _ (simE_name fk "script" _) (simE_list _ (simEs_cons (simE_int 13 _ _) (simEs_cons (simE_int 2 _ _) (simEs_cons (simE_int 26 _ _) simEs_nil)))))) (simSs_cons (simS_assign _ (simT_cellD "items" _ fk (by kernel_rfl) rfl) (simE_listcomp fk ⟨rfl, rfl, by decide +kernel, by decide +kernel, (by intro x hx; simp only [List.mem_cons, List.not_mem_nil, or_false] at hx; rcases hx with rfl <;> exact ⟨by first | exact .inl (by rfl) | exact .inr (by rfl), kne_cell (by kernel_rfl), fun c h => h⟩), (ck_cells (ck_cons rfl ck_nil))⟩ (simE_callB fk rfl (by kernel_rfl) (hfree "range" (by decide)) (by kernel_rfl) built_range1 (simEs_cons (simE_callB fk rfl (by kernel_rfl) (hfree "len" (by decide)) (by kernel_rfl) built_len (simEs_cons (simE_name fk "numbers" _) simEs_nil)) simEs_nil)) (fun C => clauses_of 4096 rfl (fun acc => turn_end rfl rfl (test := none) rfl) (simT_local "k" _ (FOk.comp fk rfl) (by kernel_rfl)) simTest_none (fun l a => simA_emit (FOk.comp fk rfl) (simE_callF (FOk.comp fk rfl) h_law_item (hr.le (by decide)) (simEs_cons (simE_sub (FOk.comp fk rfl) _ (simE_name (FOk.comp fk rfl) "numbers" _) (simE_name (FOk.comp fk rfl) "k" _)) (simEs_cons (simE_name (FOk.comp fk rfl) "k" _) simEs_nil))) l a)))) (simSs_cons (simS_assign _ (simT_local "order" _ fk (by kernel_rfl)) (simE_callF fk h_law_order (hr.le (by decide)) (simEs_cons (simE_name fk "items" _) simEs_nil))) (simSs_cons (simS_assign _ (simT_cellD "clash" _ fk (by kernel_rfl) rfl) (simE_callF fk h_law_clash (hr.le (by decide)) (simEs_cons (simE_name fk "items" _) simEs_nil))) (simSs_cons (simS_assign _ (simT_local "ahead" _ fk (by kernel_rfl)) (simE_callB fk rfl (by kernel_rfl) (hfree "len" (by decide)) (by kernel_rfl) built_len (simEs_cons (simE_listcomp fk ⟨rfl, rfl, by decide +kernel, by decide +kernel, (by intro x hx; simp only [List.mem_cons, List.not_mem_nil, or_false] at hx; rcases hx with rfl | rfl <;> exact ⟨by first | exact .inl (by rfl) | exact .inr (by rfl), kne_cell (by kernel_rfl), fun c h => h⟩), (ck_cells (ck_cons rfl (ck_cons rfl ck_nil)))⟩ (simE_name fk "order" _) (fun C => clauses_of 4096 rfl (fun acc => turn_end rfl rfl (test := (some _)) rfl) (simT_local "k" _ (FOk.comp fk rfl) (by kernel_rfl)) (simTest_some (simB_boolop _ (simAll_and (simB_cmp (FOk.comp fk rfl) cmp_ne tru_ok _ (simE_name (FOk.comp fk rfl) "clash" _) (simE_list _ simEs_nil)) (simAll_and (simB_cmp (FOk.comp fk rfl) cmp_lt tru_ok _ (simE_sub (FOk.comp fk rfl) _ (simE_sub (FOk.comp fk rfl) _ (simE_name (FOk.comp fk rfl) "items" _) (simE_name (FOk.comp fk rfl) "k" _)) (simE_int 0 _ _)) (simE_callB (FOk.comp fk rfl) rfl (by kernel_rfl) (hfree "min" (by decide)) (by kernel_rfl) built_minLB (simEs_cons (simE_name (FOk.comp fk rfl) "clash" _) simEs_nil))) simAll_and_nil)))) (fun l a => simA_emit (FOk.comp fk rfl) (simE_name (FOk.comp fk rfl) "k" _) l a))) simEs_nil))) (simSs_cons (simS_assign _ (simT_local "words" _ fk (by kernel_rfl)) (simE_list _ simEs_nil)) (simSs_cons (simS_for fk _ 4096 (simE_tuple _ _ (simEs_cons (simE_tuple _ _ (simEs_cons (simE_str _ _ _) (simEs_cons (simE_str _ _ _) simEs_nil))) (simEs_cons (simE_tuple _ _ (simEs_cons (simE_str _ _ _) (simEs_cons (simE_str _ _ _) simEs_nil))) simEs_nil))) (simT_tuple fk _ _ (simTs_cons (simT_local "one" _ fk (by kernel_rfl)) (simTs_cons (simT_local "other" _ fk (by kernel_rfl)) simTs_nil))) (simSs_one (simS_expr fk _ (simE_meth fk PySem.F.slot_list_append PySem.F.type_list_append (simE_name fk "words" _) (simEs_cons (simE_bin fk bin_addS _ (simE_bin fk bin_addS _ (simE_bin fk bin_addS _ (simE_bin fk bin_addS _ (simE_str _ _ _) (simE_name fk "one" _)) (simE_str _ _ _)) (simE_name fk "other" _)) (simE_str _ _ _)) simEs_nil) meth_append)))) (simSs_cons (simS_for fk _ 4096 (simE_tuple _ _ (simEs_cons (simE_bool false _ _) (simEs_cons (simE_bool true _ _) simEs_nil))) (simT_local "pushed" _ fk (by kernel_rfl)) (simSs_cons (simS_assign _ (simT_tuple fk _ _ (simTs_cons (simT_local "heap" _ fk (by kernel_rfl)) (simTs_cons (simT_local "begun" _ fk (by kernel_rfl)) (simTs_cons (simT_local "made" _ fk (by kernel_rfl)) (simTs_cons (simT_local "told" _ fk (by kernel_rfl)) (simTs_cons (simT_local "fault" _ fk (by kernel_rfl)) simTs_nil)))))) (simE_callF fk h_law_run (hr.le (by decide)) (simEs_cons (simE_name fk "items" _) (simEs_cons (simE_name fk "pushed" _) simEs_nil)))) (simSs_cons (simS_if _ (simB_cmp fk cmp_eq tru_ok _ (simE_name fk "clash" _) (simE_list _ simEs_nil)) (simSs_cons (simS_if _ (simB_boolop _ (simAll_or (simB_cmp fk cmp_isNot tru_ok _ (simE_name fk "fault" _) (simE_none _ _)) (simAll_or (simB_cmp fk cmp_ne tru_ok _ (simE_name fk "told" _) (simE_name fk "order" _)) simAll_or_nil))) (simSs_one (simS_return _ (simE_bool false _ _))) simSs_nil) (simSs_one (simS_continue _))) simSs_nil) (simSs_cons (simS_if _ (simB_boolop _ (simAll_or (simB_cmp fk cmp_notIn tru_ok _ (simE_name fk "fault" _) (simE_name fk "words" _)) (simAll_or (simB_cmp fk cmp_ne tru_ok _ (simE_name fk "told" _) (simE_slice fk _ _ (simE_name fk "order" _) simO_none (simO_some (simE_callB fk rfl (by kernel_rfl) (hfree "len" (by decide)) (by kernel_rfl) built_len (simEs_cons (simE_name fk "told" _) simEs_nil))) simO_none)) simAll_or_nil))) (simSs_one (simS_return _ (simE_bool false _ _))) simSs_nil) (simSs_cons (simS_assign _ (simT_cellD "inside" _ fk (by kernel_rfl) rfl) (simE_setcomp fk ⟨rfl, rfl, by decide +kernel, by decide +kernel, (by intro x hx; cases hx), (by intro x c h; cases h)⟩ (simE_name fk "heap" _) (fun C => clauses_of 4096 rfl (fun acc => turn_endS rfl rfl (test := none) rfl) (simT_local "item" _ (FOk.comp fk rfl) (by kernel_rfl)) simTest_none (fun l a => simA_emitS (simE_sub (FOk.comp fk rfl) _ (simE_name (FOk.comp fk rfl) "item" _) (simE_int 2 _ _)) l a)))) (simSs_cons (simS_if _ (simB_cmp fk cmp_lt tru_ok _ (simE_callB fk rfl (by kernel_rfl) (hfree "len" (by decide)) (by kernel_rfl) built_lenSet (simEs_cons (simE_name fk "inside" _) simEs_nil)) (simE_bin fk bin_sub _ (simE_callB fk rfl (by kernel_rfl) (hfree "len" (by decide)) (by kernel_rfl) built_len (simEs_cons (simE_name fk "heap" _) simEs_nil)) (simE_int 1 _ _))) (simSs_one (simS_return _ (simE_bool false _ _))) simSs_nil) (simSs_one (simS_if _ (simB_val fk tru_ok (simE_name fk "made" _)) (simSs_cons (simS_if _ (simB_boolop _ (simAll_or (simB_cmp fk cmp_ge tru_ok _ (simE_callB fk rfl (by kernel_rfl) (hfree "len" (by decide)) (by kernel_rfl) built_len (simEs_cons (simE_name fk "told" _) simEs_nil)) (simE_name fk "ahead" _)) (simAll_or (simB_cmp fk cmp_ne tru_ok _ (simE_callB fk rfl (by kernel_rfl) (hfree "len" (by decide)) (by kernel_rfl) built_len (simEs_cons (simE_name fk "heap" _) simEs_nil)) (simE_bin fk bin_sub _ (simE_bin fk bin_sub _ (simE_callB fk rfl (by kernel_rfl) (hfree "len" (by decide)) (by kernel_rfl) built_len (simEs_cons (simE_name fk "items" _) simEs_nil)) (simE_callB fk rfl (by kernel_rfl) (hfree "len" (by decide)) (by kernel_rfl) built_len (simEs_cons (simE_name fk "told" _) simEs_nil))) (simE_int 1 _ _))) simAll_or_nil))) (simSs_one (simS_return _ (simE_bool false _ _))) simSs_nil) (simSs_one (simS_if _ (simB_cmp fk cmp_ne tru_ok _ (simE_listcomp fk ⟨rfl, rfl, by decide +kernel, by decide +kernel, (by intro x hx; simp only [List.mem_cons, List.not_mem_nil, or_false] at hx; rcases hx with rfl <;> exact ⟨by first | exact .inl (by rfl) | exact .inr (by rfl), kne_cell (by kernel_rfl), fun c h => h⟩), (ck_cells (ck_cons rfl ck_nil))⟩ (simE_slice fk _ _ (simE_name fk "order" _) simO_none (simO_some (simE_bin fk bin_addS _ (simE_callB fk rfl (by kernel_rfl) (hfree "len" (by decide)) (by kernel_rfl) built_len (simEs_cons (simE_name fk "told" _) simEs_nil)) (simE_int 1 _ _))) simO_none) (fun C => clauses_of 4096 rfl (fun acc => turn_end rfl rfl (test := (some _)) rfl) (simT_local "k" _ (FOk.comp fk rfl) (by kernel_rfl)) (simTest_some (simB_cmp (FOk.comp fk rfl) cmp_inS tru_ok _ (simE_name (FOk.comp fk rfl) "k" _) (simE_name (FOk.comp fk rfl) "inside" _))) (fun l a => simA_emit (FOk.comp fk rfl) (simE_name (FOk.comp fk rfl) "k" _) l a))) (simE_list _ simEs_nil)) (simSs_one (simS_return _ (simE_bool false _ _))) simSs_nil))) (simSs_one (simS_if _ (simB_cmp fk cmp_ne tru_ok _ (simE_callB fk rfl (by kernel_rfl) (hfree "len" (by decide)) (by kernel_rfl) built_len (simEs_cons (simE_name fk "heap" _) simEs_nil)) (simE_name fk "begun" _)) (simSs_one (simS_return _ (simE_bool false _ _))) simSs_nil)))))))))) (simSs_one (simS_return _ (simE_bool true _ _)))))))))))

theorem has_all {K : Glo} (hp : ∀ d ∈ recsOf prg, d ∈ recsOf K.p) (hfree : ∀ x ∈ bltNames, K.mg (Str.ofString x) = none) : HasF K "law" 5 f_law := by
  have h_siftdown := has_f_siftdown hp hfree
  have hheappush := has_f_heappush hp hfree h_siftdown
  have h_siftup := has_f_siftup hp hfree h_siftdown
  have hheappop := has_f_heappop hp hfree h_siftup
  have hheapify := has_f_heapify hp hfree h_siftup
  have h_law_item := has_f_law_item hp hfree
  have h_law_clash := has_f_law_clash hp hfree
  have h_law_order := has_f_law_order hp hfree
  have h_law_run := has_f_law_run hp hfree hheapify hheappop hheappush
  have hlaw := has_f_law hp hfree h_law_clash h_law_item h_law_order h_law_run
  exact hlaw

end

/-! part L04a -/
set_option autoImplicit false
set_option maxRecDepth 100000
set_option linter.unusedVariables false
set_option linter.unusedSimpArgs false
open PySem PySem.W PyProof.Rows
section
/-! ### triples: priority, task (a number, or a text of one sign), place -/
structure Itm where
  p : Int
  s : Bool
  c : Int
  k : Nat
  deriving Inhabited
noncomputable def tv (a : Itm) : V := if a.s = true then .str ⟨#[a.c.toNat]⟩ else .int a.c
noncomputable def td (a : Itm) : PyData := if a.s = true then .str ⟨#[a.c.toNat]⟩ else .int a.c
noncomputable def row (a : Itm) : List V := [.int a.p, tv a, .int a.k]
noncomputable def mark (a : Itm) : List Int := [a.p, if a.s = true then 1 else 0, a.c, a.k]
noncomputable def itmOf (x : Int) (k : Nat) : Itm where
  p := if x % 12 < 6 then x / 12 else x / 12 % 12
  s := decide (x % 12 % 6 = 5)
  c := if x % 12 % 6 = 5 then 97 + x / 12 / 12 % 2 else x % 12 % 6
  k := k
/-- a text's sign is a or b -/
noncomputable def Itm.ok (a : Itm) : Prop := a.s = true → a.c = 97 ∨ a.c = 98
theorem itmOf_ok (x : Int) (k : Nat) : (itmOf x k).ok := by
  intro h
  have h' : x % 12 % 6 = 5 := by simpa [itmOf] using h
  unfold itmOf
  dsimp only
  rw [if_pos h']
  (first | lia | omega)
theorem strOk_ab {a : Itm} (h : a.ok) (hs : a.s = true) : PyData.strOk ⟨#[a.c.toNat]⟩ = true := by
  rcases h hs with e | e <;> rw [e] <;> decide +kernel
/-- the items lie at o, o + 1, .. -/
noncomputable def Its (o : Nat) (its : List Itm) (st : Store) : Prop := ∀ k a, its[k]? = some a → st[o + k]? = some (.lst (row a)) ∧ a.ok ∧ a.k = k
noncomputable def itm (its : List Itm) (o : Nat) : V → Itm
  | .obj l => its.getD (l - o) default
  | _ => default
noncomputable def PI (its : List Itm) (o : Nat) (v : V) : Prop := ∃ k, k < its.length ∧ v = .obj (o + k)
theorem itm_at {its : List Itm} {o k : Nat} (h : k < its.length) : its[k]? = some (itm its o (.obj (o + k))) := by
  unfold itm
  dsimp only
  rw [Nat.add_sub_cancel_left, List.getD_eq_getElem?_getD, List.getElem?_eq_getElem h]; rfl
noncomputable def ltM (a b : Itm) : Bool := lexB (mark a) (mark b)
noncomputable def bdM (a b : Itm) : Bool := decide (a.p = b.p) && (a.s != b.s)
noncomputable def teM (a b : Itm) : Exc := ⟨"TypeError", Str.ofString (if a.s = true then ltWords "str" "int" else ltWords "int" "str")⟩
theorem toD_tv {st : Store} {n : Nat} {a : Itm} (h : a.ok) : toD st (n + 1) (tv a) = some (td a) := by
  unfold tv td
  cases hs : a.s with
  | true =>
    rw [if_pos rfl, if_pos rfl]
    show (if PyData.strOk _ = true then _ else _) = _
    rw [if_pos (strOk_ab h hs)]
  | false => rfl
theorem toD_row {st : Store} {l : Nat} {a : Itm} (h : st[l]? = some (.lst (row a))) (hok : a.ok) : toD st 6 (.obj l) = some (.list [.int a.p, td a, .int a.k]) := by
  have e : mapO (toD st 5) (row a) = some [.int a.p, td a, .int a.k] := by
    unfold row
    simp only [mapO, toD_int, toD_tv hok]
  unfold toD
  dsimp only
  rw [h]
  dsimp only
  rw [e]; rfl
theorem eqv_td {a b : Itm} (ha : a.ok) (hb : b.ok) : PyData.eqv (td a) (td b) = decide (a.s = b.s ∧ a.c = b.c) := by
  unfold td
  cases hs : a.s <;> cases ht : b.s
  · simp [PyData.eqv]; rfl
  · simp [PyData.eqv]
  · simp [PyData.eqv]
  · simp only [if_true, true_and]
    rcases ha hs with e | e <;> rcases hb ht with f | f <;> rw [e, f] <;> decide +kernel
theorem ltD_l (xs ys : List PyData) : ltD (.list xs) (.list ys) = ltAll xs ys := rfl
theorem ltD_i (a b : Int) : lt0 (.int a) (.int b) = some (decide (a < b)) := rfl
theorem ltAll_c (x y : PyData) (xs ys : List PyData) : ltAll (x :: xs) (y :: ys) = if PyData.eqv x y = true then ltAll xs ys else lt0 x y := rfl
theorem ltAll_n : ltAll [] [] = some false := rfl
theorem teD_l (xs ys : List PyData) : teD (.list xs) (.list ys) = teAll xs ys := rfl
theorem teAll_c (x y : PyData) (xs ys : List PyData) : teAll (x :: xs) (y :: ys) = if PyData.eqv x y = true then teAll xs ys else te0 x y := rfl
theorem ltD_td {a b : Itm} (ha : a.ok) (hb : b.ok) (h : a.s = b.s) : lt0 (td a) (td b) = some (decide (a.c < b.c)) := by
  unfold td
  rw [← h]
  cases hs : a.s with
  | false => simp only [Bool.false_eq_true, if_false, ltD_i]
  | true =>
    simp only [if_true]
    rcases ha hs with e | e <;> rcases hb (h ▸ hs) with f | f <;> rw [e, f] <;> decide +kernel
theorem lt_rows {a b : Itm} (ha : a.ok) (hb : b.ok) (h : bdM a b = false) : ltD (.list [.int a.p, td a, .int a.k]) (.list [.int b.p, td b, .int b.k]) = some (ltM a b) := by
  unfold ltM mark
  simp only [ltD_l, ltAll_c, ltAll_n, ltD_i, PyData.eqv, eqv_td ha hb]
  by_cases hp : a.p = b.p
  · have hs : a.s = b.s := by
      have : bdM a b = false := h
      unfold bdM at this
      rw [decide_eq_true hp, Bool.true_and] at this
      simpa using this
    rw [ltD_td ha hb hs]
    rw [hp, hs]
    by_cases hc : a.c = b.c
    · by_cases hk : a.k = b.k
      · simp [hc, hk, lexB]
      · have : ¬ ((a.k : Int) = b.k) := by (first | lia | omega)
        simp [hc, this, lexB]
    · simp [hc, lexB]
  · simp [hp, lexB]
theorem te_rows {a b : Itm} (ha : a.ok) (hb : b.ok) (h : bdM a b = true) : ltD (.list [.int a.p, td a, .int a.k]) (.list [.int b.p, td b, .int b.k]) = none ∧
    teD (.list [.int a.p, td a, .int a.k]) (.list [.int b.p, td b, .int b.k]) = some (if a.s = true then ("str", "int") else ("int", "str")) := by
  unfold bdM at h
  rw [Bool.and_eq_true] at h
  obtain ⟨hp, hs⟩ := h
  have hp : a.p = b.p := by simpa using hp
  have hs : a.s ≠ b.s := by simpa using hs
  simp only [ltD_l, ltAll_c, teD_l, teAll_c, PyData.eqv, eqv_td ha hb]
  rw [hp]
  have : ¬ (a.s = b.s ∧ a.c = b.c) := fun h => hs h.1
  rw [decide_eq_false this]
  unfold td
  cases h1 : a.s <;> cases h2 : b.s
  · exact absurd (h1.trans h2.symm) hs
  · simp; exact ⟨rfl, rfl⟩
  · simp; exact ⟨rfl, rfl⟩
  · exact absurd (h1.trans h2.symm) hs
theorem cmpM {st : Store} {l o : Nat} {its : List Itm} (h : Its o its st) (hl : ∀ k, k < its.length → o + k ≠ l) : CmpAt st l (PI its o) (fun a b => ltM (itm its o a) (itm its o b)) (fun a b => bdM (itm its o a) (itm its o b)) (fun a b => teM (itm its o a) (itm its o b)) := by
  rintro ws _ _ ⟨i, hi, rfl⟩ ⟨j, hj, rfl⟩ lo
  show ltX (.obj (o + i)) (.obj (o + j)) ⟨st.set l (.lst ws), lo⟩ = if bdM (itm its o (.obj (o + i))) (itm its o (.obj (o + j))) = true then .exc (teM (itm its o (.obj (o + i))) (itm its o (.obj (o + j)))) ⟨st.set l (.lst ws), lo⟩ else .ok (.bool (ltM (itm its o (.obj (o + i))) (itm its o (.obj (o + j))))) ⟨st.set l (.lst ws), lo⟩
  obtain ⟨h1, h2, _⟩ := h i _ (itm_at (o := o) hi)
  obtain ⟨g1, g2, _⟩ := h j _ (itm_at (o := o) hj)
  generalize itm its o (.obj (o + i)) = a at h1 h2 ⊢
  generalize itm its o (.obj (o + j)) = b at g1 g2 ⊢
  have t1 : toD (st.set l (.lst ws)) 6 (.obj (o + i)) = some _ := toD_row (by rw [List.getElem?_set_ne (Ne.symm (hl i hi))]; exact h1) h2
  have t2 : toD (st.set l (.lst ws)) 6 (.obj (o + j)) = some _ := toD_row (by rw [List.getElem?_set_ne (Ne.symm (hl j hj))]; exact g1) g2
  cases hb : bdM a b with
  | false =>
    rw [if_neg (by decide)]
    refine ltX_ok ?_
    unfold ltV
    dsimp only
    rw [t1, t2]
    dsimp only
    rw [lt_rows h2 g2 hb]
  | true =>
    obtain ⟨e1, e2⟩ := te_rows h2 g2 hb
    rw [if_pos rfl]
    have e0 : ltV (.obj (o + i)) (.obj (o + j)) ⟨st.set l (.lst ws), lo⟩ = .stuck := by
      unfold ltV
      dsimp only
      rw [t1, t2]
      dsimp only
      rw [e1]
    unfold ltX
    rw [e0]
    dsimp only
    unfold teX
    dsimp only
    rw [t1, t2]
    dsimp only
    rw [e2]
    unfold teM
    cases a.s <;> rfl
theorem mark_le {a b : Itm} (h : ltM b a = false) : a.p ≤ b.p := by
  unfold ltM mark lexB at h
  split at h
  · (first | lia | omega)
  · have := of_decide_eq_false h; (first | lia | omega)
theorem lxM_trans {x y z : Itm} (h1 : lx ltM bdM y x = false) (h2 : lx ltM bdM z y = false) : lx ltM bdM z x = false := by
  unfold lx at h1 h2 ⊢
  rw [Bool.or_eq_false_iff] at h1 h2 ⊢
  obtain ⟨h1, g1⟩ := h1
  obtain ⟨h2, g2⟩ := h2
  refine ⟨lexB_trans _ _ _ h1 h2, ?_⟩
  have l1 := mark_le h1
  have l2 := mark_le h2
  unfold bdM at g1 g2 ⊢
  rw [Bool.and_eq_false_iff] at g1 g2 ⊢
  by_cases hp : z.p = x.p
  · refine .inr ?_
    have e1 : y.p = x.p := by (first | lia | omega)
    have e2 : z.p = y.p := by (first | lia | omega)
    have s1 : y.s = x.s := by simpa [e1] using g1
    have s2 : z.s = y.s := by simpa [e2] using g2
    rw [s2, s1]; simp
  · exact .inl (decide_eq_false hp)
theorem poM (its : List Itm) (o : Nat) : PO (PI its o) (fun a b => ltM (itm its o a) (itm its o b)) (fun a b => bdM (itm its o a) (itm its o b)) where
  asymm := fun a b _ _ h => lexB_asymm _ _ h
  sym := fun a b _ _ => by
    unfold bdM
    congr 1
    · exact decide_eq_decide.mpr ⟨Eq.symm, Eq.symm⟩
    · cases (itm its o a).s <;> cases (itm its o b).s <;> rfl
  refl := fun a _ => by unfold bdM; simp
  trans := fun a b c _ _ _ h1 h2 => lxM_trans (x := itm its o a) (y := itm its o b) (z := itm its o c) h1 h2
end

/-! part L04b -/
set_option autoImplicit false
set_option maxRecDepth 100000
set_option linter.unusedVariables false
set_option linter.unusedSimpArgs false
open PySem PySem.W PyProof.Rows
section
/-! ### the order that is due -/
noncomputable def so (its : List Itm) : List Itm := its.mergeSort fun a b => !ltM b a
theorem so_perm (its : List Itm) : (so its).Perm its := List.mergeSort_perm _ _
theorem so_sorted (its : List Itm) : (so its).Pairwise fun a b => ltM b a = false := by
  have := List.pairwise_mergeSort (le := fun a b : Itm => !ltM b a) (by
    intro a b c h1 h2
    simp only [Bool.not_eq_true'] at h1 h2 ⊢
    exact lexB_trans _ _ _ h1 h2) (by
    intro a b
    cases h : ltM b a with
    | false => simp
    | true =>
      have : ltM a b = false := lexB_asymm _ _ h
      rw [this]; simp) its
  exact this.imp fun h => by simpa using h
/-- each item knows its place -/
noncomputable def Placed (its : List Itm) : Prop := ∀ (k : Nat) (a : Itm), its[k]? = some a → a.k = k
noncomputable def ref (o : Nat) (a : Itm) : V := .obj (o + a.k)
section
variable {its : List Itm} {o : Nat} (hI : Placed its)
include hI
theorem itm_ref {a : Itm} (h : a ∈ its) : itm its o (ref o a) = a := by
  obtain ⟨k, hk, e⟩ := List.mem_iff_getElem.mp h
  have e1 : its[k]? = some a := by rw [List.getElem?_eq_getElem hk, e]
  have e2 := hI k a e1
  unfold itm ref
  dsimp only
  rw [Nat.add_sub_cancel_left, List.getD_eq_getElem?_getD, e2, e1]; rfl
theorem ref_pi {a : Itm} (h : a ∈ its) : PI its o (ref o a) := by
  obtain ⟨k, hk, e⟩ := List.mem_iff_getElem.mp h
  have e1 : its[k]? = some a := by rw [List.getElem?_eq_getElem hk, e]
  exact ⟨k, hk, by unfold ref; rw [hI k a e1]⟩
theorem pi_ref {v : V} (h : PI its o v) : ∃ a ∈ its, v = ref o a := by
  obtain ⟨k, hk, rfl⟩ := h
  exact ⟨its[k], List.getElem_mem hk, by unfold ref; rw [hI k _ (List.getElem?_eq_getElem hk)]⟩
theorem one_k {a b : Itm} (ha : a ∈ its) (hb : b ∈ its) (h : a.k = b.k) : a = b := by
  obtain ⟨i, hi, e⟩ := List.mem_iff_getElem.mp ha
  obtain ⟨j, hj, f⟩ := List.mem_iff_getElem.mp hb
  have e1 := hI i a (by rw [List.getElem?_eq_getElem hi, e])
  have e2 := hI j b (by rw [List.getElem?_eq_getElem hj, f])
  have : i = j := by (first | lia | omega)
  subst this
  rw [← e, ← f]
theorem ltM_total {a b : Itm} (ha : a ∈ its) (hb : b ∈ its) (h1 : ltM a b = false) (h2 : ltM b a = false) : a = b := by
  have e := lexB_total _ _ h1 h2
  unfold mark at e
  simp only [List.cons.injEq] at e
  exact one_k hI ha hb (by (first | lia | omega))
noncomputable abbrev lI (its : List Itm) (o : Nat) : V → V → Bool := fun a b => ltM (itm its o a) (itm its o b)
noncomputable abbrev bI (its : List Itm) (o : Nat) : V → V → Bool := fun a b => bdM (itm its o a) (itm its o b)
theorem top_is {hs : List V} {a : Itm} {t : List Itm} (hm : ∀ b ∈ a :: t, b ∈ its) (hs' : (a :: t).Pairwise fun a b => ltM b a = false) (hp : hs.Perm ((a :: t).map (ref o))) (hh : HeapFrom (lx (lI its o) (bI its o)) 0 hs) : nth hs 0 = ref o a := by
  have hP : ∀ v ∈ hs, PI its o v := fun v hv => by
    obtain ⟨b, hb, rfl⟩ := List.mem_map.mp (hp.mem_iff.mp hv)
    exact ref_pi hI (hm b hb)
  have h0 : 0 < hs.length := by rw [hp.length_eq]; simp
  obtain ⟨b, hb, e⟩ := List.mem_map.mp (hp.mem_iff.mp (nth_mem h0))
  have h1 := heapE_min (poM its o) hP hh (ref o a) (hp.mem_iff.mpr (List.mem_map.mpr ⟨a, List.mem_cons_self, rfl⟩))
  rw [← e] at h1 ⊢
  unfold lx at h1
  rw [Bool.or_eq_false_iff] at h1
  have h2 : ltM a b = false := by
    have := h1.1
    dsimp only [lI] at this
    rwa [itm_ref hI (hm a List.mem_cons_self), itm_ref hI (hm b hb)] at this
  rcases List.mem_cons.mp hb with rfl | hb'
  · rfl
  · rw [ltM_total hI (hm a List.mem_cons_self) (hm b hb) h2 ((List.pairwise_cons.mp hs').1 b hb')]
/-- where a number and a text share the least priority, there is no heap -/
theorem clash_top {hs : List V} {l : List Itm} {i j : Itm} (hm : ∀ b ∈ l, b ∈ its) (hp : hs.Perm (l.map (ref o))) (hh : HeapFrom (lx (lI its o) (bI its o)) 0 hs) (hi : i ∈ l) (hj : j ∈ l) (h1 : i.s = true) (h2 : j.s = false) (h3 : j.p = i.p)
    (h4 : ∀ b ∈ l, i.p ≤ b.p) : False := by
  have hP : ∀ v ∈ hs, PI its o v := fun v hv => by
    obtain ⟨b, hb, rfl⟩ := List.mem_map.mp (hp.mem_iff.mp hv)
    exact ref_pi hI (hm b hb)
  have h0 : 0 < hs.length := by rw [hp.length_eq, List.length_map]; exact List.length_pos_of_mem hi
  obtain ⟨b, hb, e⟩ := List.mem_map.mp (hp.mem_iff.mp (nth_mem h0))
  have key : ∀ a ∈ l, ltM a b = false ∧ bdM a b = false := fun a ha => by
    have h1 := heapE_min (poM its o) hP hh (ref o a) (hp.mem_iff.mpr (List.mem_map.mpr ⟨a, ha, rfl⟩))
    rw [← e] at h1
    unfold lx at h1
    rw [Bool.or_eq_false_iff] at h1
    dsimp only [lI, bI] at h1
    rwa [itm_ref hI (hm a ha), itm_ref hI (hm b hb)] at h1
  have k1 := key i hi
  have k2 := key j hj
  have hbp : b.p = i.p := by have := mark_le k1.1; have := h4 b hb; (first | lia | omega)
  have b1 := k1.2
  have b2 := k2.2
  unfold bdM at b1 b2
  rw [decide_eq_true hbp.symm, Bool.true_and] at b1
  rw [decide_eq_true (h3.trans hbp.symm), Bool.true_and] at b2
  rw [h1] at b1
  rw [h2] at b2
  cases hs : b.s <;> rw [hs] at b1 b2 <;> simp at b1 b2
end

/-- what goes ahead of a priority stands in front -/
theorem front {l : List Itm} (m : Int) (h : l.Pairwise fun a b => ltM b a = false) : (∀ a ∈ l.drop (l.filter fun a => decide (a.p < m)).length, m ≤ a.p) ∧ ∀ a ∈ l.take (l.filter fun a => decide (a.p < m)).length, a.p < m := by
  induction l with
  | nil => simp
  | cons a t ih =>
    obtain ⟨h1, h2⟩ := List.pairwise_cons.mp h
    obtain ⟨i1, i2⟩ := ih h2
    by_cases hq : a.p < m
    · rw [List.filter_cons_of_pos (by simpa using hq), List.length_cons, List.drop_succ_cons, List.take_succ_cons]
      refine ⟨i1, fun b hb => ?_⟩
      rcases List.mem_cons.mp hb with rfl | hb
      · exact hq
      · exact i2 b hb
    · have hall : ∀ b ∈ t, ¬ b.p < m := fun b hb => by have := mark_le (h1 b hb); (first | lia | omega)
      have e : (a :: t).filter (fun a => decide (a.p < m)) = [] := by
        rw [List.filter_eq_nil_iff]
        intro b hb
        rcases List.mem_cons.mp hb with rfl | hb
        · simpa using hq
        · simpa using hall b hb
      rw [e]
      refine ⟨fun b hb => ?_, fun b hb => by simp at hb⟩
      rcases List.mem_cons.mp (List.mem_of_mem_drop hb) with rfl | hb
      · (first | lia | omega)
      · have := hall b hb; (first | lia | omega)

/-! ### the set of what is inside -/
noncomputable def setAdd (ns : List Int) (i : Int) : List Int := if i ∈ ns then ns else ns ++ [i]
theorem setAdd_mem {ns : List Int} {i x : Int} : x ∈ setAdd ns i ↔ x ∈ ns ∨ x = i := by
  unfold setAdd
  split
  · rename_i h
    exact ⟨.inl, fun q => q.elim id fun e => e ▸ h⟩
  · simp
theorem fold_mem : ∀ (ks ns : List Int) (x : Int), x ∈ ks.foldl setAdd ns ↔ x ∈ ns ∨ x ∈ ks
  | [], ns, x => by simp
  | k :: ks, ns, x => by
    rw [List.foldl_cons, fold_mem, setAdd_mem, List.mem_cons, or_assoc]
theorem fold_le : ∀ (ks ns : List Int), (ks.foldl setAdd ns).length ≤ ns.length + ks.length
  | [], ns => by simp
  | k :: ks, ns => by
    have := fold_le ks (setAdd ns k)
    have : (setAdd ns k).length ≤ ns.length + 1 := by unfold setAdd; split <;> simp
    rw [List.foldl_cons, List.length_cons]; (first | lia | omega)
theorem nodup_le : ∀ {l m : List Int}, l.Nodup → (∀ x ∈ l, x ∈ m) → l.length ≤ m.length
  | [], _, _, _ => Nat.zero_le _
  | a :: t, m, hd, hs => by
    obtain ⟨h1, h2⟩ := List.nodup_cons.mp hd
    have := nodup_le (m := m.erase a) h2 fun x hx => (List.mem_erase_of_ne (by rintro rfl; exact h1 hx)).mpr (hs x (List.mem_cons_of_mem _ hx))
    have hl := List.length_erase_of_mem (hs a List.mem_cons_self)
    have := List.length_pos_of_mem (hs a List.mem_cons_self)
    rw [List.length_cons]; (first | lia | omega)
theorem near_set {α : Type} [Inhabited α] {ws us : List α} (key : α → Int) (h : Near ws us) (hn : (us.map key).Nodup) : ws.length - 1 ≤ ((ws.map key).foldl setAdd []).length := by
  obtain ⟨i, x, hi, hp⟩ := h.miss
  have h1 : ((ws.set i x).map key).Nodup := ((hp.map key).nodup_iff).mpr hn
  have h2 : (ws.eraseIdx i).Sublist (ws.set i x) := by
    have := List.eraseIdx_sublist (ws.set i x) i
    rwa [List.eraseIdx_set_eq] at this
  have h3 : ((ws.eraseIdx i).map key).Nodup := h1.sublist (h2.map key)
  have := nodup_le (m := (ws.map key).foldl setAdd []) h3 fun y hy => by
    rw [fold_mem]
    obtain ⟨z, hz, rfl⟩ := List.mem_map.mp hy
    exact .inr (List.mem_map.mpr ⟨z, List.mem_of_mem_eraseIdx hz, rfl⟩)
  rw [List.length_map, List.length_eraseIdx_of_lt hi] at this
  exact this
end

/-! part L04c -/
set_option autoImplicit false
set_option maxRecDepth 100000
set_option linter.unusedVariables false
set_option linter.unusedSimpArgs false
open PySem PySem.W PyProof.Rows
section
/-! ### the run -/
theorem MW_tryY {b : M Fl} {h : Exc → M Fl} {σ : S} {Q : Fl → S → Prop} (hb : MY b σ Q (fun e σ' => MW (h e) σ' Q)) : MW (tryM b h) σ Q := by
  have hb := hb.out
  cases e : b σ with
  | ok f σ' => rw [e] at hb; exact ⟨f, σ', by unfold tryM; rw [e], hb⟩
  | exc x σ' =>
    rw [e] at hb
    obtain ⟨f, σ'', e2, q⟩ := hb
    exact ⟨f, σ'', by unfold tryM; rw [e]; exact e2, q⟩
  | stuck => rw [e] at hb; exact hb.elim
theorem MW_iaddI {σ : S} {a b : Int} {Q : V → S → Prop} : MW (iaddV (.int a) (.int b)) σ Q ↔ Q (.int (a + b)) σ := MW_fun_ok rfl

/-- where the lists lie -/
structure Pl (its : List Itm) (o : Nat) (st0 : Store) (li lh lt : Nat) : Prop where
  pd : Placed its
  qi : st0[li]? = some (.lst (its.map (ref o)))
  qs : Its o its st0
  a1 : li ≠ lh
  a2 : li ≠ lt
  a3 : lh ≠ lt
  a4 : lh ≠ 0
  a5 : lt ≠ 0
  b1 : ∀ k, k < its.length → o + k ≠ lh ∧ o + k ≠ lt
  b2 : its.length ≤ 100
structure RS (its : List Itm) (st0 : Store) (li lh lt : Nat) (pushed : Bool) (hs : List V) (begun : Nat) (made : Bool) (j : Nat) (σ : S) : Prop where
  l1 : σ.lo "heap" = some (.obj lh)
  l2 : σ.lo "items" = some (.obj li)
  l3 : σ.lo "pushed" = some (.bool pushed)
  l4 : σ.lo "begun" = some (.int begun)
  l5 : σ.lo "made" = some (.bool made)
  l6 : σ.lo "told" = some (.obj lt)
  pr : Pres [lh, lt] st0 σ.st
  h1 : σ.st[lh]? = some (.lst hs)
  h2 : σ.st[lt]? = some (.lst (((so its).take j).map fun a => V.int a.k))
section
variable {its : List Itm} {o : Nat} {st0 : Store} {li lh lt : Nat} {pushed made : Bool} {hs : List V} {begun j : Nat} {σ : S}
theorem Pl.items (P : Pl its o st0 li lh lt) (p : Pres [lh, lt] st0 σ.st) : σ.st[li]? = some (.lst (its.map (ref o))) := p.get P.qi (by simp [P.a1, P.a2])
theorem Pl.itsAt (P : Pl its o st0 li lh lt) (p : Pres [lh, lt] st0 σ.st) : Its o its σ.st := fun k a e => by
  obtain ⟨h1, h2, h3⟩ := P.qs k a e
  have hk : k < its.length := (List.getElem?_eq_some_iff.mp e).1
  exact ⟨p.get h1 (by have := P.b1 k hk; simp [this.1, this.2]), h2, h3⟩
theorem Pl.cmp (P : Pl its o st0 li lh lt) (p : Pres [lh, lt] st0 σ.st) : CmpAt σ.st lh (PI its o) (lI its o) (bI its o) (fun a b => teM (itm its o a) (itm its o b)) :=
  cmpM (P.itsAt p) fun k hk => (P.b1 k hk).1
theorem RS.setH (R : RS its st0 li lh lt pushed hs begun made j σ) (P : Pl its o st0 li lh lt) (hs' : List V) : RS its st0 li lh lt pushed hs' begun made j ⟨σ.st.set lh (.lst hs'), σ.lo⟩ where
  l1 := R.l1
  l2 := R.l2
  l3 := R.l3
  l4 := R.l4
  l5 := R.l5
  l6 := R.l6
  pr := R.pr.trans (Pres.set (by simp))
  h1 := set_self (lt_of_get R.h1)
  h2 := by
    show (σ.st.set lh _)[lt]? = _
    rw [List.getElem?_set_ne P.a3]; exact R.h2
noncomputable abbrev Hp (its : List Itm) (o : Nat) (hs : List V) : Prop := HeapFrom (lx (lI its o) (bI its o)) 0 hs
/-- a heap of all from place j on could be made -/
noncomputable def Hps (its : List Itm) (o j : Nat) : Prop := ∀ i, i ≤ j → ∃ hs : List V, hs.Perm (((so its).drop i).map (ref o)) ∧ Hp its o hs
/-- how a run may end -/
noncomputable def Broke (its : List Itm) (o : Nat) (hs : List V) (begun : Nat) (made : Bool) (j : Nat) (e : Exc) : Prop :=
  (∃ a ∈ its, ∃ b ∈ its, bdM a b = true ∧ e = teM a b) ∧
  if made = true then j < its.length ∧ Hps its o j ∧ Near hs (((so its).drop (j + 1)).map (ref o)) else j = 0 ∧ ∃ i, i ≤ its.length ∧ Near hs ((its.take i).map (ref o)) ∧ begun = i
theorem ends_fault {us : List V} {l : List Itm} {r : List V × Option (V × V)} {e : V × V} (hI : Placed its) (E : Ends (bI its o) us r) (hu : us.Perm (l.map (ref o))) (hl : ∀ a ∈ l, a ∈ its) (hr : r.2 = some e) :
    ∃ a ∈ its, ∃ b ∈ its, bdM a b = true ∧ teM (itm its o e.1) (itm its o e.2) = teM a b := by
  obtain ⟨h1, h2, h3⟩ := E.fault e hr
  obtain ⟨a, ha, e1⟩ := List.mem_map.mp (hu.mem_iff.mp h2)
  obtain ⟨b, hb, e2⟩ := List.mem_map.mp (hu.mem_iff.mp h3)
  have i1 : itm its o e.1 = a := by rw [← e1]; exact itm_ref hI (hl a ha)
  have i2 : itm its o e.2 = b := by rw [← e2]; exact itm_ref hI (hl b hb)
  dsimp only [bI] at h1
  rw [i1, i2] at h1 ⊢
  exact ⟨a, hl a ha, b, hl b hb, h1, rfl⟩
theorem pi_perm {l : List Itm} (hI : Placed its) (hp : hs.Perm (l.map (ref o))) (hl : ∀ a ∈ l, a ∈ its) : ∀ v ∈ hs, PI its o v := fun v hv => by
  obtain ⟨a, ha, rfl⟩ := List.mem_map.mp (hp.mem_iff.mp hv)
  exact ref_pi hI (hl a ha)

/-- laying in -/
theorem push_part (P : Pl its o st0 li lh lt) (R : RS its st0 li lh lt pushed [] 0 false 0 σ) :
    MY (do let v ← (getv "items"); okIter v; forG (nxtOf v) law_run_l4_t law_run_l4_b 4096 0) σ
      (fun f σ' => f = .next ∧ ∃ hs begun, RS its st0 li lh lt pushed hs begun false 0 σ' ∧ hs.Perm (its.map (ref o)) ∧ Hp its o hs)
      (fun e σ' => ∃ hs begun, RS its st0 li lh lt pushed hs begun false 0 σ' ∧ Broke its o hs begun false 0 e) := by
  have hI := P.pd
  have hn : (its.map (ref o)).length = its.length := List.length_map ..
  refine y_get R.l2 ?_
  refine y_end (MY_ok (ok_obj (P.items R.pr)) ?_)
  refine MY_for its.length (fun i σ' => ∃ hs, RS its st0 li lh lt pushed hs i false 0 σ' ∧ hs.Perm ((its.take i).map (ref o)) ∧ Hp its o hs) ?_ ?_ 4096 0 σ (Nat.zero_le _) (by have := P.b2; (first | lia | omega)) ⟨[], R, List.Perm.refl _, fun j h0 h => by simp at h⟩
  · rintro σ' ⟨hs, R', h1, h2⟩
    refine ⟨?_, rfl, hs, _, R', by rwa [List.take_length] at h1, h2⟩
    rw [nxt_obj (P.items R'.pr) σ' _ (fun k _ => rfl)]
    simp
  · rintro i σ' hi ⟨hs, R', h1, h2⟩
    refine ⟨ref o its[i], ?_, ?_⟩
    · rw [nxt_obj (P.items R'.pr) σ' _ (fun k _ => rfl)]
      simp [hi]
    have hl : ∀ a ∈ its.take i, a ∈ its := fun a ha => List.mem_of_mem_take ha
    have hlen : hs.length = i := by rw [h1.length_eq, List.length_map, List.length_take]; (first | lia | omega)
    have htk : (its.take (i + 1)).map (ref o) = (its.take i).map (ref o) ++ [ref o its[i]] := by rw [List.take_add_one, List.getElem?_eq_getElem hi, List.map_append]; rfl
    have E := hpushE_ends (lt := lI its o) (bad := bI its o) hs (ref o its[i])
    have hu : (hs ++ [ref o its[i]]).Perm ((its.take (i + 1)).map (ref o)) := by rw [htk]; exact h1.append_right _
    have hl' : ∀ a ∈ its.take (i + 1), a ∈ its := fun a ha => List.mem_of_mem_take ha
    have hx : PI its o (ref o its[i]) := ref_pi hI (List.getElem_mem hi)
    obtain ⟨l1, l2, l3, l4, l5, l6, pr, g1, g2⟩ := id R'
    unfold law_run_l4_t law_run_l4_b law_run_s3
    walk_at "my"
    apply y_seq
    walk_at "my"
    refine MY_of (MW_iaddI.mpr ?_)
    walk_at "my"
    have hc : f_heappush [.obj lh, ref o its[i]] σ'.st = outE (fun a b => teM (itm its o a) (itm its o b)) σ'.st lh .none (hpushE (lI its o) (bI its o) hs (ref o its[i])) :=
      heappushE_spec g1 P.a4 (by have := P.b2; (first | lia | omega)) (pi_perm hI h1 hl) hx (P.cmp pr)
    have R2 : RS its st0 li lh lt pushed hs (i + 1) false 0 (S.put (S.put σ' "item" (ref o its[i])) "begun" (.int ((i : Int) + 1))) := ⟨l1, l2, l3, by simp [S.put], l5, l6, pr, g1, g2⟩
    refine MY_callE (by exact hc) (fun hr => ?_) (fun e hr => ?_)
    · walk_at "my"
      exact ⟨_, R2.setH P _, (E.ok hr).trans hu, hpushE_heap (poM its o) (pi_perm hI h1 hl) hx h2 hr⟩
    · exact ⟨_, _, R2.setH P _, ends_fault hI E hu hl' hr, rfl, i + 1, hi, E.near.perm hu, rfl⟩
/-- all at once -/
theorem heapify_part (P : Pl its o st0 li lh lt) (h0 : 0 < its.length) (R : RS its st0 li lh lt pushed (its.map (ref o)) its.length false 0 σ) :
    MY (do let _ ← (do let vs ← (do let v ← (getv "heap"); let vs ← (pure [] : M (List V)); pure (v :: vs)); callF f_heapify vs); pure .next : M Fl) σ
      (fun f σ' => f = .next ∧ ∃ hs begun, RS its st0 li lh lt pushed hs begun false 0 σ' ∧ hs.Perm (its.map (ref o)) ∧ Hp its o hs)
      (fun e σ' => ∃ hs begun, RS its st0 li lh lt pushed hs begun false 0 σ' ∧ Broke its o hs begun false 0 e) := by
  have hI := P.pd
  obtain ⟨l1, l2, l3, l4, l5, l6, pr, g1, g2⟩ := id R
  have hP := pi_perm hI (List.Perm.refl (its.map (ref o))) (fun _ h => h)
  have hl : (its.map (ref o)).length = its.length := List.length_map ..
  have hc : f_heapify [.obj lh] σ.st = outE (fun a b => teM (itm its o a) (itm its o b)) σ.st lh .none (hpfyE (lI its o) (bI its o) ((its.map (ref o)).length / 2) (its.map (ref o))) :=
    heapifyE_spec g1 P.a4 (by have := P.b2; (first | lia | omega)) hP (P.cmp pr) fun ws k hk => (suE_ends ws k hk).near.sub
  have E := hpfyE_ends (lt := lI its o) (bad := bI its o) ((its.map (ref o)).length / 2) (its.map (ref o)) (Nat.div_le_self _ _) (by (first | lia | omega))
  walk_at "my"
  refine MY_callE (by exact hc) (fun hr => ?_) (fun e hr => ?_)
  · walk_at "my"
    exact ⟨rfl, _, _, R.setH P _, E.ok hr, hpfyE_heap (poM its o) _ _ (Nat.div_le_self _ _) hP (heapFrom_half _ _) hr⟩
  · exact ⟨_, _, R.setH P _, ends_fault hI E (List.Perm.refl _) (fun _ h => h) hr, rfl, its.length, Nat.le_refl _, by rw [List.take_length]; exact E.near, rfl⟩
theorem so_len (its : List Itm) : (so its).length = its.length := (so_perm its).length_eq
theorem so_mem {a : Itm} (h : a ∈ so its) : a ∈ its := (so_perm its).mem_iff.mp h
theorem so_drop {j : Nat} (h : j < its.length) : (so its).drop j = (so its)[j]'(by rw [so_len]; exact h) :: (so its).drop (j + 1) := List.drop_eq_getElem_cons ..
/-- taking out -/
theorem pop_part (P : Pl its o st0 li lh lt) (h0 : hs.Perm (its.map (ref o))) (hh : Hp its o hs) (R : RS its st0 li lh lt pushed hs begun true 0 σ) :
    MY (do let v ← getv "items"; okIter v; forG (nxtOf v) law_run_l1_t law_run_l1_b 4096 0) σ
      (fun f σ' => f = .next ∧ ∃ hs, RS its st0 li lh lt pushed hs begun true its.length σ' ∧ Hps its o its.length)
      (fun e σ' => ∃ hs j, RS its st0 li lh lt pushed hs begun true j σ' ∧ Broke its o hs begun true j e) := by
  have hI := P.pd
  refine y_get R.l2 ?_
  refine y_end (MY_ok (ok_obj (P.items R.pr)) ?_)
  refine MY_for its.length (fun j σ' => ∃ hs, RS its st0 li lh lt pushed hs begun true j σ' ∧ hs.Perm (((so its).drop j).map (ref o)) ∧ Hp its o hs ∧ Hps its o j) ?_ ?_ 4096 0 σ (Nat.zero_le _) (by have := P.b2; (first | lia | omega))
    ⟨hs, R, h0.trans ((so_perm its).symm.map _), hh, fun i hi => ⟨hs, by rw [Nat.le_zero.mp hi]; exact h0.trans ((so_perm its).symm.map _), hh⟩⟩
  · rintro σ' ⟨hs, R', h1, h2, h3⟩
    refine ⟨?_, rfl, hs, R', h3⟩
    rw [nxt_obj (P.items R'.pr) σ' _ (fun k _ => rfl)]
    simp
  · rintro j σ' hj ⟨hs, R', h1, h2, h3⟩
    refine ⟨ref o its[j], ?_, ?_⟩
    · rw [nxt_obj (P.items R'.pr) σ' _ (fun k _ => rfl)]
      simp [hj]
    have hl : ∀ a ∈ (so its).drop j, a ∈ its := fun a ha => so_mem (List.mem_of_mem_drop ha)
    have hlen : hs.length = its.length - j := by rw [h1.length_eq, List.length_map, List.length_drop, so_len]
    have hP := pi_perm hI h1 hl
    have hsd := so_drop (its := its) hj
    generalize hA : (so its)[j]'(by rw [so_len]; exact hj) = a at hsd
    have ha : a ∈ its := hl a (by rw [hsd]; exact List.mem_cons_self)
    have hsrt : (a :: (so its).drop (j + 1)).Pairwise fun a b => ltM b a = false := by rw [← hsd]; exact (so_sorted its).sublist (List.drop_sublist _ _)
    have htop : nth hs 0 = ref o a := top_is hI (by rw [← hsd]; exact hl) hsrt (by rw [← hsd]; exact h1) h2
    have h00 : 0 < hs.length := by (first | lia | omega)
    obtain ⟨us, u1, u2, u3⟩ := hpopE_ends (lt := lI its o) (bad := bI its o) h00
    have hus : us.Perm (((so its).drop (j + 1)).map (ref o)) := by
      rw [htop] at u1
      have := u1.trans h1
      rw [hsd, List.map_cons] at this
      exact List.Perm.cons_inv this
    have hl' : ∀ b ∈ (so its).drop (j + 1), b ∈ its := fun b hb => so_mem (List.mem_of_mem_drop hb)
    have htake : ((so its).take (j + 1)).map (fun a => V.int a.k) = ((so its).take j).map (fun a => V.int a.k) ++ [.int a.k] := by
      rw [List.take_add_one, List.getElem?_eq_getElem (by rw [so_len]; exact hj), hA, List.map_append]; rfl
    have hPs : ∀ v ∈ (hs.eraseIdx (hs.length - 1)).set 0 (nth hs (hs.length - 1)), PI its o v := all_set (fun v hv => hP v (List.mem_of_mem_eraseIdx hv)) (hP _ (nth_mem (by (first | lia | omega))))
    obtain ⟨l1, l2, l3, l4, l5, l6, pr, g1, g2⟩ := id R'
    have hc : f_heappop [.obj lh] σ'.st = outE (fun a b => teM (itm its o a) (itm its o b)) σ'.st lh (nth hs 0) (hpopE (lI its o) (bI its o) hs) :=
      heappopE_spec g1 P.a4 h00 (by have := P.b2; (first | lia | omega)) hPs (P.cmp pr)
    rw [htop] at hc
    have hrow : σ'.st[o + a.k]? = some (.lst (row a)) := by
      obtain ⟨k, hk, e⟩ := List.mem_iff_getElem.mp ha
      have e1 : its[k]? = some a := by rw [List.getElem?_eq_getElem hk, e]
      obtain ⟨q1, _, q3⟩ := P.itsAt pr k a e1
      rw [q3]; exact q1
    have hak : o + a.k ≠ lh ∧ o + a.k ≠ lt := by
      obtain ⟨k, hk, e⟩ := ref_pi (o := o) hI ha
      unfold ref at e
      have : o + a.k = o + k := by injection e
      rw [this]; exact P.b1 k hk
    have R2 : RS its st0 li lh lt pushed hs begun true j (S.put σ' "item" (ref o its[j])) := ⟨l1, l2, l3, l4, l5, l6, pr, g1, g2⟩
    unfold law_run_l1_t law_run_l1_b
    walk_at "my"
    refine MY_of ((MW_chkL (by exact g2)).mpr ?_)
    walk_at "my"
    refine MY_callE (by exact hc) (fun hr => ?_) (fun e hr => ?_)
    · walk_at "my"
      refine y_getN (j := 2) (vs := row a) (by show (σ'.st.set lh _)[o + a.k]? = _; rw [List.getElem?_set_ne (Ne.symm hak.1)]; exact hrow) rfl (by simp [row]) ?_
      walk_at "my"
      refine MY_of ((MW_append (vs := ((so its).take j).map fun a => V.int a.k) (by show (σ'.st.set lh _)[lt]? = _; rw [List.getElem?_set_ne P.a3]; exact g2) P.a5 (by rw [List.length_map, List.length_take]; have := P.b2; (first | lia | omega))).mpr ?_)
      walk_at "my"
      have hne : (hpopE (lI its o) (bI its o) hs).1.Perm us := by
        cases hu : us with
        | nil => rw [u2 hu]
        | cons b t => rw [← hu]; exact (u3 (by rw [hu]; simp)).ok hr
      have hp2 := hne.trans hus
      have hh2 := hpopE_heap (poM its o) hP h00 h2 hr
      have R3 := R2.setH P (hpopE (lI its o) (bI its o) hs).1
      refine ⟨_, ⟨l1, l2, l3, l4, l5, l6, R3.pr.trans (Pres.set (by simp)), ?_, ?_⟩, hp2, hh2, ?_⟩
      · show ((σ'.st.set lh _).set lt _)[lh]? = _
        rw [List.getElem?_set_ne (Ne.symm P.a3)]; exact R3.h1
      · rw [htake]
        exact set_self (lt_of_get R3.h2)
      · intro i hi
        rcases Nat.lt_or_ge i (j + 1) with h | h
        · exact h3 i (by (first | lia | omega))
        · rw [show i = j + 1 by (first | lia | omega)]; exact ⟨_, hp2, hh2⟩
    · have hup : 0 < us.length := by
        cases hu : us with
        | nil => rw [u2 hu] at hr; cases hr
        | cons b t => simp
      have E := u3 hup
      exact ⟨_, j, R2.setH P _, ends_fault hI E hus hl' hr, hj, h3, E.near.perm hus⟩
end
end

local macro_rules | `(tactic| walk_at "mx") => `(tactic| ((repeat (first | (with_reducible first | apply w_as | apply w_pure | apply w_set | apply w_tru | apply w_add | apply w_sub | apply w_lt | apply w_gt | apply w_t | apply w_f | apply w_if | apply e_pure | apply e_set | apply e_tru | apply q_cond | apply w_ge | apply w_le | apply w_neg | apply w_eq | apply w_ne) | ((with_reducible first | apply w_get | apply e_get); · first | exact rfl | assumption))); try with_reducible apply w_end))
/-! part L04d -/
set_option autoImplicit false
set_option maxRecDepth 100000
set_option linter.unusedVariables false
set_option linter.unusedSimpArgs false
open PySem PySem.W PyProof.Rows
section
/-! ### the whole run -/
noncomputable def Rslt (its : List Itm) (o : Nat) (hs : List V) (begun : Nat) (made : Bool) (j : Nat) (fault : V) : Prop :=
  (fault = .none ∧ j = its.length ∧ Hps its o its.length) ∨ ∃ e, fault = .str e.msg ∧ Broke its o hs begun made j e
noncomputable def RunR (its : List Itm) (o : Nat) (st : Store) (v : V) (st' : Store) : Prop := Pres [] st st' ∧ ∃ lh lt hs begun made j fault, v = .tup [.obj lh, .int (begun : Nat), .bool made, .obj lt, fault] ∧ st'[lh]? = some (.lst hs) ∧
  st'[lt]? = some (.lst (((so its).take j).map fun a => V.int a.k)) ∧ Rslt its o hs begun made j fault
theorem run_tail {its : List Itm} {o li lh : Nat} {st : Store} {pushed : Bool} {hs : List V} {σ : S} (hI : Placed its) (hli : st[li]? = some (.lst (its.map (ref o)))) (hits : Its o its st) (h0 : 0 < its.length) (hn : its.length ≤ 100)
    (hp : Pres [] st σ.st) (hlh : σ.st[lh]? = some (.lst hs)) (hnew : st.length ≤ lh) (l1 : σ.lo "heap" = some (.obj lh)) (l2 : σ.lo "items" = some (.obj li)) (l3 : σ.lo "pushed" = some (.bool pushed)) (hs0 : hs = if pushed = true then [] else its.map (ref o)) :
    MW law_run_s12 σ (fun f σ' => RunR its o st (match f with | .ret u => u | _ => .none) σ'.st) := by
  have hst0 : 0 < st.length := by have := lt_of_get hli; (first | lia | omega)
  have hlhl := lt_of_get hlh
  unfold law_run_s12
  apply w_seq
  walk_at "mx"
  refine (MW_len hlh).mpr ?_
  walk_at "mx"
  unfold law_run_s11
  apply w_seq
  walk_at "mx"
  refine MW_newL' (by simp) fun lt st1 p1 f1 g1 => ?_
  walk_at "mx"
  unfold law_run_s10
  apply w_seq
  walk_at "mx"
  unfold law_run_s9
  apply w_seq
  dsimp only [S.put] at p1 f1 g1
  have hlist : ∀ {k : Nat} {c : Cel}, st[k]? = some c → st1[k]? = some c := fun e => p1.get0 (hp.get0 e)
  have hitl : ∀ k, k < its.length → o + k < st.length := fun k hk => lt_of_get (hits k _ (itm_at (o := o) hk)).1
  have P : Pl its o st1 li lh lt := ⟨hI, hlist hli, fun k a e => by obtain ⟨q1, q2, q3⟩ := hits k a e; exact ⟨hlist q1, q2, q3⟩,
    by have := lt_of_get hli; (first | lia | omega), by have := lt_of_get hli; (first | lia | omega), by (first | lia | omega), by (first | lia | omega), by (first | lia | omega), fun k hk => by have := hitl k hk; (first | lia | omega), hn⟩
  refine MW_tryY ?_
  have fin : ∀ {hs : List V} {begun j : Nat} {made : Bool} {σ' : S}, RS its st1 li lh lt pushed hs begun made j σ' → Pres [] st σ'.st := fun R => by
    have q := hp.trans p1
    refine ⟨Nat.le_trans q.1 R.pr.1, fun k hk _ => ?_⟩
    rw [R.pr.2 k (Nat.lt_of_lt_of_le hk q.1) (by simp only [List.mem_cons, List.not_mem_nil, or_false]; (first | lia | omega))]
    exact q.2 k hk (by simp)
  have exc : ∀ {hs : List V} {begun j : Nat} {made : Bool} {e : Exc} {σ' : S}, RS its st1 li lh lt pushed hs begun made j σ' → Broke its o hs begun made j e → MW (hndM "TypeError" "fault" law_run_h7 noH e) σ' (fun f σ'' => match f with
      | .next => MW law_run_s8 σ'' (fun f σ' => RunR its o st (match f with | .ret u => u | _ => .none) σ'.st)
      | .brk => RunR its o st .none σ''.st
      | .cont => RunR its o st .none σ''.st
      | .ret v => RunR its o st v σ''.st) := by
    intro hs begun j made e σ' R B
    have hcls : e.cls = "TypeError" := by obtain ⟨⟨a, _, b, _, _, rfl⟩, _⟩ := B; rfl
    have hm : MW (law_run_h7 e.msg) (σ'.del "fault") (fun f σ'' => f = .ret (.tup [.obj lh, .int begun, .bool made, .obj lt, .str e.msg]) ∧ σ''.st = σ'.st) := by
      unfold law_run_h7
      have e1 : (σ'.del "fault").lo "heap" = some (.obj lh) := R.l1
      have e2 : (σ'.del "fault").lo "begun" = some (.int begun) := R.l4
      have e3 : (σ'.del "fault").lo "made" = some (.bool made) := R.l5
      have e4 : (σ'.del "fault").lo "told" = some (.obj lt) := R.l6
      walk_at "mx"
      refine (MW_mkT (by simp)).mpr ?_
      walk_at "mx"
      exact ⟨rfl, rfl⟩
    obtain ⟨f, σ'', e1, rfl, e3⟩ := hm
    refine ⟨.ret (.tup [.obj lh, .int begun, .bool made, .obj lt, .str e.msg]), σ''.del "fault", ?_, ?_⟩
    · unfold hndM
      rw [if_pos hcls, e1]
    · have hst : (σ''.del "fault").st = σ'.st := e3
      show RunR its o st _ (σ''.del "fault").st
      rw [hst]
      exact ⟨fin R, lh, lt, hs, begun, made, j, _, rfl, R.h1, R.h2, .inr ⟨e, rfl, B⟩⟩
  -- the try's body
  unfold law_run_t6_b
  apply y_seq
  refine MY.mono (Q := fun f σ' => f = .next ∧ ∃ hs begun, RS its st1 li lh lt pushed hs begun false 0 σ' ∧ hs.Perm (its.map (ref o)) ∧ Hp its o hs)
    (X := fun e σ' => ∃ hs begun, RS its st1 li lh lt pushed hs begun false 0 σ' ∧ Broke its o hs begun false 0 e) ?_ ?_ (fun e σ' h => by obtain ⟨hs, begun, R, B⟩ := h; exact exc R B)
  · have hR : RS its st1 li lh lt pushed hs hs.length false 0 (S.put (S.put ⟨st1, (S.put σ "begun" (.int hs.length)).lo⟩ "told" (.obj lt)) "made" (.bool false)) :=
      ⟨l1, l2, l3, rfl, rfl, rfl, Pres.refl _ _, p1.get0 hlh, by rw [List.take_zero]; exact g1⟩
    generalize (S.put (S.put ⟨st1, (S.put σ "begun" (.int hs.length)).lo⟩ "told" (.obj lt)) "made" (.bool false)) = σ1 at hR ⊢
    refine y_as (y_get hR.l3 (y_tru ?_))
    cases pushed with
    | true =>
      rw [if_pos rfl] at hs0
      subst hs0
      rw [if_pos rfl]
      exact push_part P hR
    | false =>
      rw [if_neg (by decide)] at hs0
      subst hs0
      rw [if_neg (by decide)]
      rw [List.length_map] at hR
      exact heapify_part P h0 hR
  · rintro f σ' ⟨rfl, hs, begun, R, h1, h2⟩
    dsimp only
    unfold law_run_s5
    apply y_seq
    walk_at "my"
    unfold law_run_s2
    have R2 : RS its st1 li lh lt pushed hs begun true 0 (S.put σ' "made" (.bool true)) := ⟨R.l1, R.l2, R.l3, R.l4, rfl, R.l6, R.pr, R.h1, R.h2⟩
    refine MY.mono (pop_part P h1 h2 R2) (fun f σ'' h => ?_) (fun e σ'' h => by obtain ⟨hs, j, R, B⟩ := h; exact exc R B)
    obtain ⟨rfl, hs, R3, q⟩ := h
    dsimp only
    unfold law_run_s8
    obtain ⟨l1, l2, l3, l4, l5, l6, pr, g1, g2⟩ := id R3
    walk_at "mx"
    refine (MW_mkT (by simp)).mpr ?_
    walk_at "mx"
    exact ⟨fin R3, lh, lt, hs, begun, true, its.length, .none, rfl, g1, g2, .inl ⟨rfl, rfl, q⟩⟩
theorem run_ok {its : List Itm} {o li : Nat} {st : Store} (pushed : Bool) (hI : Placed its) (hli : st[li]? = some (.lst (its.map (ref o)))) (hits : Its o its st) (h0 : 0 < its.length) (hn : its.length ≤ 100) :
    ∃ v st', f_law_run [.obj li, .bool pushed] st = .ok v st' ∧ RunR its o st v st' := by
  refine funM_ex rfl ?_
  unfold law_run_m
  apply w_seq
  refine w_end (w_as (w_get rfl (w_tru ?_)))
  cases pushed with
  | true =>
    rw [if_pos rfl]
    walk_at "mx"
    refine MW_newL' (by simp) fun lh st1 p1 f1 g1 => ?_
    walk_at "mx"
    exact run_tail hI hli hits h0 hn p1 g1 f1 rfl rfl rfl rfl
  | false =>
    rw [if_neg (by decide)]
    walk_at "mx"
    refine MW_list' (by exact hli) fun lh st1 p1 f1 g1 => ?_
    walk_at "mx"
    exact run_tail hI hli hits h0 hn p1 g1 f1 rfl rfl rfl rfl
end

/-! part L04e -/
set_option autoImplicit false
set_option maxRecDepth 100000
set_option linter.unusedVariables false
set_option linter.unusedSimpArgs false
open PySem PySem.W PyProof.Rows
section
/-! ### an item -/
theorem sgn_ab {i : Int} {σ : S} {Q : V → S → Prop} (hi : i = 0 ∨ i = 1) (q : Q (.str ⟨#[(97 + i).toNat]⟩) σ) : MW (sgnI (.str (Str.ofString "ab")) (.int i)) σ Q := by
  have e : Str.ofString "ab" = ⟨#[97, 98]⟩ := by decide +kernel
  refine (MW_fun_ok (a := V.str ⟨#[(97 + i).toNat]⟩) (σ' := σ) ?_).mpr q
  unfold sgnI
  dsimp only
  rw [e]
  rcases hi with rfl | rfl <;> rfl
theorem item_ok (x : Int) (k : Nat) (st : Store) : f_law_item [.int x, .int k] st = .ok (.obj st.length) (st ++ [.lst (row (itmOf x k))]) := by
  refine funM_of rfl ?_
  unfold law_item_m
  apply w_seq
  walk_at "mx"
  refine MW_fmod.mpr ⟨by (first | lia | omega), ?_⟩
  walk_at "mx"
  unfold law_item_s3
  apply w_seq
  walk_at "mx"
  refine MW_fdiv.mpr ⟨by (first | lia | omega), ?_⟩
  walk_at "mx"
  unfold law_item_s2
  apply w_seq
  have fin : ∀ (σ : S) (tk : V), σ.st = st → σ.lo "own" = some (.int (x / 12)) → σ.lo "rest" = some (.int (x % 12)) → σ.lo "k" = some (.int k) → σ.lo "task" = some tk → tk = tv (itmOf x k) →
      MW law_item_s1 σ (fun f σ' => (match f with | .ret u => u | _ => .none) = .obj st.length ∧ σ'.st = st ++ [.lst (row (itmOf x k))]) := by
    intro σ tk h1 h2 h3 h4 h5 h6
    subst h1 h6
    unfold law_item_s1
    walk_at "mx"
    by_cases hr : x % 12 < 6
    · rw [if_pos (decide_eq_true hr)]
      walk_at "mx"
      refine (MW_newL (by simp)).mpr ?_
      walk_at "mx"
      refine ⟨rfl, ?_⟩
      have : (itmOf x k).p = x / 12 := by unfold itmOf; dsimp only; rw [if_pos hr]
      unfold row
      rw [this]; rfl
    · rw [if_neg (by simpa using hr)]
      walk_at "mx"
      refine MW_fmod.mpr ⟨by (first | lia | omega), ?_⟩
      walk_at "mx"
      refine (MW_newL (by simp)).mpr ?_
      walk_at "mx"
      refine ⟨rfl, ?_⟩
      have : (itmOf x k).p = x / 12 % 12 := by unfold itmOf; dsimp only; rw [if_neg hr]
      unfold row
      rw [this]; rfl
  walk_at "mx"
  refine MW_fmod.mpr ⟨by (first | lia | omega), ?_⟩
  walk_at "mx"
  by_cases h5 : x % 12 % 6 = 5
  · rw [if_pos (decide_eq_true h5)]
    walk_at "mx"
    refine MW_fdiv.mpr ⟨by (first | lia | omega), ?_⟩
    walk_at "mx"
    refine MW_fmod.mpr ⟨by (first | lia | omega), ?_⟩
    walk_at "mx"
    refine sgn_ab (by (first | lia | omega)) ?_
    walk_at "mx"
    refine fin _ _ rfl rfl rfl rfl rfl ?_
    unfold tv itmOf
    dsimp only
    rw [if_pos (decide_eq_true h5), if_pos h5]
  · rw [if_neg (by simpa using h5)]
    walk_at "mx"
    refine MW_fmod.mpr ⟨by (first | lia | omega), ?_⟩
    walk_at "mx"
    refine fin _ _ rfl rfl rfl rfl rfl ?_
    unfold tv itmOf
    dsimp only
    rw [if_neg (by simpa using h5), if_neg h5]

/-! ### what clashes -/
noncomputable def nums (its : List Itm) : List Int := its.filterMap fun a => if a.s = true then none else some a.p
noncomputable def clashL (its : List Itm) : List Int := its.filterMap fun a => if a.s = true ∧ a.p ∈ nums its then some a.p else none
theorem isStr_tv {a : Itm} {σ : S} {Q : V → S → Prop} (q : Q (.bool a.s) σ) : MW (isStrV (tv a)) σ Q := by
  unfold tv
  cases hs : a.s with
  | true => rw [hs] at q; exact (MW_fun_ok (a := V.bool true) (σ' := σ) rfl).mpr q
  | false => rw [hs] at q; exact (MW_fun_ok (a := V.bool false) (σ' := σ) rfl).mpr q
section
variable {its : List Itm} {o li : Nat} {st : Store}
theorem its_row (hits : Its o its st) (hI : Placed its) {a : Itm} (ha : a ∈ its) : st[o + a.k]? = some (.lst (row a)) := by
  obtain ⟨k, hk, e⟩ := List.mem_iff_getElem.mp ha
  have e1 : its[k]? = some a := by rw [List.getElem?_eq_getElem hk, e]
  obtain ⟨q1, _, q3⟩ := hits k a e1
  rw [q3]; exact q1
theorem filterMap_refs (hI : Placed its) (f : Itm → Option V) : (its.map (ref o)).filterMap (fun v => f (itm its o v)) = its.filterMap f := by
  have key : ∀ l : List Itm, (∀ a ∈ l, a ∈ its) → (l.map (ref o)).filterMap (fun v => f (itm its o v)) = l.filterMap f := by
    intro l
    induction l with
    | nil => intro _; rfl
    | cons a l ih =>
      intro h
      rw [List.map_cons, List.filterMap_cons, List.filterMap_cons, itm_ref hI (h a List.mem_cons_self), ih fun b hb => h b (List.mem_cons_of_mem _ hb)]
  exact key its fun _ h => h
noncomputable def gN (a : Itm) : Option V := if a.s = true then none else some (.int a.p)
noncomputable def gC (ns : List Int) (a : Itm) : Option V := if a.s = true ∧ a.p ∈ ns then some (.int a.p) else none
theorem gN_nums : its.filterMap gN = (nums its).map V.int := by
  unfold nums
  rw [List.map_filterMap]
  congr 1
  funext a
  unfold gN
  split <;> rfl
theorem gC_clash : its.filterMap (gC (nums its)) = (clashL its).map V.int := by
  unfold clashL
  rw [List.map_filterMap]
  congr 1
  funext a
  unfold gC
  split <;> rfl
theorem clash_ok (hI : Placed its) (hli : st[li]? = some (.lst (its.map (ref o)))) (hits : Its o its st) (h0 : 0 < st.length) (hn : its.length ≤ 100) :
    ∃ v st', f_law_clash [.obj li] st = .ok v st' ∧ Pres [] st st' ∧ ∃ lc, v = .obj lc ∧ st.length ≤ lc ∧ st'[lc]? = some (.lst ((clashL its).map V.int)) := by
  refine funM_ex rfl ?_
  have hl : (its.map (ref o)).length = its.length := List.length_map ..
  unfold law_clash_m
  apply w_seq
  walk_at "mx"
  refine MW_compPure (us := its.map (ref o)) (t := law_clash_c2_t) (c := law_clash_c2_i) (e := (do let o ← (getv "item"); let i ← (pure (V.int 0) : M V); getI o i)) (n := 4096)
    (fun v => gN (itm its o v)) (fun _ _ => rfl) (ok_obj hli) h0 (nxt_obj hli) (by (first | lia | omega)) (by (first | lia | omega)) ?_ ?_
  · intro v hv σ' hag _
    obtain ⟨a, ha, rfl⟩ := List.mem_map.mp hv
    have hrow : σ'.st[o + a.k]? = some (.lst (row a)) := (hag _ (lt_of_get (its_row hits hI ha))).trans (its_row hits hI ha)
    have e : itm its o (ref o a) = a := itm_ref hI ha
    rw [e]
    unfold law_clash_c2_t law_clash_c2_i
    walk_at "mx"
    refine ⟨rfl, fun x hx => by simp at hx, ?_⟩
    walk_at "mx"
    refine w_getN (j := 1) (by exact hrow) rfl (by simp [row]) ?_
    walk_at "mx"
    refine isStr_tv ?_
    walk_at "mx"
    refine ⟨rfl, ?_⟩
    unfold gN
    cases hs : a.s with
    | true => rfl
    | false =>
      refine ⟨rfl, ?_⟩
      walk_at "mx"
      exact w_getN (j := 0) (by exact hrow) rfl (by simp [row]) ⟨rfl, rfl⟩
  · intro ln st1 p1 f1 g1
    rw [filterMap_refs hI, gN_nums] at g1
    walk_at "mx"
    unfold law_clash_s3
    walk_at "mx"
    have hli1 : st1[li]? = some (.lst (its.map (ref o))) := p1.get0 hli
    refine MW_compPure (us := its.map (ref o)) (t := law_clash_c1_t) (c := law_clash_c1_i) (e := (do let o ← (getv "item"); let i ← (pure (V.int 0) : M V); getI o i)) (n := 4096)
      (fun v => gC (nums its) (itm its o v)) (fun _ _ => rfl) (ok_obj hli1) (Nat.lt_of_lt_of_le h0 p1.1) (nxt_obj hli1) (by (first | lia | omega)) (by (first | lia | omega)) ?_ ?_
    · intro v hv σ' hag hfr
      obtain ⟨a, ha, rfl⟩ := List.mem_map.mp hv
      have hrow : σ'.st[o + a.k]? = some (.lst (row a)) := (hag _ (lt_of_get (p1.get0 (its_row hits hI ha)))).trans (p1.get0 (its_row hits hI ha))
      have hnum : σ'.lo "numbers" = some (.obj ln) := hfr "numbers" (by simp)
      have hng : σ'.st[ln]? = some (.lst ((nums its).map V.int)) := (hag _ (lt_of_get g1)).trans g1
      have e : itm its o (ref o a) = a := itm_ref hI ha
      rw [e]
      unfold law_clash_c1_t law_clash_c1_i
      walk_at "mx"
      refine ⟨rfl, fun x hx => by rw [List.mem_singleton.mp hx]; rfl, ?_⟩
      walk_at "mx"
      refine w_getN (j := 1) (by exact hrow) rfl (by simp [row]) ?_
      walk_at "mx"
      refine isStr_tv ?_
      walk_at "mx"
      cases hs : a.s with
      | false =>
        walk_at "mx"
        exact ⟨rfl, by unfold gC; rw [hs]; simp⟩
      | true =>
        walk_at "mx"
        refine w_getN (j := 0) (by exact hrow) rfl (by simp [row]) ?_
        walk_at "mx"
        refine (MW_inL (k := a.p) (by exact hng)).mpr ?_
        walk_at "mx"
        by_cases hm : a.p ∈ nums its
        · rw [if_pos (decide_eq_true hm)]
          walk_at "mx"
          refine ⟨rfl, ?_⟩
          unfold gC
          rw [if_pos ⟨hs, hm⟩]
          refine ⟨rfl, ?_⟩
          walk_at "mx"
          exact w_getN (j := 0) (by exact hrow) rfl (by simp [row]) ⟨rfl, rfl⟩
        · rw [if_neg (by simpa using hm)]
          walk_at "mx"
          exact ⟨rfl, by unfold gC; rw [if_neg fun h => hm h.2]⟩
    · intro lc st2 p2 f2 g2
      rw [filterMap_refs hI, gC_clash] at g2
      walk_at "mx"
      exact ⟨p1.trans p2, lc, rfl, Nat.le_trans p1.1 f2, g2⟩
end
end

/-! part L04g -/
set_option autoImplicit false
set_option maxRecDepth 100000
set_option linter.unusedVariables false
set_option linter.unusedSimpArgs false
open PySem PySem.W PyProof.Rows
section
/-! ### the order -/
noncomputable def mk (a : Itm) : V := .tup ((mark a).map .int)
noncomputable def theK (v : V) : Option V := match v with
  | .tup vs => vs[3]?
  | _ => none
theorem tupsOf_mk : ∀ l : List Itm, tupsOf (l.map mk) = some (l.map mark)
  | [] => rfl
  | a :: l => by
    have h : tupInts (mk a) = some (mark a) := by
      unfold mk tupInts mark
      simp only [List.map_cons, List.map_nil, intsOf]
      rfl
    have := tupsOf_mk l
    unfold tupsOf at this ⊢
    rw [List.map_cons, mapO, h, this]; rfl
theorem ltK_mk (a b : Itm) : ltK (mk a) (mk b) = ltM a b := by
  unfold ltK enc mk ltM
  dsimp only
  rw [intsOf_mapK, intsOf_mapK]
  dsimp only
  rw [lexB, if_pos rfl]
theorem sort_marks (its : List Itm) : sortK (its.map mk) = (so its).map mk := by
  refine (sortK_uniq ?_ ((so_perm its).map mk) ?_).symm
  · unfold okK
    rw [tupsOf_mk]
    simp
  · rw [List.pairwise_map]
    exact (so_sorted its).imp fun h => (ltK_mk _ _).trans h
theorem MW_unpackL {n l : Nat} {m : List V → M Unit} {vs : List V} {σ : S} {Q : Unit → S → Prop} (h : σ.st[l]? = some (.lst vs)) (hl : vs.length = n) (q : MW (m vs) σ Q) : MW (unpackL n m (.obj l)) σ Q := by
  obtain ⟨a, σ', e, r⟩ := q
  refine ⟨a, σ', ?_, r⟩
  unfold unpackL
  dsimp only
  rw [h]
  dsimp only
  rw [if_pos hl, e]
theorem ord_tv {a : Itm} (hok : a.ok) (hs : a.s = true) {σ : S} {Q : V → S → Prop} (q : Q (.int a.c) σ) : MW (ordB [tv a]) σ Q := by
  unfold tv
  rw [if_pos hs]
  refine (MW_fun_ok (a := V.int a.c) (σ' := σ) ?_).mpr q
  rcases hok hs with e | e <;> rw [e] <;> rfl
theorem MW_sortedN' {l : Nat} {vs : List V} {σ : S} {Q : V → S → Prop} (h : σ.st[l]? = some (.lst vs)) (ok : okK vs = true) (hn : vs.length < 128) (q : ∀ k st', Pres [] σ.st st' → σ.st.length ≤ k → st'[k]? = some (.lst (sortK vs)) → Q (.obj k) ⟨st', σ.lo⟩) : MW (sortedN [.obj l]) σ Q := by
  refine (MW_fun_ok (a := V.obj σ.st.length) (σ' := { σ with st := σ.st ++ [.lst (sortK vs)] }) ?_).mpr (q _ _ (Pres.app ..) (Nat.le_refl _) List.getElem?_concat_length)
  simp only [sortedN, h, ok, hn, and_self, if_true]
section
variable {its : List Itm} {o li : Nat} {st : Store}
theorem order_ok (hI : Placed its) (hli : st[li]? = some (.lst (its.map (ref o)))) (hits : Its o its st) (h0 : 0 < st.length) (hn : its.length ≤ 100) :
    ∃ v st', f_law_order [.obj li] st = .ok v st' ∧ Pres [] st st' ∧ ∃ lc, v = .obj lc ∧ st.length ≤ lc ∧ st'[lc]? = some (.lst ((so its).map fun a => V.int a.k)) := by
  refine funM_ex rfl ?_
  have hl : (its.map (ref o)).length = its.length := List.length_map ..
  unfold law_order_m
  apply w_seq
  walk_at "mx"
  refine MW_newL' (by simp) fun lm st1 p1 f1 g1 => ?_
  walk_at "mx"
  dsimp only at p1 f1
  unfold law_order_s4
  apply w_seq
  walk_at "mx"
  have hlm : li ≠ lm := by have := lt_of_get hli; (first | lia | omega)
  have hli1 := p1.get0 hli
  have hite : ∀ {σ : S} (q : Pres [lm] st1 σ.st), σ.st[li]? = some (.lst (its.map (ref o))) := fun q => q.get hli1 (by simpa using hlm)
  refine (MW_fun_ok (ok_obj (by exact hli1))).mpr ?_
  refine MW_for its.length (fun i σ => σ.lo "marks" = some (.obj lm) ∧ Pres [lm] st1 σ.st ∧ σ.st[lm]? = some (.lst ((its.take i).map mk))) ?_ ?_ 4096 0 _ (Nat.zero_le _) (by (first | lia | omega)) ⟨rfl, Pres.refl _ _, by rw [List.take_zero]; exact g1⟩
  · rintro σ ⟨l1, q, g⟩
    refine ⟨?_, ?_⟩
    · rw [nxt_obj (hite q) σ _ (fun k _ => rfl)]; simp
    rw [List.take_length] at g
    dsimp only
    unfold law_order_s3
    walk_at "mx"
    refine MW_sortedN' (vs := its.map mk) (by exact g) (by unfold okK; rw [tupsOf_mk]; simp) (by rw [List.length_map]; (first | lia | omega)) fun ls st2 p2 f2 g2 => ?_
    rw [sort_marks] at g2
    walk_at "mx"
    have hsl : ((so its).map mk).length = its.length := by rw [List.length_map, so_len]
    refine MW_compPure (us := (so its).map mk) (t := law_order_c1_t) (c := law_order_c1_i) (e := (do let o ← (getv "mark"); let i ← (pure (V.int 3) : M V); getI o i)) (n := 4096)
      theK (fun _ _ => rfl) (ok_obj g2) (by have := p2.1; have := q.1; have := p1.1; dsimp only; (first | lia | omega)) (nxt_obj g2) (by (first | lia | omega)) (by (first | lia | omega)) ?_ ?_
    · intro v hv σ' hag _
      obtain ⟨a, ha, rfl⟩ := List.mem_map.mp hv
      unfold law_order_c1_t law_order_c1_i
      walk_at "mx"
      refine ⟨rfl, fun x hx => by simp at hx, ?_⟩
      walk_at "mx"
      refine ⟨rfl, ?_⟩
      show true = true ∧ _
      refine ⟨rfl, ?_⟩
      walk_at "mx"
      exact (MW_getT (j := 3) (v := .int a.k) (by rfl) (by rfl)).mpr ⟨rfl, rfl⟩
    · intro lc st3 p3 f3 g3
      walk_at "mx"
      have q2 : Pres [] st st3 := by
        refine ⟨Nat.le_trans p1.1 (Nat.le_trans q.1 (Nat.le_trans p2.1 p3.1)), fun k hk _ => ?_⟩
        have hk1 : k < st1.length := Nat.lt_of_lt_of_le hk p1.1
        have hk2 : k < σ.st.length := Nat.lt_of_lt_of_le hk1 q.1
        rw [p3.2 k (Nat.lt_of_lt_of_le hk2 p2.1) (by simp), p2.2 k hk2 (by simp), q.2 k hk1 (by simp only [List.mem_singleton]; (first | lia | omega)), p1.2 k hk (by simp)]
      refine ⟨q2, lc, rfl, ?_, ?_⟩
      · have := p1.1; have := q.1; have := p2.1; dsimp only at f3; (first | lia | omega)
      · rw [g3]
        congr 2
        rw [List.filterMap_map]
        rw [← List.filterMap_eq_map]
        rfl
  · rintro i σ hi ⟨l1, q, g⟩
    refine ⟨ref o its[i], ?_, ?_⟩
    · rw [nxt_obj (hite q) σ _ (fun k _ => rfl)]
      simp [hi]
    have ha : its[i] ∈ its := List.getElem_mem hi
    have hrow0 := its_row hits hI ha
    obtain ⟨_, hok, _⟩ := hits i _ (List.getElem?_eq_getElem hi)
    have htake : (its.take (i + 1)).map mk = (its.take i).map mk ++ [mk its[i]] := by rw [List.take_add_one, List.getElem?_eq_getElem hi, List.map_append]; rfl
    have hlen : ((its.take i).map mk).length < 1000000 := by rw [List.length_map, List.length_take]; (first | lia | omega)
    generalize its[i] = a at ha hrow0 hok htake
    have hrow : σ.st[o + a.k]? = some (.lst (row a)) := q.get (p1.get0 hrow0) (by have := lt_of_get hrow0; simp only [List.mem_singleton]; (first | lia | omega))
    unfold law_order_l2_t law_order_l2_b
    refine MW_unpackL (by exact hrow) rfl ?_
    unfold row
    refine MW_consT.mpr ?_
    walk_at "mx"
    refine MW_consT.mpr ?_
    walk_at "mx"
    refine MW_consT.mpr ?_
    walk_at "mx"
    refine isStr_tv ?_
    walk_at "mx"
    have fin : ∀ σ' : S, σ'.lo "marks" = some (.obj lm) → σ'.st = σ.st.set lm (.lst ((its.take i).map mk ++ [mk a])) → σ'.lo "marks" = some (.obj lm) ∧ Pres [lm] st1 σ'.st ∧ σ'.st[lm]? = some (.lst ((its.take (i + 1)).map mk)) := by
      intro σ' h1 h2
      refine ⟨h1, ?_, ?_⟩
      · rw [h2]; exact q.trans (Pres.set (by simp))
      · rw [h2, htake]; exact set_self (lt_of_get g)
    cases hs : a.s with
    | true =>
      walk_at "mx"
      refine (MW_chkL (by exact g)).mpr ?_
      walk_at "mx"
      refine ord_tv hok hs ?_
      walk_at "mx"
      refine (MW_mkT (by simp)).mpr ?_
      walk_at "mx"
      refine (MW_append (by exact g) (by (first | lia | omega)) hlen).mpr ?_
      walk_at "mx"
      refine fin _ l1 ?_
      unfold mk mark
      rw [hs]; rfl
    | false =>
      walk_at "mx"
      refine (MW_chkL (by exact g)).mpr ?_
      walk_at "mx"
      refine (MW_mkT (by simp)).mpr ?_
      walk_at "mx"
      refine (MW_append (by exact g) (by (first | lia | omega)) hlen).mpr ?_
      walk_at "mx"
      refine fin _ l1 ?_
      unfold mk mark tv
      rw [hs]; rfl
end
end

/-! part L04h -/
set_option autoImplicit false
set_option maxRecDepth 100000
set_option linter.unusedVariables false
set_option linter.unusedSimpArgs false
open PySem PySem.W PyProof.Rows
section
/-! ### what a run's end means -/
noncomputable def aheadN (its : List Itm) (m : Int) : Nat := ((so its).filter fun a => decide (a.p < m)).length
section
variable {its : List Itm} {o : Nat}
theorem clash_mem {a b : Itm} (ha : a ∈ its) (hb : b ∈ its) (h : bdM a b = true) : clashL its ≠ [] := by
  unfold bdM at h
  rw [Bool.and_eq_true] at h
  have hp : a.p = b.p := by simpa using h.1
  have hs : a.s ≠ b.s := by simpa using h.2
  have key : ∀ {x y : Itm}, x ∈ its → y ∈ its → x.s = true → y.s = false → x.p = y.p → clashL its ≠ [] := by
    intro x y hx hy h1 h2 h3 e
    have hn : x.p ∈ nums its := by
      unfold nums
      exact List.mem_filterMap.mpr ⟨y, hy, by rw [h2, h3]; rfl⟩
    have : x.p ∈ clashL its := by
      unfold clashL
      exact List.mem_filterMap.mpr ⟨x, hx, by rw [if_pos ⟨h1, hn⟩]⟩
    rw [e] at this; cases this
  cases h1 : a.s with
  | true => exact key ha hb h1 (by rw [h1] at hs; simpa using hs) hp
  | false => exact key hb ha (by rw [h1] at hs; simpa using hs) h1 hp.symm
theorem clash_of {m : Int} (h : m ∈ clashL its) : ∃ i ∈ its, ∃ j ∈ its, i.s = true ∧ j.s = false ∧ i.p = m ∧ j.p = m := by
  unfold clashL at h
  obtain ⟨i, hi, e⟩ := List.mem_filterMap.mp h
  split at e
  · rename_i hc
    cases e
    obtain ⟨j, hj, e2⟩ := List.mem_filterMap.mp hc.2
    split at e2
    · cases e2
    · rename_i hs
      have e3 : j.p = i.p := by injection e2
      exact ⟨i, hi, j, hj, hc.1, by simpa using hs, rfl, e3⟩
  · cases e
theorem ahead_le (m : Int) : aheadN its m ≤ its.length := by
  unfold aheadN
  exact Nat.le_trans (List.length_filter_le _ _) (by rw [so_len]; exact Nat.le_refl _)
theorem hps_lt {m : Int} {j : Nat} (hI : Placed its) (h : m ∈ clashL its) (H : Hps its o j) : j < aheadN its m := by
  rcases Nat.lt_or_ge j (aheadN its m) with q | q
  · exact q
  · exfalso
    obtain ⟨hs, hp, hh⟩ := H _ q
    obtain ⟨i, hi, k, hk, h1, h2, h3, h4⟩ := clash_of h
    obtain ⟨f1, f2⟩ := front m (so_sorted its)
    have mem : ∀ a ∈ its, a.p = m → a ∈ (so its).drop (aheadN its m) := by
      intro a ha e
      have : a ∈ (so its).take (aheadN its m) ++ (so its).drop (aheadN its m) := by rw [List.take_append_drop]; exact (so_perm its).mem_iff.mpr ha
      rcases List.mem_append.mp this with q | q
      · have := f2 a q; (first | lia | omega)
      · exact q
    exact clash_top hI (fun b hb => so_mem (List.mem_of_mem_drop hb)) hp hh (mem i hi h3) (mem k hk h4) h1 h2 (by (first | lia | omega)) fun b hb => by have := f1 b hb; (first | lia | omega)
noncomputable def wordA : Str := Str.ofString (ltWords "int" "str")
noncomputable def wordB : Str := Str.ofString (ltWords "str" "int")
theorem teM_msg (a b : Itm) : (teM a b).msg = wordA ∨ (teM a b).msg = wordB := by
  unfold teM wordA wordB
  cases a.s
  · exact .inl rfl
  · exact .inr rfl
/-- without a clash all comes -/
theorem rslt_free {hs : List V} {begun j : Nat} {made : Bool} {fault : V} (h : Rslt its o hs begun made j fault) (hc : clashL its = []) : fault = .none ∧ j = its.length := by
  rcases h with ⟨h1, h2, _⟩ | ⟨e, _, ⟨⟨a, ha, b, hb, h, _⟩, _⟩⟩
  · exact ⟨h1, h2⟩
  · exact absurd hc (clash_mem ha hb h)
noncomputable def kI (its : List Itm) (o : Nat) (v : V) : Int := ((itm its o v).k : Nat)
noncomputable def inside (its : List Itm) (o : Nat) (hs : List V) : List Int := (hs.map (kI its o)).foldl setAdd []
theorem nodup_k (hI : Placed its) : (its.map fun a => (a.k : Int)).Nodup := by
  rw [List.nodup_iff_pairwise_ne, List.pairwise_map, List.pairwise_iff_getElem]
  intro i j hi hj hij
  have h1 := hI i _ (List.getElem?_eq_getElem hi)
  have h2 := hI j _ (List.getElem?_eq_getElem hj)
  (first | lia | omega)
theorem kI_refs (hI : Placed its) {l : List Itm} (hl : ∀ a ∈ l, a ∈ its) : (l.map (ref o)).map (kI its o) = l.map fun a => (a.k : Int) := by
  rw [List.map_map]
  refine List.map_congr_left fun a ha => ?_
  show kI its o (ref o a) = _
  unfold kI
  rw [itm_ref hI (hl a ha)]
/-- with a clash -/
theorem rslt_clash {m : Int} {hs : List V} {begun j : Nat} {made : Bool} {fault : V} (hI : Placed its) (h : Rslt its o hs begun made j fault) (hc : m ∈ clashL its) :
    (fault = .str wordA ∨ fault = .str wordB) ∧ j ≤ its.length ∧ (∀ v ∈ hs, PI its o v) ∧ hs.length - 1 ≤ (inside its o hs).length ∧ hs.length ≤ its.length ∧
    if made = true then j < aheadN its m ∧ hs.length = its.length - (j + 1) ∧ j + 1 ≤ its.length ∧ ∀ a ∈ (so its).take (j + 1), (a.k : Int) ∉ inside its o hs else hs.length = begun := by
  rcases h with ⟨_, _, h⟩ | ⟨e, rfl, ⟨⟨a, ha, b, hb, hbd, rfl⟩, h⟩⟩
  · have := hps_lt hI hc h
    have := ahead_le (its := its) m
    (first | lia | omega)
  · have hm : (V.str (teM a b).msg = .str wordA ∨ V.str (teM a b).msg = .str wordB) := (teM_msg a b).imp (congrArg V.str) (congrArg V.str)
    have near : ∀ {l : List Itm}, (∀ a ∈ l, a ∈ its) → (l.map fun a => (a.k : Int)).Nodup → Near hs (l.map (ref o)) → (∀ v ∈ hs, PI its o v) ∧ hs.length - 1 ≤ (inside its o hs).length ∧ hs.length = l.length := by
      intro l hl hn N
      refine ⟨fun v hv => ?_, near_set (kI its o) N (by rw [kI_refs hI hl]; exact hn), by rw [N.length, List.length_map]⟩
      obtain ⟨c, hc, rfl⟩ := List.mem_map.mp (N.sub v hv)
      exact ref_pi hI (hl c hc)
    have hsn : ((so its).map fun a => (a.k : Int)).Nodup := (((so_perm its).map _).nodup_iff).mpr (nodup_k hI)
    cases made with
    | true =>
      rw [if_pos rfl] at h ⊢
      obtain ⟨h1, h2, h3⟩ := h
      have hl : ∀ a ∈ (so its).drop (j + 1), a ∈ its := fun a ha => so_mem (List.mem_of_mem_drop ha)
      obtain ⟨n1, n2, n3⟩ := near hl (hsn.sublist ((List.drop_sublist _ _).map _)) h3
      rw [List.length_drop, so_len] at n3
      refine ⟨hm, by (first | lia | omega), n1, n2, by (first | lia | omega), hps_lt hI hc h2, n3, h1, fun a ha hin => ?_⟩
      unfold inside at hin
      rw [fold_mem] at hin
      rcases hin with q | q
      · cases q
      · obtain ⟨v, hv, e⟩ := List.mem_map.mp q
        obtain ⟨c, hcm, rfl⟩ := List.mem_map.mp (h3.sub v hv)
        have e2 : kI its o (ref o c) = (c.k : Int) := by unfold kI; rw [itm_ref hI (hl c hcm)]
        rw [e2] at e
        have hd : ((so its).take (j + 1) ++ (so its).drop (j + 1)).map (fun a => (a.k : Int)) = (so its).map fun a => (a.k : Int) := by rw [List.take_append_drop]
        rw [← hd, List.map_append] at hsn
        exact (List.nodup_append.mp hsn).2.2 _ (List.mem_map.mpr ⟨a, ha, rfl⟩) _ (List.mem_map.mpr ⟨c, hcm, rfl⟩) e.symm
    | false =>
      rw [if_neg (by decide)] at h ⊢
      obtain ⟨rfl, i, h1, h2, e⟩ := h
      have hl : ∀ a ∈ its.take i, a ∈ its := fun a ha => List.mem_of_mem_take ha
      obtain ⟨n1, n2, n3⟩ := near hl ((nodup_k hI).sublist ((List.take_sublist _ _).map _)) h2
      rw [List.length_take] at n3
      exact ⟨hm, Nat.zero_le _, n1, n2, by (first | lia | omega), by (first | lia | omega)⟩
end
end

/-! part L04i -/
set_option autoImplicit false
set_option maxRecDepth 100000
set_option linter.unusedVariables false
set_option linter.unusedSimpArgs false
open PySem PySem.W PyProof.Rows
section
/-! ### the law's comprehensions -/
theorem MW_compTailC {c0 : Cel} {free : List String} {mc : Nat → (S → Nat → Option (Option V)) → M Unit} {v : V} {σ : S} {Q : V → S → Prop} (hok : okIter v σ = .ok () σ)
    (h : MW (mc σ.st.length (nxtOf v)) ⟨σ.st ++ [c0], restr free σ.lo⟩ (fun _ σ' => Q (.obj σ.st.length) ⟨σ'.st, σ.lo⟩)) : MW (compTailC c0 free mc v) σ Q := by
  obtain ⟨u, σ', e, q⟩ := h
  refine ⟨.obj σ.st.length, ⟨σ'.st, σ.lo⟩, ?_, q⟩
  unfold compTailC
  rw [hok]
  dsimp only
  rw [e]
theorem MW_addAt {l : Nat} {ns : List Int} {i : Int} {σ : S} {Q : Unit → S → Prop} (h : σ.st[l]? = some (.set ns)) (hl : l ≠ 0) (hn : ns.length < 4000) (q : Q () ⟨σ.st.set l (.set (setAdd ns i)), σ.lo⟩) : MW (addAt l (.int i)) σ Q := by
  refine (MW_fun_ok (a := ()) (σ' := ⟨σ.st.set l (.set (setAdd ns i)), σ.lo⟩) ?_).mpr q
  unfold addAt setAdd
  dsimp only
  rw [h]
  dsimp only
  rw [if_pos ⟨hl, hn⟩]
theorem MW_lenSet {l : Nat} {ns : List Int} {σ : S} {Q : V → S → Prop} (h : σ.st[l]? = some (.set ns)) (q : Q (.int ns.length) σ) : MW (lenSet [.obj l]) σ Q := by
  refine (MW_fun_ok (a := V.int ns.length) (σ' := σ) ?_).mpr q
  unfold lenSet
  dsimp only
  rw [h]
theorem MW_inS {l : Nat} {ns : List Int} {i : Int} {σ : S} {Q : V → S → Prop} (h : σ.st[l]? = some (.set ns)) (q : Q (.bool (decide (i ∈ ns))) σ) : MW (inS (.int i) (.obj l)) σ Q := by
  refine (MW_fun_ok (a := V.bool (decide (i ∈ ns))) (σ' := σ) ?_).mpr q
  unfold inS
  dsimp only
  rw [h]
theorem MW_minLB {l : Nat} {ns : List Int} {σ : S} {Q : V → S → Prop} (h : σ.st[l]? = some (.lst (ns.map V.int))) (h0 : 0 < ns.length) (q : ∀ t ∈ ns, (∀ u ∈ ns, t ≤ u) → Q (.int t) σ) : MW (minLB [.obj l]) σ Q := MW_minLI h h0 q
section
variable {its : List Itm} {o : Nat}
theorem inside_comp {lh : Nat} {hs : List V} {σ : S} {Q : V → S → Prop} (hI : Placed its) (hits : Its o its σ.st) (hh : σ.st[lh]? = some (.lst hs)) (hP : ∀ v ∈ hs, PI its o v) (h0 : 0 < σ.st.length) (hn : hs.length ≤ 100)
    (q : ∀ k st', Pres [] σ.st st' → σ.st.length ≤ k → st'[k]? = some (.set (inside its o hs)) → Q (.obj k) ⟨st', σ.lo⟩) : MW (compTailC (.set []) [] law_c4 (.obj lh)) σ Q := by
  refine MW_compTailC (ok_obj hh) ?_
  unfold law_c4
  refine MW_loopC hs.length (fun i σ' => σ'.st = σ.st ++ [.set (((hs.take i).map (kI its o)).foldl setAdd [])]) ?_ ?_ 4096 _ (by (first | lia | omega)) (by simp)
  · intro σ' e
    have hag : Agree σ.st σ'.st := by rw [e]; intro k hk; exact List.getElem?_append_left hk
    refine ⟨by rw [nxt_obj hh σ' _ hag]; simp, ?_⟩
    rw [List.take_length] at e
    rw [e]
    exact q _ _ (Pres.app ..) (Nat.le_refl _) List.getElem?_concat_length
  · intro i σ' hi e
    have hag : Agree σ.st σ'.st := by rw [e]; intro k hk; exact List.getElem?_append_left hk
    refine ⟨hs[i], by rw [nxt_obj hh σ' i hag, List.getElem?_eq_getElem hi], ?_⟩
    obtain ⟨a, ha, ea⟩ := pi_ref hI (hP hs[i] (List.getElem_mem hi))
    have hrow : σ'.st[o + a.k]? = some (.lst (row a)) := (hag _ (lt_of_get (its_row hits hI ha))).trans (its_row hits hI ha)
    have hkI : kI its o hs[i] = (a.k : Int) := by rw [ea]; unfold kI; rw [itm_ref hI ha]
    have htake : ((hs.take (i + 1)).map (kI its o)).foldl setAdd [] = setAdd (((hs.take i).map (kI its o)).foldl setAdd []) a.k := by
      rw [List.take_add_one, List.getElem?_eq_getElem hi, List.map_append, List.foldl_append]
      show setAdd _ (kI its o hs[i]) = _
      rw [hkI]
    have hle := fold_le ((hs.take i).map (kI its o)) []
    rw [List.length_map, List.length_take] at hle
    rw [ea]
    unfold law_c4_t law_c4_i law_c4_e
    walk_at "mx"
    rw [if_pos rfl]
    walk_at "mx"
    refine w_getN (j := 2) (by exact hrow) rfl (by simp [row]) ?_
    walk_at "mx"
    refine MW_addAt (by show σ'.st[σ.st.length]? = _; rw [e]; exact List.getElem?_concat_length) (by (first | lia | omega)) (by have : ([] : List Int).length = 0 := rfl; (first | lia | omega)) ?_
    show σ'.st.set σ.st.length _ = _
    rw [e, List.set_append_right _ _ (Nat.le_refl _), htake]
    simp
/-- of the first ones none is inside -/
theorem none_inside {lo ls : Nat} {ns : List Int} {l : List Int} {σ : S} {Q : V → S → Prop} (hl : σ.st[lo]? = some (.lst (l.map V.int))) (hs : σ.st[ls]? = some (.set ns)) (hlo : σ.lo "inside" = some (.obj ls)) (hx : ∀ x ∈ l, x ∉ ns) (h0 : 0 < σ.st.length) (hn : l.length ≤ 100)
    (q : ∀ k st', Pres [] σ.st st' → σ.st.length ≤ k → st'[k]? = some (.lst []) → Q (.obj k) ⟨st', σ.lo⟩) : MW (compTail ["inside"] law_c1 (.obj lo)) σ Q := by
  refine MW_compPure (us := l.map V.int) (t := law_c1_t) (c := law_c1_i) (e := getv "k") (n := 4096) (fun _ => none) (fun _ _ => rfl) (ok_obj hl) h0 (nxt_obj hl) (by rw [List.length_map]; (first | lia | omega)) (by rw [List.length_map]; (first | lia | omega)) ?_ ?_
  · intro v hv σ' hag hfr
    obtain ⟨x, hxm, rfl⟩ := List.mem_map.mp hv
    have hin : σ'.lo "inside" = some (.obj ls) := (hfr "inside" (by simp)).trans hlo
    have hsg : σ'.st[ls]? = some (.set ns) := (hag _ (lt_of_get hs)).trans hs
    unfold law_c1_t law_c1_i
    walk_at "mx"
    refine ⟨rfl, fun y hy => by rw [List.mem_singleton.mp hy]; rfl, ?_⟩
    walk_at "mx"
    refine MW_inS (by exact hsg) ?_
    walk_at "mx"
    exact ⟨rfl, by simpa using hx x hxm⟩
  · intro k st' p f g
    exact q k st' p f (by rw [g]; simp)
/-- how many go ahead of the first clash -/
theorem ahead_comp {lor lc li : Nat} {l : List Itm} {m : Int} {σ : S} {Q : V → S → Prop} (hI : Placed its) (hits : Its o its σ.st) (hor : σ.st[lor]? = some (.lst (l.map fun a => V.int a.k))) (hlc : σ.st[lc]? = some (.lst ((clashL its).map V.int))) (hli : σ.st[li]? = some (.lst (its.map (ref o))))
    (l1 : σ.lo "clash" = some (.obj lc)) (l2 : σ.lo "items" = some (.obj li)) (hl : ∀ a ∈ l, a ∈ its) (h0 : 0 < σ.st.length) (hn : l.length ≤ 100) (hm : m ∈ clashL its) (hm2 : ∀ u ∈ clashL its, m ≤ u)
    (q : ∀ k st' vs, Pres [] σ.st st' → σ.st.length ≤ k → st'[k]? = some (.lst vs) → vs.length = (l.filter fun a => decide (a.p < m)).length → Q (.obj k) ⟨st', σ.lo⟩) : MW (compTail ["clash", "items"] law_c15 (.obj lor)) σ Q := by
  refine MW_compTailC (ok_obj hor) ?_
  unfold law_c15
  refine MW_loopC l.length (fun i σ' => Pres [] σ.st σ'.st ∧ σ'.lo "clash" = some (.obj lc) ∧ σ'.lo "items" = some (.obj li) ∧ ∃ vs, σ'.st[σ.st.length]? = some (.lst vs) ∧ vs.length = ((l.take i).filter fun a => decide (a.p < m)).length) ?_ ?_ 4096 _ (by (first | lia | omega))
    ⟨Pres.app .., by simp only [restr]; rw [if_pos (by simp)]; exact l1, by simp only [restr]; rw [if_pos (by simp)]; exact l2, [], List.getElem?_concat_length, by simp⟩
  · rintro σ' ⟨p, _, _, vs, g, e⟩
    have hag : Agree σ.st σ'.st := fun k hk => p.2 k hk (by simp)
    refine ⟨by rw [nxt_obj hor σ' _ hag]; simp, ?_⟩
    rw [List.take_length] at e
    exact q _ _ vs p (Nat.le_refl _) g e
  · rintro i σ' hi ⟨p, c1, c2, vs, g, e⟩
    have hag : Agree σ.st σ'.st := fun k hk => p.2 k hk (by simp)
    have htake : l.take (i + 1) = l.take i ++ [l[i]] := by rw [List.take_add_one, List.getElem?_eq_getElem hi]; rfl
    have ha := hl _ (List.getElem_mem hi)
    refine ⟨.int l[i].k, by rw [nxt_obj hor σ' i hag, List.getElem?_map, List.getElem?_eq_getElem hi]; rfl, ?_⟩
    rw [htake, List.filter_append, List.length_append]
    generalize l[i] = a at ha ⊢
    obtain ⟨k, hk, ek⟩ := List.mem_iff_getElem.mp ha
    have hk2 := hI k a (by rw [List.getElem?_eq_getElem hk, ek])
    have hvs : vs.length ≤ 100 := by rw [e]; exact Nat.le_trans (List.length_filter_le _ _) (by rw [List.length_take]; (first | lia | omega))
    unfold law_c15_t law_c15_i law_c15_e
    walk_at "mx"
    refine MW_newL' (by simp) fun l0 st1 p1 f1 g1 => ?_
    walk_at "mx"
    have q1 : Pres [] σ.st st1 := p.trans p1
    have hlc1 : st1[lc]? = some (.lst ((clashL its).map V.int)) := q1.get0 hlc
    refine (MW_neL (as := clashL its) (bs := []) (by exact hlc1) (by exact g1)).mpr ?_
    have hne : decide (clashL its = []) = false := decide_eq_false (by rintro h; rw [h] at hm; cases hm)
    rw [hne, Bool.not_false]
    walk_at "mx"
    refine (MW_getN (vs := its.map (ref o)) (j := a.k) (by exact q1.get0 hli) rfl (by rw [List.length_map]; (first | lia | omega))).mpr ?_
    have hnth : nth (its.map (ref o)) a.k = ref o a := by
      have h1 := nth_eq (vs := its.map (ref o)) (i := a.k) (by rw [List.length_map]; (first | lia | omega))
      rw [List.getElem?_map, hk2, List.getElem?_eq_getElem hk, ek] at h1
      have h2 : ref o a = nth (its.map (ref o)) k := by injection h1
      rw [hk2]; exact h2.symm
    rw [hnth]
    walk_at "mx"
    refine w_getN (j := 0) (by exact q1.get0 (its_row hits hI ha)) rfl (by simp [row]) ?_
    walk_at "mx"
    refine MW_minLB (ns := clashL its) (by exact hlc1) (List.length_pos_of_mem hm) fun t ht htm => ?_
    have : t = m := by have := htm m hm; have := hm2 t ht; (first | lia | omega)
    subst this
    walk_at "mx"
    refine (MW_lt_int (a := a.p)).mpr ?_
    walk_at "mx"
    have hold : st1[σ.st.length]? = some (.lst vs) := p1.get0 g
    by_cases hp : a.p < t
    · rw [if_pos (decide_eq_true hp)]
      walk_at "mx"
      rw [if_pos rfl]
      walk_at "mx"
      refine MW_appendAt (by exact hold) (by (first | lia | omega)) (by (first | lia | omega)) ⟨?_, c1, c2, vs ++ [.int a.k], set_self (lt_of_get hold), ?_⟩
      · exact ⟨by dsimp only; rw [List.length_set]; exact q1.1, fun k hk _ => by dsimp only; rw [List.getElem?_set_ne (by (first | lia | omega))]; exact q1.2 k hk (by simp)⟩
      · rw [List.filter_cons_of_pos (by simpa using hp)]
        simp [e]
    · rw [if_neg (by simpa using hp)]
      walk_at "mx"
      rw [if_neg (by decide)]
      refine ⟨q1, c1, c2, vs, hold, ?_⟩
      rw [List.filter_cons_of_neg (by simpa using hp)]
      simp [e]
end
end

/-! part L04j -/
set_option autoImplicit false
set_option maxRecDepth 100000
set_option linter.unusedVariables false
set_option linter.unusedSimpArgs false
open PySem PySem.W PyProof.Rows
section
/-! ### the law's body: one run -/
structure Lv (its : List Itm) (o li lor lc lw : Nat) (A : Nat) (σ : S) : Prop where
  l1 : σ.lo "items" = some (.obj li)
  l2 : σ.lo "order" = some (.obj lor)
  l3 : σ.lo "clash" = some (.obj lc)
  l4 : σ.lo "ahead" = some (.int A)
  l5 : σ.lo "words" = some (.obj lw)
  g0 : Its o its σ.st
  g1 : σ.st[li]? = some (.lst (its.map (ref o)))
  g2 : σ.st[lor]? = some (.lst ((so its).map fun a => V.int a.k))
  g3 : σ.st[lc]? = some (.lst ((clashL its).map V.int))
  g4 : σ.st[lw]? = some (.lst [.str wordA, .str wordB])
section
variable {its : List Itm} {o li lor lc lw A : Nat} {σ : S}
theorem Its.pres {st st' : Store} (h : Its o its st) (p : Pres [] st st') : Its o its st' := fun k a e => by obtain ⟨h1, h2, h3⟩ := h k a e; exact ⟨p.get0 h1, h2, h3⟩
theorem Lv.next {σ' : S} (L : Lv its o li lor lc lw A σ) (p : Pres [] σ.st σ'.st) (h : ∀ x ∈ ["items", "order", "clash", "ahead", "words"], σ'.lo x = σ.lo x) : Lv its o li lor lc lw A σ' :=
  ⟨(h _ (by simp)).trans L.l1, (h _ (by simp)).trans L.l2, (h _ (by simp)).trans L.l3, (h _ (by simp)).trans L.l4, (h _ (by simp)).trans L.l5, L.g0.pres p, p.get0 L.g1, p.get0 L.g2, p.get0 L.g3, p.get0 L.g4⟩
theorem strs_D {st : Store} {x : Str} (h : PyData.strOk x = true) : toD st 6 (.str x) = some (.str x) := by
  show (if PyData.strOk x = true then some (PyData.str x) else none) = _
  rw [if_pos h]
theorem strs_D' {st : Store} {n : Nat} {x : Str} (h : PyData.strOk x = true) : toD st (n + 1) (.str x) = some (.str x) := by
  show (if PyData.strOk x = true then some (PyData.str x) else none) = _
  rw [if_pos h]
theorem words_D {st : Store} (h : st[lw]? = some (.lst [.str wordA, .str wordB])) : toD st 6 (.obj lw) = some (.list [.str wordA, .str wordB]) := by
  have ha : PyData.strOk wordA = true := by decide +kernel
  have hb : PyData.strOk wordB = true := by decide +kernel
  unfold toD
  dsimp only
  rw [h]
  dsimp only
  simp only [mapO, strs_D' ha, strs_D' hb]
  rfl
theorem MW_word {v : V} {Q : V → S → Prop} (h : σ.st[lw]? = some (.lst [.str wordA, .str wordB])) (hv : v = .str wordA ∨ v = .str wordB) (q : Q (.bool false) σ) : MW (notInV v (.obj lw)) σ Q := by
  refine (MW_fun_ok (a := V.bool false) (σ' := σ) ?_).mpr q
  unfold notInV
  rw [words_D h]
  rcases hv with rfl | rfl
  · rw [strs_D (by decide +kernel)]
    have : inD (.str wordA) (.list [.str wordA, .str wordB]) = some true := by decide +kernel
    simp only [this]; rfl
  · rw [strs_D (by decide +kernel)]
    have : inD (.str wordB) (.list [.str wordA, .str wordB]) = some true := by decide +kernel
    simp only [this]; rfl
theorem ks_map (l : List Itm) : (l.map fun a => V.int a.k) = (l.map fun a => (a.k : Int)).map V.int := by rw [List.map_map]; rfl
theorem list_min : ∀ {l : List Int}, l ≠ [] → ∃ m ∈ l, ∀ u ∈ l, m ≤ u
  | [], h => absurd rfl h
  | [a], _ => ⟨a, List.mem_cons_self, fun u hu => by rw [List.mem_singleton.mp hu]; exact Int.le_refl _⟩
  | a :: b :: t, _ => by
    obtain ⟨m, hm, h⟩ := list_min (l := b :: t) (by simp)
    by_cases hq : a ≤ m
    · refine ⟨a, List.mem_cons_self, fun u hu => ?_⟩
      rcases List.mem_cons.mp hu with rfl | hu
      · exact Int.le_refl _
      · have := h u hu; (first | lia | omega)
    · refine ⟨m, List.mem_cons_of_mem _ hm, fun u hu => ?_⟩
      rcases List.mem_cons.mp hu with rfl | hu
      · (first | lia | omega)
      · exact h u hu
/-- the body's end: the next turn -/
noncomputable abbrev Fin (its : List Itm) (o li lor lc lw A : Nat) : Fl → S → Prop := fun f σ' => (f = .next ∨ f = .cont) ∧ Lv its o li lor lc lw A σ'
theorem made_ok {lh lt ls : Nat} {hs : List V} {begun j : Nat} {made : Bool} {ins : List Int} (hn : its.length ≤ 100) (L : Lv its o li lor lc lw A σ) (l1 : σ.lo "heap" = some (.obj lh)) (l2 : σ.lo "begun" = some (.int begun)) (l3 : σ.lo "made" = some (.bool made)) (l4 : σ.lo "told" = some (.obj lt))
    (l5 : σ.lo "inside" = some (.obj ls)) (g1 : σ.st[lh]? = some (.lst hs)) (g2 : σ.st[lt]? = some (.lst (((so its).take j).map fun a => V.int a.k))) (g3 : σ.st[ls]? = some (.set ins)) (hj : j ≤ its.length)
    (h : if made = true then j < A ∧ hs.length = its.length - (j + 1) ∧ j + 1 ≤ its.length ∧ ∀ a ∈ (so its).take (j + 1), (a.k : Int) ∉ ins else hs.length = begun) : MW law_s3 σ (Fin its o li lor lc lw A) := by
  have htl : (((so its).take j).map fun a => V.int a.k).length = j := by rw [List.length_map, List.length_take, so_len]; (first | lia | omega)
  have h0 : 0 < σ.st.length := by have := lt_of_get g1; (first | lia | omega)
  unfold law_s3
  refine w_as (w_get l3 (w_tru ?_))
  cases made with
  | true =>
    rw [if_pos rfl] at h ⊢
    obtain ⟨h1, h2, h3, h4⟩ := h
    have e1 := L.l1
    have e4 := L.l4
    have e2 := L.l2
    apply w_seq
    walk_at "mx"
    refine (MW_len g2).mpr ?_
    rw [htl]
    walk_at "mx"
    rw [if_neg (by simp; (first | lia | omega))]
    walk_at "mx"
    refine (MW_len g1).mpr ?_
    walk_at "mx"
    refine (MW_len L.g1).mpr ?_
    walk_at "mx"
    refine (MW_len g2).mpr ?_
    rw [htl]
    walk_at "mx"
    rw [if_neg (by rw [List.length_map]; simp; (first | lia | omega))]
    walk_at "mx"
    unfold law_s2
    walk_at "mx"
    refine (MW_len g2).mpr ?_
    rw [htl]
    walk_at "mx"
    refine (MW_fun_ok (a := V.int ((j : Int) + 1)) (σ' := _) rfl).mpr ?_
    walk_at "mx"
    refine MW_sl0 (j + 1) L.g2 (by (first | lia | omega)) fun lo st1 p1 f1 q1 => ?_
    rw [← List.map_take, ks_map] at q1
    walk_at "mx"
    refine none_inside (ns := ins) (l := ((so its).take (j + 1)).map fun a => (a.k : Int)) (by exact q1) (by exact p1.get0 g3) (by exact l5) ?_ (by have := p1.1; dsimp only; (first | lia | omega)) (by rw [List.length_map, List.length_take]; (first | lia | omega)) fun l2 st2 p2 f2 q2 => ?_
    · intro x hx
      obtain ⟨a, ha, rfl⟩ := List.mem_map.mp hx
      exact h4 a ha
    walk_at "mx"
    refine MW_newL' (by simp) fun l3 st3 p3 f3 q3 => ?_
    walk_at "mx"
    refine (MW_neL (as := []) (bs := []) (by exact p3.get0 q2) (by exact q3)).mpr ?_
    walk_at "mx"
    rw [if_neg (by decide)]
    walk_at "mx"
    exact ⟨.inl rfl, L.next (p1.trans (p2.trans p3)) fun x _ => rfl⟩
  | false =>
    rw [if_neg (by decide)] at h ⊢
    walk_at "mx"
    refine (MW_len g1).mpr ?_
    walk_at "mx"
    rw [if_neg (by rw [h]; simp)]
    walk_at "mx"
    exact ⟨.inl rfl, L⟩
theorem unpack5 {a b c d e : V} {ts : List V → M Unit} {Q : Unit → S → Prop} (h : MW (ts [a, b, c, d, e]) σ Q) : MW (unpackT 5 ts (.tup [a, b, c, d, e])) σ Q := (MW_unpack rfl).mpr h
theorem turn_ok {pushed : Bool} (hI : Placed its) (h0 : 0 < its.length) (hn : its.length ≤ 100) (L : Lv its o li lor lc lw A σ) (hA : ∀ m ∈ clashL its, (∀ u ∈ clashL its, m ≤ u) → A = aheadN its m) (hp : σ.lo "pushed" = some (.bool pushed)) :
    MW law_l10_b σ (Fin its o li lor lc lw A) := by
  obtain ⟨v, st1, e, p1, lh, lt, hs, begun, made, j, fault, rfl, q1, q2, R⟩ := run_ok pushed hI L.g1 L.g0 h0 hn
  have L1 := L.l1
  unfold law_l10_b
  apply w_seq
  walk_at "mx"
  refine MW_callF' (by exact e) ?_
  walk_at "mx"
  refine unpack5 ?_
  refine MW_consT.mpr ?_
  walk_at "mx"
  refine MW_consT.mpr ?_
  walk_at "mx"
  refine MW_consT.mpr ?_
  walk_at "mx"
  refine MW_consT.mpr ?_
  walk_at "mx"
  refine MW_consT.mpr ?_
  walk_at "mx"
  have L' : Lv its o li lor lc lw A (S.put (S.put (S.put (S.put (S.put ⟨st1, σ.lo⟩ "heap" (.obj lh)) "begun" (.int begun)) "made" (.bool made)) "told" (.obj lt)) "fault" fault) := L.next p1 fun x hx => by
    simp only [List.mem_cons, List.not_mem_nil, or_false] at hx
    rcases hx with rfl | rfl | rfl | rfl | rfl <;> rfl
  have m1 : (S.put (S.put (S.put (S.put (S.put ⟨st1, σ.lo⟩ "heap" (.obj lh)) "begun" (.int begun)) "made" (.bool made)) "told" (.obj lt)) "fault" fault).lo "heap" = some (.obj lh) := rfl
  have m2 : (S.put (S.put (S.put (S.put (S.put ⟨st1, σ.lo⟩ "heap" (.obj lh)) "begun" (.int begun)) "made" (.bool made)) "told" (.obj lt)) "fault" fault).lo "begun" = some (.int begun) := rfl
  have m3 : (S.put (S.put (S.put (S.put (S.put ⟨st1, σ.lo⟩ "heap" (.obj lh)) "begun" (.int begun)) "made" (.bool made)) "told" (.obj lt)) "fault" fault).lo "made" = some (.bool made) := rfl
  have m4 : (S.put (S.put (S.put (S.put (S.put ⟨st1, σ.lo⟩ "heap" (.obj lh)) "begun" (.int begun)) "made" (.bool made)) "told" (.obj lt)) "fault" fault).lo "told" = some (.obj lt) := rfl
  have m5 : (S.put (S.put (S.put (S.put (S.put ⟨st1, σ.lo⟩ "heap" (.obj lh)) "begun" (.int begun)) "made" (.bool made)) "told" (.obj lt)) "fault" fault).lo "fault" = some fault := rfl
  have q1 : (S.put (S.put (S.put (S.put (S.put ⟨st1, σ.lo⟩ "heap" (.obj lh)) "begun" (.int begun)) "made" (.bool made)) "told" (.obj lt)) "fault" fault).st[lh]? = some (.lst hs) := q1
  have q2 : (S.put (S.put (S.put (S.put (S.put ⟨st1, σ.lo⟩ "heap" (.obj lh)) "begun" (.int begun)) "made" (.bool made)) "told" (.obj lt)) "fault" fault).st[lt]? = some (.lst (((so its).take j).map fun a => V.int a.k)) := q2
  generalize (S.put (S.put (S.put (S.put (S.put ⟨st1, σ.lo⟩ "heap" (.obj lh)) "begun" (.int begun)) "made" (.bool made)) "told" (.obj lt)) "fault" fault) = σ1 at L' m1 m2 m3 m4 m5 q1 q2 ⊢
  clear L1 hp L e p1
  have hpos : 0 < σ1.st.length := by have := lt_of_get q1; (first | lia | omega)
  have c1 := L'.l3
  have c2 := L'.l2
  have c5 := L'.l5
  unfold law_s9
  apply w_seq
  walk_at "mx"
  refine MW_newL' (by simp) fun l0 st2 p2 f2 g2 => ?_
  walk_at "mx"
  refine (MW_eqL (as := clashL its) (bs := []) (by exact p2.get0 L'.g3) (by exact g2)).mpr ?_
  walk_at "mx"
  by_cases hc : clashL its = []
  · obtain ⟨rfl, rfl⟩ := rslt_free R hc
    rw [if_pos (decide_eq_true hc)]
    apply w_seq
    walk_at "mx"
    refine MW_isNotNone.mpr ?_
    walk_at "mx"
    rw [if_neg (by decide)]
    walk_at "mx"
    have hall : (so its).take its.length = so its := List.take_of_length_le (by rw [so_len]; exact Nat.le_refl _)
    rw [hall, ks_map] at q2
    have g2' := L'.g2
    rw [ks_map] at g2'
    refine (MW_neL (by exact p2.get0 q2) (by exact p2.get0 g2')).mpr ?_
    walk_at "mx"
    rw [if_neg (by simp)]
    walk_at "mx"
    unfold law_s7
    walk_at "mx"
    exact ⟨.inr rfl, L'.next p2 fun x _ => rfl⟩
  · rw [if_neg (by simpa using hc)]
    walk_at "mx"
    obtain ⟨m, hm, hmin⟩ := list_min hc
    have hAm := hA m hm hmin
    obtain ⟨r1, r2, r3, r4, r5, r6⟩ := rslt_clash hI R hm
    rw [← hAm] at r6
    have L2 : Lv its o li lor lc lw A ⟨st2, σ1.lo⟩ := L'.next p2 fun x _ => rfl
    have htl : (((so its).take j).map fun a => V.int a.k).length = j := by rw [List.length_map, List.length_take, so_len]; (first | lia | omega)
    unfold law_s8
    apply w_seq
    walk_at "mx"
    refine MW_word (by exact L2.g4) r1 ?_
    walk_at "mx"
    refine (MW_len (by exact p2.get0 q2)).mpr ?_
    rw [htl]
    walk_at "mx"
    refine MW_sl0 j (by exact L2.g2) rfl fun l1 st3 p3 f3 g3 => ?_
    rw [← List.map_take] at g3
    have q2' := q2
    rw [ks_map] at q2' g3
    walk_at "mx"
    refine (MW_neL (by exact p3.get0 (p2.get0 q2')) (by exact g3)).mpr ?_
    walk_at "mx"
    rw [if_neg (by simp)]
    walk_at "mx"
    have L3 : Lv its o li lor lc lw A ⟨st3, σ1.lo⟩ := L2.next p3 fun x _ => rfl
    unfold law_s6
    apply w_seq
    walk_at "mx"
    refine inside_comp hI (by exact L3.g0) (by exact p3.get0 (p2.get0 q1)) r3 (by have := (p2.trans p3).1; dsimp only; (first | lia | omega)) (by (first | lia | omega)) fun ls st4 p4 f4 g4 => ?_
    walk_at "mx"
    unfold law_s5
    apply w_seq
    walk_at "mx"
    refine MW_lenSet (by exact g4) ?_
    walk_at "mx"
    have p24 := p2.trans (p3.trans p4)
    refine (MW_len (by exact p24.get0 q1)).mpr ?_
    walk_at "mx"
    rw [if_neg (by simp; (first | lia | omega))]
    walk_at "mx"
    refine made_ok hn (lh := lh) (lt := lt) (ls := ls) (begun := begun) (made := made) (j := j) ?_ m1 m2 m3 m4 rfl (by exact p24.get0 q1) (by exact p24.get0 q2) (by exact g4) r2 r6
    exact L3.next (σ' := S.put ⟨st4, σ1.lo⟩ "inside" (.obj ls)) p4 fun x hx => by
      simp only [List.mem_cons, List.not_mem_nil, or_false] at hx
      rcases hx with rfl | rfl | rfl | rfl | rfl <;> rfl
end
end

/-! part L04 -/
set_option autoImplicit false
set_option maxRecDepth 100000
set_option linter.unusedVariables false
set_option linter.unusedSimpArgs false
open PySem PySem.W PyProof.Rows
section
/-! ### the law -/
noncomputable def itsOf (ns : List Int) : List Itm := ns.mapIdx fun k x => itmOf x k
theorem its_len (ns : List Int) : (itsOf ns).length = ns.length := List.length_mapIdx
theorem its_get (ns : List Int) (k : Nat) : (itsOf ns)[k]? = ns[k]?.map (itmOf · k) := List.getElem?_mapIdx
theorem its_placed (ns : List Int) : Placed (itsOf ns) := fun k a e => by
  rw [its_get] at e
  cases h : ns[k]? with
  | none => rw [h] at e; cases e
  | some x => rw [h] at e; cases e; rfl
theorem rows_at (ns : List Int) (st xs : Store) (o : Nat) (ho : o = (st ++ xs).length) : Its o (itsOf ns) (st ++ xs ++ (itsOf ns).map fun a => .lst (row a)) := fun k a e => by
  have hk : k < (itsOf ns).length := (List.getElem?_eq_some_iff.mp e).1
  refine ⟨?_, ?_, its_placed ns k a e⟩
  · rw [ho, List.getElem?_append_right (Nat.le_add_right _ _), Nat.add_sub_cancel_left, List.getElem?_map, e]; rfl
  · rw [its_get] at e
    cases h : ns[k]? with
    | none => rw [h] at e; cases e
    | some x => rw [h] at e; cases e; exact itmOf_ok x k
theorem items_comp {ns : List Int} {ln : Nat} {σ : S} {Q : V → S → Prop} (hln : σ.st[ln]? = some (.lst (ns.map V.int))) (l1 : σ.lo "numbers" = some (.obj ln)) (h0 : 0 < σ.st.length) (hn : ns.length ≤ 100)
    (q : ∀ st' li o, Pres [] σ.st st' → st'[li]? = some (.lst ((itsOf ns).map (ref o))) → Its o (itsOf ns) st' → Q (.obj li) ⟨st', σ.lo⟩) : MW (compTail ["numbers"] law_c19 (.rng 0 ns.length 1)) σ Q := by
  refine MW_compTailC (ok_rng (rngU_small (by (first | lia | omega)) (by (first | lia | omega)) (by (first | lia | omega)))) ?_
  have hil := its_len ns
  unfold law_c19
  refine MW_loopC ns.length (fun i σ' => σ'.lo "numbers" = some (.obj ln) ∧ σ'.st = σ.st ++ [.lst (((itsOf ns).take i).map (ref (σ.st.length + 1)))] ++ ((itsOf ns).take i).map fun a => .lst (row a)) ?_ ?_ 4096 _ (by (first | lia | omega)) ⟨by simp only [restr]; rw [if_pos (by simp)]; exact l1, by simp⟩
  · rintro σ' ⟨c1, e⟩
    refine ⟨by rw [nxt_rngU (n := ns.length) σ' _ (by (first | lia | omega))]; simp, ?_⟩
    rw [List.take_of_length_le (by (first | lia | omega))] at e
    rw [e]
    refine q _ _ (σ.st.length + 1) (by rw [List.append_assoc]; exact Pres.app ..) ?_ ?_
    · rw [List.getElem?_append_left (by simp)]; exact List.getElem?_concat_length
    · exact rows_at ns _ _ _ (by simp)
  · rintro i σ' hi ⟨c1, e⟩
    have hget : (itsOf ns)[i]? = some (itmOf ns[i] i) := by rw [its_get, List.getElem?_eq_getElem hi]; rfl
    have htake : (itsOf ns).take (i + 1) = (itsOf ns).take i ++ [itmOf ns[i] i] := by rw [List.take_add_one, hget]; rfl
    have htl : ((itsOf ns).take i).length = i := by rw [List.length_take]; (first | lia | omega)
    refine ⟨.int (i : Nat), ?_, ?_⟩
    · rw [nxt_rngU (n := ns.length) σ' _ (by (first | lia | omega))]
      simp [hi]
    have hln' : σ'.st[ln]? = some (.lst (ns.map V.int)) := by rw [e, List.append_assoc, List.getElem?_append_left (lt_of_get hln)]; exact hln
    have hlen : σ'.st.length = σ.st.length + 1 + i := by rw [e, List.length_append, List.length_append, List.length_map, htl]; rfl
    rw [htake]
    generalize (itsOf ns).take i = ts at e htl ⊢
    unfold law_c19_t law_c19_i law_c19_e
    walk_at "mx"
    rw [if_pos rfl]
    walk_at "mx"
    refine (MW_getN (j := i) (by exact hln') rfl (by rw [List.length_map]; exact hi)).mpr ?_
    rw [nthV hi, nth_getElem hi]
    walk_at "mx"
    refine MW_callF' (item_ok ns[i] i σ'.st) ?_
    walk_at "mx"
    refine MW_appendAt (vs := ts.map (ref (σ.st.length + 1))) (by
      show (σ'.st ++ _)[σ.st.length]? = _
      rw [List.getElem?_append_left (by (first | lia | omega)), e, List.getElem?_append_left (by simp)]; exact List.getElem?_concat_length) (by (first | lia | omega)) (by rw [List.length_map]; (first | lia | omega)) ⟨c1, ?_⟩
    show (σ'.st ++ [Cel.lst (row (itmOf ns[i] i))]).set σ.st.length _ = _
    have hr : ref (σ.st.length + 1) (itmOf ns[i] i) = .obj σ'.st.length := by
      unfold ref; rw [hlen]; rfl
    rw [List.map_append, List.map_append, List.map_singleton, List.map_singleton, hr, e]
    simp [List.append_assoc, List.set_append_right]
theorem ahead_none {lor lc : Nat} {l : List Itm} {σ : S} {Q : V → S → Prop} (hor : σ.st[lor]? = some (.lst (l.map fun a => V.int a.k))) (hlc : σ.st[lc]? = some (.lst (([] : List Int).map V.int)))
    (l1 : σ.lo "clash" = some (.obj lc)) (h0 : 0 < σ.st.length) (hn : l.length ≤ 100)
    (q : ∀ k st', Pres [] σ.st st' → σ.st.length ≤ k → st'[k]? = some (.lst []) → Q (.obj k) ⟨st', σ.lo⟩) : MW (compTail ["clash", "items"] law_c15 (.obj lor)) σ Q := by
  refine MW_compTailC (ok_obj hor) ?_
  unfold law_c15
  refine MW_loopC l.length (fun i σ' => Pres [] σ.st σ'.st ∧ σ'.lo "clash" = some (.obj lc) ∧ σ'.st[σ.st.length]? = some (.lst [])) ?_ ?_ 4096 _ (by (first | lia | omega))
    ⟨Pres.app .., by simp only [restr]; rw [if_pos (by simp)]; exact l1, List.getElem?_concat_length⟩
  · rintro σ' ⟨p, _, g⟩
    have hag : Agree σ.st σ'.st := fun k hk => p.2 k hk (by simp)
    exact ⟨by rw [nxt_obj hor σ' _ hag]; simp, q _ _ p (Nat.le_refl _) g⟩
  · rintro i σ' hi ⟨p, c1, g⟩
    have hag : Agree σ.st σ'.st := fun k hk => p.2 k hk (by simp)
    refine ⟨.int l[i].k, by rw [nxt_obj hor σ' i hag, List.getElem?_map, List.getElem?_eq_getElem hi]; rfl, ?_⟩
    generalize l[i] = a
    unfold law_c15_t law_c15_i law_c15_e
    walk_at "mx"
    refine MW_newL' (by simp) fun l0 st1 p1 f1 g1 => ?_
    walk_at "mx"
    refine (MW_neL (as := []) (bs := []) (by exact p1.get0 (p.get0 hlc)) (by exact g1)).mpr ?_
    walk_at "mx"
    rw [if_neg (by decide)]
    walk_at "mx"
    rw [if_neg (by decide)]
    exact ⟨p.trans p1, c1, p1.get0 g⟩
theorem MW_addS {x y : Str} {σ : S} {Q : V → S → Prop} (h : x.length + y.length ≤ 1000000) : MW (addS (.str x) (.str y)) σ Q ↔ Q (.str (x ++ y)) σ := by
  refine MW_fun_ok ?_
  simp only [addS, if_pos h]
theorem words_eq : Str.ofString "'<' not supported between instances of '" ++ Str.ofString "int" ++ Str.ofString "' and '" ++ Str.ofString "str" ++ Str.ofString "'" = wordA ∧
    Str.ofString "'<' not supported between instances of '" ++ Str.ofString "str" ++ Str.ofString "' and '" ++ Str.ofString "int" ++ Str.ofString "'" = wordB := by decide +kernel
theorem law_true (ns : List Int) (hns : ns.length ≤ 63) : ∃ st', f_law [.obj 0] [.lst (ns.map .int)] = .ok (.bool true) st' := by
  suffices h : ∃ v st', f_law [.obj 0] [.lst (ns.map .int)] = .ok v st' ∧ v = .bool true by
    obtain ⟨v, st', e, rfl⟩ := h; exact ⟨st', e⟩
  unfold f_law
  refine funM_ex (params := ["script"]) (vs := [.obj 0]) (R := fun v _ => v = .bool true) (by rfl) ?_
  unfold law_m
  apply w_seq
  walk_at "mx"
  refine MW_newL' (by simp) fun l1 st1 p1 f1 g1 => ?_
  have p1 : Pres [] [Cel.lst (ns.map V.int)] st1 := p1
  walk_at "mx"
  refine MW_addL' (by exact p1.get0 (k := 0) rfl) (by exact g1) (by simp; (first | lia | omega)) fun ln st2 p2 f2 g2 => ?_
  have p2 : Pres [] st1 st2 := p2
  have e2 : ns.map V.int ++ [V.int 13, V.int 2, V.int 26] = (ns ++ [13, 2, 26]).map V.int := by simp
  rw [e2] at g2
  have hnl : 0 < (ns ++ [13, 2, 26]).length ∧ (ns ++ [13, 2, 26]).length ≤ 100 := by simp; (first | lia | omega)
  generalize ns ++ [13, 2, 26] = nm at g2 hnl
  walk_at "mx"
  unfold law_s21
  apply w_seq
  walk_at "mx"
  refine (MW_len (by exact g2)).mpr ?_
  rw [List.length_map]
  walk_at "mx"
  refine (MW_fun_ok (a := V.rng 0 nm.length 1) (σ' := _) rfl).mpr ?_
  walk_at "mx"
  refine items_comp (ns := nm) (by exact g2) rfl (by have := lt_of_get g2; dsimp only [S.put]; (first | lia | omega)) hnl.2 fun st3 li o p3 g3 hits => ?_
  have hI := its_placed nm
  rw [← its_len nm] at hnl
  generalize itsOf nm = its at g3 hits hI hnl
  obtain ⟨h0, hn⟩ := hnl
  have hst3 : 0 < st3.length := by have := lt_of_get g3; (first | lia | omega)
  walk_at "mx"
  unfold law_s20
  apply w_seq
  walk_at "mx"
  obtain ⟨v, st4, e4, p4, lor, rfl, f4, g4⟩ := order_ok hI g3 hits hst3 hn
  refine MW_callF' (by exact e4) ?_
  walk_at "mx"
  unfold law_s18
  apply w_seq
  walk_at "mx"
  obtain ⟨v, st5, e5, p5, lc, rfl, f5, g5⟩ := clash_ok hI (p4.get0 g3) (hits.pres p4) (Nat.lt_of_lt_of_le hst3 p4.1) hn
  refine MW_callF' (by exact e5) ?_
  walk_at "mx"
  have p45 := p4.trans p5
  have hst5 : 0 < st5.length := Nat.lt_of_lt_of_le hst3 p45.1
  have tail : ∀ (A : Nat) (st6 : Store) (σ : S), (∀ m ∈ clashL its, (∀ u ∈ clashL its, m ≤ u) → A = aheadN its m) → Pres [] st5 st6 → σ.st = st6 → σ.lo "items" = some (.obj li) → σ.lo "order" = some (.obj lor) → σ.lo "clash" = some (.obj lc) → σ.lo "ahead" = some (.int A) →
      MW law_s16 σ (fun f σ' => (match f with | .ret u => u | _ => .none) = V.bool true) := by
    rintro A st6 ⟨_, lo⟩ hA p6 rfl c1 c2 c3 c4
    dsimp only at c1 c2 c3 c4 p6
    unfold law_s16
    apply w_seq
    walk_at "mx"
    refine MW_newL' (by simp) fun lw st7 p7 f7 g7 => ?_
    walk_at "mx"
    have hli : li < st5.length := lt_of_get (p45.get0 g3)
    have hlor : lor < st5.length := lt_of_get (p5.get0 g4)
    have hlc : lc < st5.length := lt_of_get g5
    have hitl : ∀ k a, its[k]? = some a → o + k < st5.length := fun k a e => lt_of_get ((hits.pres p45) k a e).1
    have h56 := p6.1
    dsimp only at p7 f7
    have p57 : Pres [] st5 st7 := p6.trans p7
    unfold law_s14
    apply w_seq
    walk_at "mx"
    refine (MW_mkT (by simp)).mpr ?_
    walk_at "mx"
    refine (MW_mkT (by simp)).mpr ?_
    walk_at "mx"
    refine (MW_mkT (by simp)).mpr ?_
    walk_at "mx"
    refine (MW_fun_ok (a := ()) (σ' := _) rfl).mpr ?_
    refine MW_for 2 (fun i σ' => σ'.lo "items" = some (.obj li) ∧ σ'.lo "order" = some (.obj lor) ∧ σ'.lo "clash" = some (.obj lc) ∧ σ'.lo "ahead" = some (.int A) ∧ σ'.lo "words" = some (.obj lw) ∧ Pres [lw] st7 σ'.st ∧ σ'.st[lw]? = some (.lst ([V.str wordA, V.str wordB].take i))) ?_ ?_ 4096 0 _ (by (first | lia | omega)) (by (first | lia | omega))
      ⟨c1, c2, c3, c4, rfl, Pres.refl _ _, g7⟩
    · rintro σ' ⟨c1, c2, c3, c4, c5, q, g⟩
      refine ⟨rfl, ?_⟩
      have keep : ∀ {k : Nat} {c : Cel}, k < st5.length → st5[k]? = some c → σ'.st[k]? = some c := fun hk e => q.get (p57.get0 e) (by simp only [List.mem_singleton]; (first | lia | omega))
      have L : Lv its o li lor lc lw A σ' := ⟨c1, c2, c3, c4, c5, fun k a e => by obtain ⟨w1, w2, w3⟩ := (hits.pres p45) k a e; exact ⟨keep (hitl k a e) w1, w2, w3⟩, keep hli (p45.get0 g3), keep hlor (p5.get0 g4), keep hlc g5, g⟩
      unfold law_s13
      apply w_seq
      walk_at "mx"
      refine (MW_mkT (by simp)).mpr ?_
      walk_at "mx"
      refine (MW_fun_ok (a := ()) (σ' := _) rfl).mpr ?_
      refine MW_for 2 (fun i σ'' => Lv its o li lor lc lw A σ'') ?_ ?_ 4096 0 _ (by (first | lia | omega)) (by (first | lia | omega)) L
      · intro σ'' L2
        refine ⟨rfl, ?_⟩
        dsimp only
        unfold law_s11
        walk_at "mx"
        rfl
      · intro i σ'' hi L2
        have turn : ∀ b : Bool, MW (law_l10_t (.bool b)) σ'' (fun _ σ₁ => MW law_l10_b σ₁ (fun f σ₂ => match f with
            | .next => Lv its o li lor lc lw A σ₂ | .cont => Lv its o li lor lc lw A σ₂ | .brk => MW law_s11 σ₂ (fun f σ' => (match f with | .ret u => u | _ => .none) = V.bool true) | .ret v => v = V.bool true)) := by
          intro b
          unfold law_l10_t
          walk_at "mx"
          have L3 : Lv its o li lor lc lw A (S.put σ'' "pushed" (.bool b)) := L2.next (σ' := S.put σ'' "pushed" (.bool b)) (Pres.refl _ _) fun x hx => by
            simp only [List.mem_cons, List.not_mem_nil, or_false] at hx
            rcases hx with rfl | rfl | rfl | rfl | rfl <;> rfl
          refine (turn_ok (pushed := b) hI h0 hn L3 hA rfl).mono ?_
          rintro f σ₂ ⟨rfl | rfl, h⟩ <;> exact h
        rcases (show i = 0 ∨ i = 1 by (first | lia | omega)) with rfl | rfl
        · exact ⟨_, rfl, turn false⟩
        · exact ⟨_, rfl, turn true⟩
    · rintro i σ' hi ⟨c1, c2, c3, c4, c5, q, g⟩
      have step : ∀ (x y : String) (w : Str), Str.ofString "'<' not supported between instances of '" ++ Str.ofString x ++ Str.ofString "' and '" ++ Str.ofString y ++ Str.ofString "'" = w → (Str.ofString x).length ≤ 10 → (Str.ofString y).length ≤ 10 →
          [V.str wordA, V.str wordB].take (i + 1) = [V.str wordA, V.str wordB].take i ++ [.str w] →
          MW (law_l12_t (.tup [.str (Str.ofString x), .str (Str.ofString y)])) σ' (fun _ σ₁ => MW law_l12_b σ₁ (fun f σ₂ => f = .next ∧ σ₂.lo "items" = some (.obj li) ∧ σ₂.lo "order" = some (.obj lor) ∧ σ₂.lo "clash" = some (.obj lc) ∧ σ₂.lo "ahead" = some (.int A) ∧ σ₂.lo "words" = some (.obj lw) ∧ Pres [lw] st7 σ₂.st ∧ σ₂.st[lw]? = some (.lst ([V.str wordA, V.str wordB].take (i + 1))))) := by
        intro x y w hw hx hy ht
        have n1 : (Str.ofString "'<' not supported between instances of '").length ≤ 50 := by decide +kernel
        have n2 : (Str.ofString "' and '").length ≤ 10 := by decide +kernel
        have n3 : (Str.ofString "'").length ≤ 10 := by decide +kernel
        have sl : ∀ a b : Str, (a ++ b).length = a.length + b.length := fun a b => size_cat ..
        unfold law_l12_t law_l12_b
        refine MW_unpack2.mpr ?_
        refine MW_consT.mpr ?_
        walk_at "mx"
        refine MW_consT.mpr ?_
        walk_at "mx"
        refine (MW_chkL (by exact g)).mpr ?_
        walk_at "mx"
        refine (MW_addS (by (first | lia | omega))).mpr ?_
        walk_at "mx"
        refine (MW_addS (by rw [sl]; (first | lia | omega))).mpr ?_
        walk_at "mx"
        refine (MW_addS (by rw [sl, sl]; (first | lia | omega))).mpr ?_
        walk_at "mx"
        refine (MW_addS (by rw [sl, sl, sl]; (first | lia | omega))).mpr ?_
        rw [hw]
        walk_at "mx"
        refine (MW_append (by exact g) (by (first | lia | omega)) (by rw [List.length_take]; (first | lia | omega))).mpr ?_
        walk_at "mx"
        refine ⟨rfl, c1, c2, c3, c4, c5, q.trans (Pres.set (by simp)), ?_⟩
        rw [ht]
        exact set_self (lt_of_get g)
      rcases (show i = 0 ∨ i = 1 by (first | lia | omega)) with rfl | rfl
      · refine ⟨_, rfl, (step "int" "str" wordA words_eq.1 (by decide +kernel) (by decide +kernel) rfl).mono fun _ σ₁ h => h.mono ?_⟩
        rintro f σ₂ ⟨rfl, h⟩
        exact h
      · refine ⟨_, rfl, (step "str" "int" wordB words_eq.2 (by decide +kernel) (by decide +kernel) rfl).mono fun _ σ₁ h => h.mono ?_⟩
        rintro f σ₂ ⟨rfl, h⟩
        exact h
  unfold law_s17
  apply w_seq
  walk_at "mx"
  by_cases hc : clashL its = []
  · refine ahead_none (l := so its) (by exact p5.get0 g4) (by rw [hc] at g5; exact g5) rfl (by exact hst5) (by rw [so_len]; exact hn) fun la st6 p6 f6 g6 => ?_
    walk_at "mx"
    refine (MW_len (by exact g6)).mpr ?_
    walk_at "mx"
    exact tail 0 st6 _ (fun m' hm' => by rw [hc] at hm'; cases hm') p6 rfl rfl rfl rfl rfl
  · obtain ⟨m, hm, hmin⟩ := list_min hc
    refine ahead_comp (its := its) (l := so its) (m := m) hI (by exact hits.pres p45) (by exact p5.get0 g4) (by exact g5) (by exact p45.get0 g3) rfl rfl (fun a ha => so_mem ha) (by exact hst5) (by rw [so_len]; exact hn) hm hmin fun la st6 vs p6 f6 g6 hvs => ?_
    walk_at "mx"
    refine (MW_len (by exact g6)).mpr ?_
    walk_at "mx"
    refine tail vs.length st6 _ (fun m' hm' hmin' => ?_) p6 rfl rfl rfl rfl rfl
    have : m' = m := by have := hmin' m hm; have := hmin m' hm'; (first | lia | omega)
    rw [this]; exact hvs
end

/-! part J04 -/
open PySem PySem.W PyProof.Rows
set_option Elab.async false
set_option maxRecDepth 100000
set_option maxHeartbeats 8000000
section
noncomputable def vw : Program := view PySem.Challenge.pw_dm0136_04 [1, 2, 3, 4, 5, 7, 8, 9, 10, 11]
theorem left : LeftO PySem.Challenge.pw_dm0136_04 vw [] (fun s => xlAt vw [] s && recOk (PySem.Challenge.rw_dm0136_04.row.toRowW.records) s) (Hook.obs Hook.none) (Hook.val Hook.none) 3000 := fun w => by
  kernel_rfl
theorem recs_of {p q : Program} (e : recsOf p = recsOf q) : ∀ d ∈ recsOf p, d ∈ recsOf q := e ▸ fun _ h => h
end
end Mine
open PySem PySem.W PyProof.Rows
set_option Elab.async false
set_option maxRecDepth 100000
set_option maxHeartbeats 8000000

theorem PySem.Challenge.cw_dm0136_04_holds : PySem.Challenge.rw_dm0136_04.Holds := by
  refine holds_law (by kernel_rfl) fun said => ?_
  refine holds_open (q := Mine.vw) (loose := []) (Xt := fun s => xlAt Mine.vw [] s && recOk (RowW.records PySem.Challenge.rw_dm0136_04.row.toRowW) s) (XP := XL Mine.vw []) (Yf := Hook.obs Hook.none) (Ya := Hook.val Hook.none) (YP := Hook.says Hook.none) (N := 3000) Mine.left (Hook.of Hook.none) (Hook.keeps Hook.none) (fun s e => xl_of s (Bool.and_eq_true_iff.mp e).1) XL.keeps (by rfl) (by rfl) (by rfl) (fun s e => recFacts_of (Bool.and_eq_true_iff.mp e).2) (by rfl) (by first | assumption | decide +kernel) (by decide +kernel) ⟨rfl, rfl, rfl, rfl, rfl, by decide +kernel⟩ ?hw ?hc
  case hw => w_witness2
  intro w s₀ s₁ mg mb G Y fa o pm cd doc dV kV ho hd hcd hD hmg hg args vals as hpre hlay hrd hwl hlo
  refine Ground.open G ?_
  intro T B D TE TW
  wrow_args hpre hlay hrd hwl hlo
  rename_i ns _ _ _ _ _ _ _ l _ _ _ _ w1 _ _ _ hn _
  have hmg' : mg (Str.ofString "law") = some (.ref fa) := hmg
  clear hD hcd hd ho hmg B D TE TW G Y
  refine enter_call ?_
  refine codeAny_mono ?_ (fun _ _ g => GoodW.toG g)
  obtain ⟨vs, hL, hI⟩ := Mine.well_script w1
  have hn' : ns.length ≤ 63 := by omega
  obtain ⟨st', hlaw⟩ := Mine.law_true ns hn'
  refine Mine.top_law T hg (Mine.has_all (Mine.recs_of (by kernel_rfl)) ?_) (by decide) hmg' hL hI hn' hlaw ?_ ?_
  · intro x hx
    show mg (Str.ofString x) = none
    simp only [Mine.bltNames, List.mem_cons, List.not_mem_nil, or_false] at hx
    rcases hx with rfl | rfl | rfl | rfl | rfl | rfl | rfl | rfl | rfl | rfl <;> exact T.free _ (by decide +kernel) (by decide +kernel) (by decide +kernel) (by decide +kernel) (by decide +kernel)
  · exact raisesW_false (by wrow_none_raised)
  · wrow_post
