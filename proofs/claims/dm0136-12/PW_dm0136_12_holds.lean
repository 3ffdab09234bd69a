import PyProof.Rows.All
import Wide.All
import OpenK.AllK
import Wide.FinOn
import Lean
import PySem.Challenge.RW_dm0136_12
set_option maxHeartbeats 8000000
set_option backward.eqns.nonrecursive false
set_option autoImplicit false
set_option maxRecDepth 100000
set_option linter.unusedVariables false
set_option linter.unusedSimpArgs false
set_option Elab.async false
open PySem PySem.W PyProof.Rows
namespace Mine
section
noncomputable abbrev Po:=List Int
noncomputable def pV (c:List Nat):Po→Int
 | []=>0
 | k :: p=>k + go c p
where go:List Nat→Po→Int
 | x :: c,k :: p=>k * x + go c p
 | _,_=>0
noncomputable def pA:Po→Po→Po
 | [],q=>q
 | a :: p,q=>match q with
  | []=>a :: p
  | b :: q=>(a + b) :: pA p q
noncomputable def pM (k:Int):Po→Po:=List.map (k * ·)
noncomputable def pE (i:Nat):Po:=0 :: (List.replicate i 0 ++ [1])
theorem qac (c:List Nat):pV.go c []=0:=by cases c <;> rfl
theorem go_A:∀ (c:List Nat) (p q:Po),pV.go c (pA p q)=pV.go c p + pV.go c q
 | c,[],q=>by rw [qac]; simp [pA]
 | c,a :: p,[]=>by rw [qac]; simp [pA]
 | [],a :: p,b :: q=>rfl
 | x :: c,a :: p,b :: q=>by
  show (a + b) * x + pV.go c (pA p q)=(a * x + pV.go c p) + (b * x + pV.go c q);rw [go_A c p q,Int.add_mul]; lia
theorem pV_A (c:List Nat) (p q:Po):pV c (pA p q)=pV c p + pV c q:=by
 cases p with
 | nil=>simp [pA,pV]
 | cons a p=>
  cases q with
  | nil=>simp [pA,pV]
  | cons b q=>
   show (a + b) + pV.go c (pA p q)=_;rw [go_A]; show _=(a + pV.go c p) + (b + pV.go c q); lia
theorem go_M (k:Int):∀ (c:List Nat) (p:Po),pV.go c (pM k p)=k * pV.go c p
 | c,[]=>by show pV.go c []=_; rw [qac,Int.mul_zero]
 | [],a :: p=>(Int.mul_zero k).symm
 | x :: c,a :: p=>by
  show k * a * x + pV.go c (pM k p)=k * (a * x + pV.go c p);rw [go_M k c p,Int.mul_add,Int.mul_assoc]
theorem pV_M (k:Int) (c:List Nat) (p:Po):pV c (pM k p)=k * pV c p:=by
 cases p with
 | nil=>exact (Int.mul_zero k).symm
 | cons a p=>show k * a + pV.go c (pM k p)=k * (a + pV.go c p); rw [go_M,Int.mul_add]
theorem go_E:∀ (c:List Nat) (i:Nat),pV.go c (List.replicate i 0 ++ [1])=((c.getD i 0:Nat):Int)
 | [],i=>by cases i <;> rfl
 | x :: c,0=>by show 1 * (x:Int) + pV.go c []=_; rw [qac]; simp
 | x :: c,i + 1=>by
  show 0 * (x:Int) + pV.go c (List.replicate i 0 ++ [1])=_;rw [go_E c i,Int.zero_mul,Int.zero_add]; rfl
inductive LE' where
 | v (i:Nat) | k (n:Nat) | a (x y:LE') | s (x y:LE') | m (n:Nat) (x:LE') | r (x:LE') (n:Nat) | mn (x y:LE') | mx (x y:LE')
noncomputable def at':List Nat→Nat→Nat
 | [],_=>0
 | x :: c,i=>match i with
  | 0=>x
  | i + 1=>at' c i
noncomputable def LE'.d (c:List Nat):LE'→Nat
 | .v i=>at' c i
 | .k n=>n
 | .a x y=>x.d c + y.d c
 | .s x y=>x.d c - y.d c
 | .m n x=>n * x.d c
 | .r x n=>x.d c * n
 | .mn x y=>min (x.d c) (y.d c)
 | .mx x y=>max (x.d c) (y.d c)
inductive LP where
 | le (x y:LE') | lt (x y:LE') | eq (x y:LE') | an (p q:LP) | or (p q:LP) | no (p:LP) | f
noncomputable def LP.d (c:List Nat):LP→Prop
 | .le x y=>x.d c≤y.d c
 | .lt x y=>x.d c < y.d c
 | .eq x y=>x.d c=y.d c
 | .an p q=>p.d c∧q.d c
 | .or p q=>p.d c∨q.d c
 | .no p => ¬ p.d c
 | .f=>False
noncomputable def LP.i (c:List Nat):List LP→LP→Prop
 | [],g=>g.d c
 | h :: hs,g=>h.d c→LP.i c hs g
noncomputable abbrev Al:=List (List Po×Po)
noncomputable def two (f:Po→Po→Al):Al→Al→Al:=fun A B=>A.flatMap fun x=>B.flatMap fun y=>(f x.2 y.2).map fun z=>(x.1 ++ (y.1 ++ z.1),z.2)
noncomputable def pS (p q:Po):Po:=pA p (pM (-1) q)
noncomputable def LE'.t:LE'→Al
 | .v i=>[([],pE i)]
 | .k n=>[([],[(n:Int)])]
 | .a x y=>two (fun p q=>[([],pA p q)]) x.t y.t
 | .s x y=>two (fun p q=>[([pS p q],pS p q),([pA (pS q p) [-1]],[])]) x.t y.t
 | .m n x=>x.t.map fun z=>(z.1,pM n z.2)
 | .r x n=>x.t.map fun z=>(z.1,pM n z.2)
 | .mn x y=>two (fun p q=>[([pS q p],p),([pS p q],q)]) x.t y.t
 | .mx x y=>two (fun p q=>[([pS q p],q),([pS p q],p)]) x.t y.t
noncomputable def Ok (c:List Nat) (l:List Po):Prop:= ∀ p∈l,0≤pV c p
noncomputable def Is (c:List Nat) (A:Al) (n:Nat):Prop:= ∃ z∈A,Ok c z.1∧pV c z.2=n
theorem Ok.app {c:List Nat} {l m:List Po} (x:Ok c l) (y:Ok c m):Ok c (l ++ m):=fun p h=>(List.mem_append.mp h).elim (x p) (y p)
theorem za2 {c:List Nat} {f:Po→Po→Al} {A B:Al} {x y z:Nat} (a:Is c A x) (b:Is c B y) (h:∀ p q,pV c p=x→pV c q=y→Is c (f p q) z):Is c (two f A B) z:=by
 obtain ⟨u,hu,ou,eu⟩:=a;obtain ⟨w,hw,ow,ew⟩:=b;obtain ⟨t,ht,ot,et⟩:=h _ _ eu ew;exact ⟨(u.1 ++ (w.1 ++ t.1),t.2),List.mem_flatMap.mpr ⟨u,hu,List.mem_flatMap.mpr ⟨w,hw,List.mem_map.mpr ⟨t,ht,rfl⟩⟩⟩,ou.app (ow.app ot),et⟩
theorem Is.one {c:List Nat} {p:Po} {n:Nat} (e:pV c p=n):Is c [([],p)] n:=⟨_,List.mem_cons_self,(fun zZ h=>by cases h),e⟩
theorem Is.alt {c:List Nat} {p q:Po} {n:Nat} {A:Al} (h:0≤pV c p) (e:pV c q=n):Is c (([p],q) :: A) n:=⟨_,List.mem_cons_self,fun r hr=>by rw [List.mem_singleton.mp hr]; exact h,e⟩
theorem Is.next {c:List Nat} {z:List Po×Po} {n:Nat} {A:Al} (h:Is c A n):Is c (z :: A) n:=h.elim fun w hw=>⟨w,List.mem_cons_of_mem _ hw.1,hw.2⟩
theorem pV_S (c:List Nat) (p q:Po):pV c (pS p q)=pV c p - pV c q:=by unfold pS; rw [pV_A,pV_M]; lia
theorem gcu:∀ (c:List Nat) (i:Nat),at' c i=c.getD i 0
 | [],_=>rfl
 | _ :: _,0=>rfl
 | _ :: c,i + 1=>gcu c i
theorem LE'.ok (c:List Nat):∀ e:LE',Is c e.t (e.d c)
 | .v i=>Is.one (by show 0 + pV.go c _=_; rw [go_E,Int.zero_add,← gcu]; rfl)
 | .k n=>Is.one (by show (n:Int) + pV.go c []=_; rw [qac,Int.add_zero]; rfl)
 | .a x y=>za2 (x.ok c) (y.ok c) fun p q hp hq=>Is.one (by rw [pV_A,hp,hq]; rfl)
 | .s x y=>za2 (x.ok c) (y.ok c) fun p q hp hq=>by
  show Is c _ (x.d c - y.d c)
  by_cases h:y.d c≤x.d c
  ·exact Is.alt (by rw [pV_S,hp,hq]; lia) (by rw [pV_S,hp,hq]; lia)
  ·exact .next (Is.alt (by rw [pV_A,pV_S,hp,hq]; show 0≤_ + (-1 + pV.go c []); rw [qac]; lia) (by show (0:Int)=_; lia))
 | .m n x=>by
  obtain ⟨z,hz,o,e⟩:=x.ok c
  exact ⟨_,List.mem_map.mpr ⟨z,hz,rfl⟩,o,by rw [pV_M,e]; exact (Int.natCast_mul ..).symm⟩
 | .r x n=>by
  obtain ⟨z,hz,o,e⟩:=x.ok c
  exact ⟨_,List.mem_map.mpr ⟨z,hz,rfl⟩,o,by rw [pV_M,e,Int.mul_comm]; exact (Int.natCast_mul ..).symm⟩
 | .mn x y=>za2 (x.ok c) (y.ok c) fun p q hp hq=>by
  show Is c _ (min (x.d c) (y.d c))
  by_cases h:x.d c≤y.d c
  ·exact Is.alt (by rw [pV_S,hp,hq]; lia) (by rw [hp]; lia)
  ·exact .next (Is.alt (by rw [pV_S,hp,hq]; lia) (by rw [hq]; lia))
 | .mx x y=>za2 (x.ok c) (y.ok c) fun p q hp hq=>by
  show Is c _ (max (x.d c) (y.d c))
  by_cases h:x.d c≤y.d c
  ·exact Is.alt (by rw [pV_S,hp,hq]; lia) (by rw [hq]; lia)
  ·exact .next (Is.alt (by rw [pV_S,hp,hq]; lia) (by rw [hp]; lia))
noncomputable abbrev LDn:=List (List Po)
noncomputable def dA (A B:LDn):LDn:=A.flatMap fun x=>B.map fun y=>x ++ y
noncomputable def Di (c:List Nat) (A:LDn):Prop:= ∃ l∈A,Ok c l
noncomputable def rel2 (f:Po→Po→LDn) (A B:Al):LDn:=A.flatMap fun x=>B.flatMap fun y=>(f x.2 y.2).map fun z=>x.1 ++ (y.1 ++ z)
noncomputable def p1:Po:=[-1]
noncomputable def LP.t:Bool→LP→LDn
 | true,.le x y=>rel2 (fun p q=>[[pS q p]]) x.t y.t
 | false,.le x y=>rel2 (fun p q=>[[pA (pS p q) p1]]) x.t y.t
 | true,.lt x y=>rel2 (fun p q=>[[pA (pS q p) p1]]) x.t y.t
 | false,.lt x y=>rel2 (fun p q=>[[pS p q]]) x.t y.t
 | true,.eq x y=>rel2 (fun p q=>[[pS p q,pS q p]]) x.t y.t
 | false,.eq x y=>rel2 (fun p q=>[[pA (pS p q) p1],[pA (pS q p) p1]]) x.t y.t
 | true,.an p q=>dA (p.t true) (q.t true)
 | false,.an p q=>p.t false ++ q.t false
 | true,.or p q=>p.t true ++ q.t true
 | false,.or p q=>dA (p.t false) (q.t false)
 | b,.no p=>p.t (!b)
 | true,.f=>[]
 | false,.f=>[[]]
theorem dA_i {c:List Nat} {A B:LDn} (a:Di c A) (b:Di c B):Di c (dA A B):=by
 obtain ⟨x,hx,ox⟩:=a;obtain ⟨y,hy,oy⟩:=b;exact ⟨x ++ y,List.mem_flatMap.mpr ⟨x,hx,List.mem_map.mpr ⟨y,hy,rfl⟩⟩,ox.app oy⟩
theorem Di.l {c:List Nat} {A B:LDn} (a:Di c A):Di c (A ++ B):=a.elim fun l h=>⟨l,List.mem_append_left _ h.1,h.2⟩
theorem Di.r {c:List Nat} {A B:LDn} (b:Di c B):Di c (A ++ B):=b.elim fun l h=>⟨l,List.mem_append_right _ h.1,h.2⟩
theorem yan {c:List Nat} {f:Po→Po→LDn} {A B:Al} {x y:Nat} (a:Is c A x) (b:Is c B y) (h:∀ p q,pV c p=x→pV c q=y→Di c (f p q)):Di c (rel2 f A B):=by
 obtain ⟨u,hu,ou,eu⟩:=a;obtain ⟨w,hw,ow,ew⟩:=b;obtain ⟨t,ht,ot⟩:=h _ _ eu ew;exact ⟨u.1 ++ (w.1 ++ t),List.mem_flatMap.mpr ⟨u,hu,List.mem_flatMap.mpr ⟨w,hw,List.mem_map.mpr ⟨t,ht,rfl⟩⟩⟩,ou.app (ow.app ot)⟩
theorem Di.one {c:List Nat} {p:Po} {A:LDn} (h:0≤pV c p):Di c ([p] :: A):=⟨_,List.mem_cons_self,fun r hr=>by rw [List.mem_singleton.mp hr]; exact h⟩
theorem pV_1 (c:List Nat) (p:Po):pV c (pA p p1)=pV c p - 1:=by rw [pV_A]; show _ + (-1 + pV.go c [])=_; rw [qac]; lia
theorem LP.ok (c:List Nat):∀ p:LP,(p.d c→Di c (p.t true))∧(¬ p.d c→Di c (p.t false))
 | .le x y=>⟨fun h=>yan (x.ok c) (y.ok c) fun p q hp hq=>Di.one (by rw [pV_S,hp,hq]; exact Int.sub_nonneg_of_le (Int.ofNat_le.mpr h)),
   fun h=>yan (x.ok c) (y.ok c) fun p q hp hq=>Di.one (by rw [pV_1,pV_S,hp,hq]; have:¬ x.d c≤y.d c:=h; lia)⟩
 | .lt x y=>⟨fun h=>yan (x.ok c) (y.ok c) fun p q hp hq=>Di.one (by rw [pV_1,pV_S,hp,hq]; have:x.d c < y.d c:=h; lia),
   fun h=>yan (x.ok c) (y.ok c) fun p q hp hq=>Di.one (by rw [pV_S,hp,hq]; have:¬ x.d c < y.d c:=h; lia)⟩
 | .eq x y=>⟨fun h=>yan (x.ok c) (y.ok c) fun p q hp hq=>⟨_,List.mem_cons_self,fun r hr=>by
    have:x.d c=y.d c:=h;simp only [List.mem_cons,List.not_mem_nil,or_false] at hr
    rcases hr with rfl | rfl <;> (rw [pV_S,hp,hq]; lia)⟩,
   fun h=>yan (x.ok c) (y.ok c) fun p q hp hq=>by
    have h:¬ x.d c=y.d c:=h
    by_cases h2:x.d c < y.d c
    ·exact Di.r (A:=[_]) (Di.one (by rw [pV_1,pV_S,hp,hq]; lia))
    ·exact Di.one (by rw [pV_1,pV_S,hp,hq]; lia)⟩
 | .an p q=>⟨fun h=>dA_i ((p.ok c).1 h.1) ((q.ok c).1 h.2),fun h=>by
   by_cases hp:p.d c
   ·exact Di.r ((q.ok c).2 fun hq=>h ⟨hp,hq⟩)
   ·exact Di.l ((p.ok c).2 hp)⟩
 | .or p q=>⟨fun h=>h.elim (fun h=>Di.l ((p.ok c).1 h)) fun h=>Di.r ((q.ok c).1 h),fun h=>dA_i ((p.ok c).2 fun q=>h (.inl q)) ((q.ok c).2 fun q=>h (.inr q))⟩
 | .no p=>⟨fun h=>(p.ok c).2 h,fun h=>(p.ok c).1 (Classical.byContradiction h)⟩
 | .f=>⟨fun h=>h.elim,fun zZ=>⟨[],List.mem_cons_self,fun zZ h=>by cases h⟩⟩
noncomputable def co (i:Nat) (p:Po):Int:=p.getD (i + 1) 0
noncomputable def ybr:Int→Bool
 | .ofNat _=>false
 | .negSucc _=>true
noncomputable def zcv:Int→Bool
 | .ofNat 0=>false
 | .ofNat (_ + 1)=>true
 | .negSucc _=>false
noncomputable def elim (i:Nat) (l:List Po):List Po :=
 let P:=l.filter fun p=>zcv (co i p)
 let N:=l.filter fun p=>ybr (co i p)
 (l.filter fun p => !(zcv (co i p)) && !(ybr (co i p))) ++ P.flatMap fun p=>N.map fun q=>pA (pM (-(co i q)) p) (pM (co i p) q)
noncomputable def bad:Po→Bool
 | []=>false
 | k :: p=>ybr k && p.all fun x=>x == 0
noncomputable def fm:Nat→List Po→Bool
 | 0,l=>l.any bad
 | i + 1,l=>l.any bad || fm i (elim i l)
theorem yc5 {c:List Nat} {i:Nat} {l:List Po} (h:Ok c l):Ok c (elim i l):=by
 intro p hp
 rcases List.mem_append.mp hp with hp | hp
 ·exact h p (List.mem_filter.mp hp).1
 ·obtain ⟨u,hu,hp⟩:=List.mem_flatMap.mp hp;obtain ⟨w,hw,rfl⟩:=List.mem_map.mp hp;obtain ⟨u1,u2⟩:=List.mem_filter.mp hu;obtain ⟨w1,w2⟩:=List.mem_filter.mp hw
  have a:0≤co i u:=by
   cases e:co i u with
   | ofNat n=>exact Int.natCast_nonneg n
   | negSucc n=>rw [e] at u2; cases u2
  have b:0≤-(co i w):=by
   cases e:co i w with
   | ofNat n=>rw [e] at w2; cases w2
   | negSucc n=>exact Int.natCast_nonneg (n + 1)
  rw [pV_A,pV_M,pV_M];exact Int.add_nonneg (Int.mul_nonneg b (h u u1)) (Int.mul_nonneg a (h w w1))
theorem gc8 {c:List Nat} {p:Po} (h:bad p=true):¬ 0≤pV c p:=by
 cases p with
 | nil=>cases h
 | cons k p=>
  have h:=Bool.and_eq_true_iff.mp (show (ybr k && p.all fun x=>x == 0)=true from h)
  have z:∀ (c:List Nat) (q:Po),(q.all fun x=>x == 0)=true→pV.go c q=0:=by
   intro c q
   induction q generalizing c with
   | nil=>intro _; exact qac c
   | cons a q ih=>
    intro hq
    cases c with
    | nil=>rfl
    | cons x c=>
     have hq:=Bool.and_eq_true_iff.mp (show ((a == 0) && q.all fun x=>x == 0)=true from hq)
     have:a=0:=by simpa using hq.1
     subst this;show 0 * (x:Int) + pV.go c q=0;rw [ih c hq.2,Int.zero_mul]; rfl
  show ¬ 0≤k + pV.go c p;rw [z c p h.2,Int.add_zero]
  cases k with
  | ofNat n=>cases h.1
  | negSucc n=>exact Int.not_le.mpr (Int.negSucc_lt_zero n)
theorem ydd {c:List Nat}:∀ (n:Nat) (l:List Po),fm n l=true→¬ Ok c l:=by
 have any {l:List Po} (h:l.any bad=true):¬ Ok c l:=fun o=>by
  obtain ⟨p,hp,hb⟩:=List.any_eq_true.mp h;exact gc8 hb (o p hp)
 intro n
 induction n with
 | zero=>exact fun l h=>any h
 | succ n ih=>
  intro l h o
  rcases Bool.or_eq_true_iff.mp (show (l.any bad || fm n (elim n l))=true from h) with h | h
  ·exact any h o
  ·exact ih _ h (yc5 o)
noncomputable def nn:Nat→List Po
 | 0=>[]
 | n + 1=>pE n :: nn n
theorem ycv (c:List Nat):∀ n,Ok c (nn n)
 | 0=>fun zZ h=>by cases h
 | n + 1=>fun p h=>by
  rcases List.mem_cons.mp h with rfl | h
  ·show 0≤0 + pV.go c _;rw [go_E,Int.zero_add]; exact Int.natCast_nonneg _
  ·exact ycv c n p h
noncomputable def lnc (n:Nat) (g:LP):List LP→LDn→Bool
 | [],D=>(dA D (g.t false)).all fun l=>fm n (nn n ++ l)
 | h :: hs,D=>lnc n g hs (dA D (h.t true))
theorem zch (n:Nat) (g:LP) (c:List Nat):∀ (hs:List LP) (D:LDn),lnc n g hs D=true→Di c D→LP.i c hs g
 | [],D,h,d=>Classical.byContradiction fun q=>by
  obtain ⟨l,hl,o⟩:=dA_i d ((g.ok c).2 q);exact ydd n _ (List.all_eq_true.mp h l hl) ((ycv c n).app o)
 | p :: hs,D,h,d=>fun hp=>zch n g c hs _ h (dA_i d ((p.ok c).1 hp))
theorem lin (n:Nat) (hs:List LP) (g:LP) (h:lnc n g hs [[]]=true) (c:List Nat):LP.i c hs g:=zch n g c hs _ h ⟨[],List.mem_cons_self,fun zZ h=>by cases h⟩
theorem dv1 (n x:Nat):n * (x / n)≤x:=Nat.mul_div_le x n
theorem dv2 (n x:Nat) (h:n.beq 0=false):x < n * (x / n) + n:=Nat.lt_mul_div_succ x (Nat.pos_of_ne_zero fun e=>by rw [e] at h; cases h)
noncomputable abbrev v0:LE':= .v 0
noncomputable abbrev v1:LE':= .v 1
noncomputable abbrev v2:LE':= .v 2
noncomputable abbrev v3:LE':= .v 3
noncomputable abbrev v4:LE':= .v 4
noncomputable abbrev v5:LE':= .v 5
noncomputable abbrev k0:LE':= .k 0
noncomputable abbrev k1:LE':= .k 1
noncomputable abbrev k2:LE':= .k 2
noncomputable abbrev k3:LE':= .k 3
end/-! part ari -/
section
theorem nL1 {x y:Nat}:x < y + 1→¬x < y→x=y:=lin 2 [.lt v0 (.a v1 k1),.no (.lt v0 v1)] (.eq v0 v1) rfl [x,y]
theorem jdd {x y:Nat}:¬(x - (y + 1)≤x∧x < x):=lin 2 [] (.no (.an (.le (.s v0 (.a v1 k1)) v0) (.lt v0 v0))) rfl [x,y]
theorem wdd {x y z:Nat}:x - (y + 1)≤z∧z < x→x - (y + 1) + x - 1 - z < x:=lin 3 [.an (.le (.s v0 (.a v1 k1)) v2) (.lt v2 v0)] (.lt (.s (.s (.a (.s v0 (.a v1 k1)) v0) k1) v2) v0) rfl [x,y,z]
theorem jbr {x y z:Nat}:x + (y + 1)=z→x + 1 + y=z:=lin 3 [.eq (.a v0 (.a v1 k1)) v2] (.eq (.a (.a v0 k1) v1) v2) rfl [x,y,z]
theorem jcv {x:Nat}:¬x > 0→x=0:=lin 1 [.no (.lt k0 v0)] (.eq v0 k0) rfl [x]
theorem qdd {x y z:Nat}:x + (z + 1)=y→x + 1≤y:=lin 3 [.eq (.a v0 (.a v2 k1)) v1] (.le (.a v0 k1) v1) rfl [x,y,z]
theorem kdd {x y:Nat}:x + 1≤y→x + 1 + 1≤y + 1:=lin 2 [.le (.a v0 k1) v1] (.le (.a (.a v0 k1) k1) (.a v1 k1)) rfl [x,y]
theorem zcb {x y z:Nat}:x < y + 1 - (z + 1 + 1)→x < y - (z + 1):=lin 3 [.lt v0 (.s (.a v1 k1) (.a (.a v2 k1) k1))] (.lt v0 (.s v1 (.a v2 k1))) rfl [x,y,z]
theorem ycb {x y z:Nat}:x + 1 - (y + 1 + 1)≤z→x - (y + 1)≤z:=lin 3 [.le (.s (.a v0 k1) (.a (.a v1 k1) k1)) v2] (.le (.s v0 (.a v1 k1)) v2) rfl [x,y,z]
theorem xdd {x y z w u:Nat}:z + (w + 1)=y→x < z + 1 - (u + 1 + 1)→x < y:=lin 5 [.eq (.a v2 (.a v3 k1)) v1,.lt v0 (.s (.a v2 k1) (.a (.a v4 k1) k1))] (.lt v0 v1) rfl [x,y,z,w,u]
theorem gdd {x y z:Nat}:y < x + 1 - (z + 1 + 1)→x - 1 < x:=lin 3 [.lt v1 (.s (.a v0 k1) (.a (.a v2 k1) k1))] (.lt (.s v0 k1) v0) rfl [x,y,z]
theorem nL11 {x:Int}:¬0≤x→x < 0:=by lia
theorem zde {x y:Nat}:y + 1≤x→x - 1 < x:=lin 2 [.le (.a v1 k1) v0] (.lt (.s v0 k1) v0) rfl [x,y]
theorem zar {x:Nat}:0≤x:=lin 1 [] (.le k0 v0) rfl [x]
theorem wcv {x y z:Nat}:y < x→z < y→0 + x - 1 - y < 0 + x - 1 - z:=lin 3 [.lt v1 v0,.lt v2 v1] (.lt (.s (.s (.a k0 v0) k1) v1) (.s (.s (.a k0 v0) k1) v2)) rfl [x,y,z]
theorem qcv {x y z:Nat}:z < x→0 + x - 1 - y < x:=lin 3 [.lt v2 v0] (.lt (.s (.s (.a k0 v0) k1) v1) v0) rfl [x,y,z]
theorem yde {x y:Nat}:x≤y→x + (y - x)≤y:=lin 2 [.le v0 v1] (.le (.a v0 (.s v1 v0)) v1) rfl [x,y]
theorem jde {x y:Nat}:1≤y→y≤x→1≤x:=lin 2 [.le k1 v1,.le v1 v0] (.le k1 v0) rfl [x,y]
theorem wde {x y z:Nat}:x≤z + (y - z)→z≤y→x≤y:=lin 3 [.le v0 (.a v2 (.s v1 v2)),.le v2 v1] (.le v0 v1) rfl [x,y,z]
theorem qde {x y:Nat}:x < y→x + 1 + (y - (x + 1))=y:=lin 2 [.lt v0 v1] (.eq (.a (.a v0 k1) (.s v1 (.a v0 k1))) v1) rfl [x,y]
theorem kcv {x y:Nat}:y + 1≤x→1≤x:=lin 2 [.le (.a v1 k1) v0] (.le k1 v0) rfl [x,y]
theorem kde {x:Nat}:1≤x→1 + (x - 1)≤x:=lin 1 [.le k1 v0] (.le (.a k1 (.s v0 k1)) v0) rfl [x]
theorem xcv {x y:Nat}:x < 1→y < x→False:=lin 2 [.lt v0 k1,.lt v1 v0] .f rfl [x,y]
theorem xde {x y:Nat}:1≤y→x≤1 + (y - 1)→¬x=y→x < y:=lin 2 [.le k1 v1,.le v0 (.a k1 (.s v1 k1)),.no (.eq v0 v1)] (.lt v0 v1) rfl [x,y]
theorem gcv {x y:Nat}:x < y→x < 1 + (y - 1):=lin 2 [.lt v0 v1] (.lt v0 (.a k1 (.s v1 k1))) rfl [x,y]
theorem wbb {x y:Nat}:x < y→x≤y:=lin 2 [.lt v0 v1] (.le v0 v1) rfl [x,y]
theorem zak {x y:Nat}:y < x→0 < x:=lin 2 [.lt v1 v0] (.lt k0 v0) rfl [x,y]
theorem zcw {x:Nat}:¬x=0→0 < x:=lin 1 [.no (.eq v0 k0)] (.lt k0 v0) rfl [x]
theorem jcb {x y:Nat}:x < y→x - 1 < y:=lin 2 [.lt v0 v1] (.lt (.s v0 k1) v1) rfl [x,y]
theorem gde {x:Nat}:x > 1→1≤x:=lin 1 [.lt k1 v0] (.le k1 v0) rfl [x]
theorem zdf {x:Nat}:¬(0≤x∧x < x):=lin 1 [] (.no (.an (.le k0 v0) (.lt v0 v0))) rfl [x]
theorem ydf {x y z:Nat}:x=z→z < y→x < y:=lin 3 [.eq v0 v2,.lt v2 v1] (.lt v0 v1) rfl [x,y,z]
theorem jdf {x y z:Nat}:x < z→0 + x - 1 - y < z:=lin 3 [.lt v0 v2] (.lt (.s (.s (.a k0 v0) k1) v1) v2) rfl [x,y,z]
theorem wdf {x y:Nat}:y < x→0 + x - 1 - y < x:=lin 2 [.lt v1 v0] (.lt (.s (.s (.a k0 v0) k1) v1) v0) rfl [x,y]
theorem qdf {x:Nat}:1≤x→¬x > 1→x=1:=lin 1 [.le k1 v0,.no (.lt k1 v0)] (.eq v0 k1) rfl [x]
theorem kdf {x:Nat}:x < 1→x=0:=lin 1 [.lt v0 k1] (.eq v0 k0) rfl [x]
theorem xdf {x y:Nat}:y - x≤0→x≤y→x=y:=lin 2 [.le (.s v1 v0) k0,.le v0 v1] (.eq v0 v1) rfl [x,y]
theorem gdf {x y:Nat}:x≤y→x ≥ y→x=y:=lin 2 [.le v0 v1,.le v1 v0] (.eq v0 v1) rfl [x,y]
theorem zdg {x y:Nat}:¬x ≥ y→x≤(x + y) / 2:=lin 3 [.le (.m 2 v2) (.a v0 v1),.lt (.a v0 v1) (.a (.m 2 v2) k2),.no (.le v1 v0)] (.le v0 v2) rfl [x,y,(x + y) / 2] (dv1 2 (x + y)) (dv2 2 (x + y) rfl)
theorem ydg {x y z:Nat}:y≤z→¬x ≥ y→(x + y) / 2≤z:=lin 4 [.le (.m 2 v3) (.a v0 v1),.lt (.a v0 v1) (.a (.m 2 v3) k2),.le v1 v2,.no (.le v1 v0)] (.le v3 v2) rfl [x,y,z,(x + y) / 2] (dv1 2 (x + y)) (dv2 2 (x + y) rfl)
theorem jdg {x y z:Nat}:y - x≤z + 1→(x + y) / 2 - x≤z:=lin 4 [.le (.m 2 v3) (.a v0 v1),.lt (.a v0 v1) (.a (.m 2 v3) k2),.le (.s v1 v0) (.a v2 k1)] (.le (.s v3 v0) v2) rfl [x,y,z,(x + y) / 2] (dv1 2 (x + y)) (dv2 2 (x + y) rfl)
theorem ycw {x y z w u:Nat}:(x + y) / 2≤w→w < u→u < z→(x + y) / 2 < z:=lin 6 [.le (.m 2 v5) (.a v0 v1),.lt (.a v0 v1) (.a (.m 2 v5) k2),.le v5 v3,.lt v3 v4,.lt v4 v2] (.lt v5 v2) rfl [x,y,z,w,u,(x + y) / 2] (dv1 2 (x + y)) (dv2 2 (x + y) rfl)
theorem wdg {x y z:Nat}:(x + y) / 2≤z→¬z=(x + y) / 2→(x + y) / 2 < z:=lin 4 [.le (.m 2 v3) (.a v0 v1),.lt (.a v0 v1) (.a (.m 2 v3) k2),.le v3 v2,.no (.eq v2 v3)] (.lt v3 v2) rfl [x,y,z,(x + y) / 2] (dv1 2 (x + y)) (dv2 2 (x + y) rfl)
theorem qdg {x y:Nat}:¬x ≥ y→(x + y) / 2 + 1≤y:=lin 3 [.le (.m 2 v2) (.a v0 v1),.lt (.a v0 v1) (.a (.m 2 v2) k2),.no (.le v1 v0)] (.le (.a v2 k1) v1) rfl [x,y,(x + y) / 2] (dv1 2 (x + y)) (dv2 2 (x + y) rfl)
theorem kdg {x y z:Nat}:x - y≤z + 1→x - ((y + x) / 2 + 1)≤z:=lin 4 [.le (.m 2 v3) (.a v1 v0),.lt (.a v1 v0) (.a (.m 2 v3) k2),.le (.s v0 v1) (.a v2 k1)] (.le (.s v0 (.a v3 k1)) v2) rfl [x,y,z,(y + x) / 2] (dv1 2 (y + x)) (dv2 2 (y + x) rfl)
theorem jcw {x y z w u:Nat}:x < (z + w) / 2 + 1→w≤u→u < y→¬z ≥ w→x < y:=lin 6 [.le (.m 2 v5) (.a v2 v3),.lt (.a v2 v3) (.a (.m 2 v5) k2),.lt v0 (.a v5 k1),.le v3 v4,.lt v4 v1,.no (.le v3 v2)] (.lt v0 v1) rfl [x,y,z,w,u,(z + w) / 2] (dv1 2 (z + w)) (dv2 2 (z + w) rfl)
theorem wcw {x y z w:Nat}:y≤w→w < z→¬x ≥ y→(x + y) / 2 < z:=lin 5 [.le (.m 2 v4) (.a v0 v1),.lt (.a v0 v1) (.a (.m 2 v4) k2),.le v1 v3,.lt v3 v2,.no (.le v1 v0)] (.lt v4 v2) rfl [x,y,z,w,(x + y) / 2] (dv1 2 (x + y)) (dv2 2 (x + y) rfl)
theorem xdg {x y z:Nat}:x < (y + z) / 2 + 1→¬x=(y + z) / 2→x < (y + z) / 2:=lin 4 [.le (.m 2 v3) (.a v1 v2),.lt (.a v1 v2) (.a (.m 2 v3) k2),.lt v0 (.a v3 k1),.no (.eq v0 v3)] (.lt v0 v3) rfl [x,y,z,(y + z) / 2] (dv1 2 (y + z)) (dv2 2 (y + z) rfl)
theorem gdg {x y z:Nat}:y≤z→¬x ≥ y→(x + y) / 2 < z:=lin 4 [.le (.m 2 v3) (.a v0 v1),.lt (.a v0 v1) (.a (.m 2 v3) k2),.le v1 v2,.no (.le v1 v0)] (.lt v3 v2) rfl [x,y,z,(x + y) / 2] (dv1 2 (x + y)) (dv2 2 (x + y) rfl)
theorem zdh {x y:Nat}:x + 0=y→x=y:=lin 2 [.eq (.a v0 k0) v1] (.eq v0 v1) rfl [x,y]
theorem ydh {x:Nat}:x - 0≤x:=lin 1 [] (.le (.s v0 k0) v0) rfl [x]
theorem nL15 {x:Int} : -1000000≤x∧x < 1000000→x < 2 ^ 63:=by omega
theorem qcw {x:Nat}:x < 0→False:=lin 1 [.lt v0 k0] .f rfl [x]
theorem kcw {x y:Nat}:x < y→y≤x→False:=lin 2 [.lt v0 v1,.le v1 v0] .f rfl [x,y]
theorem jdh {x y:Nat}:x - y≤x:=lin 2 [] (.le (.s v0 v1) v0) rfl [x,y]
theorem wdh {x y:Nat}:y≤x→x - (x - y)=y:=lin 2 [.le v1 v0] (.eq (.s v0 (.s v0 v1)) v1) rfl [x,y]
theorem qdh {x y z:Nat}:z + 1≤x→y≤z→¬x=y:=lin 3 [.le (.a v2 k1) v0,.le v1 v2] (.no (.eq v0 v1)) rfl [x,y,z]
theorem kdh {x y z:Nat}:z + 1≤y→¬(x < y∧y≤z):=lin 3 [.le (.a v2 k1) v1] (.no (.an (.lt v0 v1) (.le v1 v2))) rfl [x,y,z]
theorem xdh {x y:Nat}:x=y→x < y + 1:=lin 2 [.eq v0 v1] (.lt v0 (.a v1 k1)) rfl [x,y]
theorem gdh {x y z:Nat}:z < x∧x≤y→x - 1 < y:=lin 3 [.an (.lt v2 v0) (.le v0 v1)] (.lt (.s v0 k1) v1) rfl [x,y,z]
theorem wcb {x y:Nat}:x < y→x < y + 1:=lin 2 [.lt v0 v1] (.lt v0 (.a v1 k1)) rfl [x,y]
theorem xcw {x y z:Nat}:x < y + 1→z≤y→¬(z < x∧x≤y)→¬x=z→x < y:=lin 3 [.lt v0 (.a v1 k1),.le v2 v1,.no (.an (.lt v2 v0) (.le v0 v1)),.no (.eq v0 v2)] (.lt v0 v1) rfl [x,y,z]
theorem nL16 {x:Int} : -1000000≤x∧x < 1000000→-(2 ^ 63)≤x:=by lia
theorem qcb {x y:Nat}:x < y→¬x=y:=lin 2 [.lt v0 v1] (.no (.eq v0 v1)) rfl [x,y]
theorem zdi {x y z:Nat}:y < x→¬(x < y∧y≤z):=lin 3 [.lt v1 v0] (.no (.an (.lt v0 v1) (.le v1 v2))) rfl [x,y,z]
theorem ydi {x y z w u:Nat}:x < z→w < u + 1→w=z→u < y→x < y:=lin 5 [.lt v0 v2,.lt v3 (.a v4 k1),.eq v3 v2,.lt v4 v1] (.lt v0 v1) rfl [x,y,z,w,u]
theorem jdi {x y z w:Nat}:x < z→w < y + 1→w=z→x < y:=lin 4 [.lt v0 v2,.lt v3 (.a v1 k1),.eq v3 v2] (.lt v0 v1) rfl [x,y,z,w]
theorem wdi {x y z w:Nat}:z < y∧y≤w→x < z→x < y - 1:=lin 4 [.an (.lt v2 v1) (.le v1 v3),.lt v0 v2] (.lt v0 (.s v1 k1)) rfl [x,y,z,w]
theorem kcb {x y z:Nat}:x < y + 1→z < x→x - 1 < y:=lin 3 [.lt v0 (.a v1 k1),.lt v2 v0] (.lt (.s v0 k1) v1) rfl [x,y,z]
theorem qdi {x y z:Nat}:z < x→z=y→¬x=y:=lin 3 [.lt v2 v0,.eq v2 v1] (.no (.eq v0 v1)) rfl [x,y,z]
theorem gcw {x y z:Nat}:z < y→z=x→x < y:=lin 3 [.lt v2 v1,.eq v2 v0] (.lt v0 v1) rfl [x,y,z]
theorem zcx {x y:Nat}:x < y + 1→x≤y:=lin 2 [.lt v0 (.a v1 k1)] (.le v0 v1) rfl [x,y]
theorem kdi {x y z:Nat}:z < y→z=x→x≤y - 1:=lin 3 [.lt v2 v1,.eq v2 v0] (.le v0 (.s v1 k1)) rfl [x,y,z]
theorem nL17 {x y:Nat}:(x:Int) < (y:Int)→x < y:=by omega
theorem xdi {x y:Nat}:¬y < x→¬y=x→x < y:=lin 2 [.no (.lt v1 v0),.no (.eq v1 v0)] (.lt v0 v1) rfl [x,y]
theorem gdi {x y z:Nat}:x < z→z < y + 1→x≤y:=lin 3 [.lt v0 v2,.lt v2 (.a v1 k1)] (.le v0 v1) rfl [x,y,z]
theorem zdj {x y z:Nat}:z < x→¬z < y→¬x=y:=lin 3 [.lt v2 v0,.no (.lt v2 v1)] (.no (.eq v0 v1)) rfl [x,y,z]
theorem ydj {x y z:Nat}:z < y→¬z < x→x < y:=lin 3 [.lt v2 v1,.no (.lt v2 v0)] (.lt v0 v1) rfl [x,y,z]
theorem jdj {x y z:Nat}:x < y→¬x < z→¬x=z→x - 1 < y - 1:=lin 3 [.lt v0 v1,.no (.lt v0 v2),.no (.eq v0 v2)] (.lt (.s v0 k1) (.s v1 k1)) rfl [x,y,z]
theorem wdj {x y:Nat}:y < 0→x < 0:=lin 2 [.lt v1 k0] (.lt v0 k0) rfl [x,y]
theorem qdj {x:Nat}:1≤x→max x 1=x:=lin 1 [.le k1 v0] (.eq (.mx v0 k1) v0) rfl [x]
theorem kdj {x y:Nat}:x < y→x + (y - x)=y:=lin 2 [.lt v0 v1] (.eq (.a v0 (.s v1 v0)) v1) rfl [x,y]
theorem xdj {x y:Nat}:x≤y→¬x < y→x=y:=lin 2 [.le v0 v1,.no (.lt v0 v1)] (.eq v0 v1) rfl [x,y]
theorem gdj {x:Nat}:1≤x→0 < x:=lin 1 [.le k1 v0] (.lt k0 v0) rfl [x]
theorem ycx {x y:Int}:x < y→x≤y:=by omega
theorem jcx {x:Nat}:x < 64→x≤16777216:=lin 1 [.lt v0 (.k 64)] (.le v0 (.k 16777216)) rfl [x]
theorem zdk {x:Nat}:2≤x→¬x < 2:=lin 1 [.le k2 v0] (.no (.lt v0 k2)) rfl [x]
theorem ydk {x y:Nat}:2≤y→x=y→2≤x:=lin 2 [.le k2 v1,.eq v0 v1] (.le k2 v0) rfl [x,y]
theorem jdk {x y:Nat}:x=y→y < 64→x < 64:=lin 2 [.eq v0 v1,.lt v1 (.k 64)] (.lt v0 (.k 64)) rfl [x,y]
theorem wdk {x:Nat}:2≤x→1≤x:=lin 1 [.le k2 v0] (.le k1 v0) rfl [x]
theorem qdk {x:Nat}:x < 64→x≤16777216 + 1:=lin 1 [.lt v0 (.k 64)] (.le v0 (.a (.k 16777216) k1)) rfl [x]
theorem nL19 {x y:Nat}:x < y→(x:Int) < (y:Int):=by omega
theorem wbr {x:Nat}:x < 2→x≤16777216:=lin 1 [.lt v0 k2] (.le v0 (.k 16777216)) rfl [x]
theorem wcx {x:Nat}:x < 2→x≤16777216 + 1:=lin 1 [.lt v0 k2] (.le v0 (.a (.k 16777216) k1)) rfl [x]
theorem kdk {x:Nat}:x≤1000 * 1000→x≤1000000:=lin 1 [.le v0 (.m 1000 (.k 1000))] (.le v0 (.k 1000000)) rfl [x]
theorem nL2 {x y:Nat}:¬y < x→x≤y:=lin 2 [.no (.lt v1 v0)] (.le v0 v1) rfl [x,y]
theorem nL20 {x y z:Nat}:x≤z→y≤z→max x y≤z:=lin 3 [.le v0 v2,.le v1 v2] (.le (.mx v0 v1) v2) rfl [x,y,z]
theorem ya2 {x y:Nat}:y < x→(x - 1) / 2 < x:=lin 3 [.le (.m 2 v2) (.s v0 k1),.lt (.s v0 k1) (.a (.m 2 v2) k2),.lt v1 v0] (.lt v2 v0) rfl [x,y,(x - 1) / 2] (dv1 2 (x - 1)) (dv2 2 (x - 1) rfl)
theorem xdk {x y z:Nat}:y < x→z < y→x - y < x - z:=lin 3 [.lt v1 v0,.lt v2 v1] (.lt (.s v0 v1) (.s v0 v2)) rfl [x,y,z]
theorem gdk {x y:Nat}:y - x≤0→¬2 * x + 1 < y:=lin 2 [.le (.s v1 v0) k0] (.no (.lt (.a (.m 2 v0) k1) v1)) rfl [x,y]
theorem qbr {x y z w:Nat}:x - w≤y + 1→w < z→x≤y + z:=lin 4 [.le (.s v0 v3) (.a v1 k1),.lt v3 v2] (.le v0 (.a v1 v2)) rfl [x,y,z,w]
theorem zdl {x y z:Nat}:y - z≤0→z < y→x < y:=lin 3 [.le (.s v1 v2) k0,.lt v2 v1] (.lt v0 v1) rfl [x,y,z]
theorem yar {x y:Nat}:x < y→(x - 1) / 2 < y:=lin 3 [.le (.m 2 v2) (.s v0 k1),.lt (.s v0 k1) (.a (.m 2 v2) k2),.lt v0 v1] (.lt v2 v1) rfl [x,y,(x - 1) / 2] (dv1 2 (x - 1)) (dv2 2 (x - 1) rfl)
theorem xcb {x y:Nat}:y < x→x≠(x - 1) / 2:=lin 3 [.le (.m 2 v2) (.s v0 k1),.lt (.s v0 k1) (.a (.m 2 v2) k2),.lt v1 v0] (.no (.eq v0 v2)) rfl [x,y,(x - 1) / 2] (dv1 2 (x - 1)) (dv2 2 (x - 1) rfl)
theorem qcx {x y:Nat}:x - y≤0→y < x→False:=lin 2 [.le (.s v0 v1) k0,.lt v1 v0] .f rfl [x,y]
theorem kcx {x y:Nat}:x < y→x≠y:=lin 2 [.lt v0 v1] (.no (.eq v0 v1)) rfl [x,y]
theorem xcx {x y:Nat}:x < y→y=x→False:=lin 2 [.lt v0 v1,.eq v1 v0] .f rfl [x,y]
theorem ydl {x y z:Nat}:x≤z→z < y→x < y:=lin 3 [.le v0 v2,.lt v2 v1] (.lt v0 v1) rfl [x,y,z]
theorem jdl {x y:Nat}:(y - 1) / 2=x→0 < y→x≠y:=lin 3 [.le (.m 2 v2) (.s v1 k1),.lt (.s v1 k1) (.a (.m 2 v2) k2),.eq v2 v0,.lt k0 v1] (.no (.eq v0 v1)) rfl [x,y,(y - 1) / 2] (dv1 2 (y - 1)) (dv2 2 (y - 1) rfl)
theorem wdl {x y:Nat}:y < (x - 1) / 2→x≠((x - 1) / 2 - 1) / 2:=lin 4 [.le (.m 2 v2) (.s v0 k1),.lt (.s v0 k1) (.a (.m 2 v2) k2),.le (.m 2 v3) (.s v2 k1),.lt (.s v2 k1) (.a (.m 2 v3) k2),.lt v1 v2] (.no (.eq v0 v3)) rfl [x,y,(x - 1) / 2,(((x - 1) / 2) - 1) / 2] (dv1 2 (x - 1)) (dv2 2 (x - 1) rfl) (dv1 2 (((x - 1) / 2) - 1)) (dv2 2 (((x - 1) / 2) - 1) rfl)
theorem qdl {x y:Nat}:y < (x - 1) / 2→0 < (x - 1) / 2:=lin 3 [.le (.m 2 v2) (.s v0 k1),.lt (.s v0 k1) (.a (.m 2 v2) k2),.lt v1 v2] (.lt k0 v2) rfl [x,y,(x - 1) / 2] (dv1 2 (x - 1)) (dv2 2 (x - 1) rfl)
theorem kdl {x y z:Nat}:(z - 1) / 2=(x - 1) / 2→z < y→(x - 1) / 2 < y:=lin 5 [.le (.m 2 v3) (.s v2 k1),.lt (.s v2 k1) (.a (.m 2 v3) k2),.le (.m 2 v4) (.s v0 k1),.lt (.s v0 k1) (.a (.m 2 v4) k2),.eq v3 v4,.lt v2 v1] (.lt v4 v1) rfl [x,y,z,(z - 1) / 2,(x - 1) / 2] (dv1 2 (z - 1)) (dv2 2 (z - 1) rfl) (dv1 2 (x - 1)) (dv2 2 (x - 1) rfl)
theorem xdl {x y:Nat}:y < (x - 1) / 2→(x - 1) / 2≠x:=lin 3 [.le (.m 2 v2) (.s v0 k1),.lt (.s v0 k1) (.a (.m 2 v2) k2),.lt v1 v2] (.no (.eq v2 v0)) rfl [x,y,(x - 1) / 2] (dv1 2 (x - 1)) (dv2 2 (x - 1) rfl)
theorem gdl {x y:Nat}:y < (x - 1) / 2→((x - 1) / 2 - 1) / 2≠x:=lin 4 [.le (.m 2 v2) (.s v0 k1),.lt (.s v0 k1) (.a (.m 2 v2) k2),.le (.m 2 v3) (.s v2 k1),.lt (.s v2 k1) (.a (.m 2 v3) k2),.lt v1 v2] (.no (.eq v3 v0)) rfl [x,y,(x - 1) / 2,(((x - 1) / 2) - 1) / 2] (dv1 2 (x - 1)) (dv2 2 (x - 1) rfl) (dv1 2 (((x - 1) / 2) - 1)) (dv2 2 (((x - 1) / 2) - 1) rfl)
theorem zdm {x y z:Nat}:(y - 1) / 2=(z - 1) / 2→x≤((z - 1) / 2 - 1) / 2→x≤(y - 1) / 2:=lin 6 [.le (.m 2 v3) (.s v1 k1),.lt (.s v1 k1) (.a (.m 2 v3) k2),.le (.m 2 v4) (.s v2 k1),.lt (.s v2 k1) (.a (.m 2 v4) k2),.le (.m 2 v5) (.s v4 k1),.lt (.s v4 k1) (.a (.m 2 v5) k2),.eq v3 v4,.le v0 v5] (.le v0 v3) rfl [x,y,z,(y - 1) / 2,(z - 1) / 2,(((z - 1) / 2) - 1) / 2] (dv1 2 (y - 1)) (dv2 2 (y - 1) rfl) (dv1 2 (z - 1)) (dv2 2 (z - 1) rfl) (dv1 2 (((z - 1) / 2) - 1)) (dv2 2 (((z - 1) / 2) - 1) rfl)
theorem ydm {x y z:Nat}:(x - 1) / 2=(y - 1) / 2→z < (y - 1) / 2→(x - 1) / 2≠y:=lin 5 [.le (.m 2 v3) (.s v0 k1),.lt (.s v0 k1) (.a (.m 2 v3) k2),.le (.m 2 v4) (.s v1 k1),.lt (.s v1 k1) (.a (.m 2 v4) k2),.eq v3 v4,.lt v2 v4] (.no (.eq v3 v1)) rfl [x,y,z,(x - 1) / 2,(y - 1) / 2] (dv1 2 (x - 1)) (dv2 2 (x - 1) rfl) (dv1 2 (y - 1)) (dv2 2 (y - 1) rfl)
theorem jdm {x y z:Nat}:(z - 1) / 2=(x - 1) / 2→z < y→((x - 1) / 2 - 1) / 2 < y:=lin 6 [.le (.m 2 v3) (.s v2 k1),.lt (.s v2 k1) (.a (.m 2 v3) k2),.le (.m 2 v4) (.s v0 k1),.lt (.s v0 k1) (.a (.m 2 v4) k2),.le (.m 2 v5) (.s v4 k1),.lt (.s v4 k1) (.a (.m 2 v5) k2),.eq v3 v4,.lt v2 v1] (.lt v5 v1) rfl [x,y,z,(z - 1) / 2,(x - 1) / 2,(((x - 1) / 2) - 1) / 2] (dv1 2 (z - 1)) (dv2 2 (z - 1) rfl) (dv1 2 (x - 1)) (dv2 2 (x - 1) rfl) (dv1 2 (((x - 1) / 2) - 1)) (dv2 2 (((x - 1) / 2) - 1) rfl)
theorem nL22 {x y z w:Nat}:x + 1000 < w→z≤6→x + min y z < w:=lin 4 [.lt (.a v0 (.k 1000)) v3,.le v2 (.k 6)] (.lt (.a v0 (.mn v1 v2)) v3) rfl [x,y,z,w]
theorem wdm {x y z:Nat}:(y - 1) / 2=(z - 1) / 2→x≤(z - 1) / 2→x≤(y - 1) / 2:=lin 5 [.le (.m 2 v3) (.s v1 k1),.lt (.s v1 k1) (.a (.m 2 v3) k2),.le (.m 2 v4) (.s v2 k1),.lt (.s v2 k1) (.a (.m 2 v4) k2),.eq v3 v4,.le v0 v4] (.le v0 v3) rfl [x,y,z,(y - 1) / 2,(z - 1) / 2] (dv1 2 (y - 1)) (dv2 2 (y - 1) rfl) (dv1 2 (z - 1)) (dv2 2 (z - 1) rfl)
theorem qdm {x y z:Nat}:(x - 1) / 2=(y - 1) / 2→z < y→(x - 1) / 2≠y:=lin 5 [.le (.m 2 v3) (.s v0 k1),.lt (.s v0 k1) (.a (.m 2 v3) k2),.le (.m 2 v4) (.s v1 k1),.lt (.s v1 k1) (.a (.m 2 v4) k2),.eq v3 v4,.lt v2 v1] (.no (.eq v3 v1)) rfl [x,y,z,(x - 1) / 2,(y - 1) / 2] (dv1 2 (x - 1)) (dv2 2 (x - 1) rfl) (dv1 2 (y - 1)) (dv2 2 (y - 1) rfl)
theorem kdm {x y z:Nat}:0 < x→x=y→z≤(x - 1) / 2→¬z < y→False:=lin 4 [.le (.m 2 v3) (.s v0 k1),.lt (.s v0 k1) (.a (.m 2 v3) k2),.lt k0 v0,.eq v0 v1,.le v2 v3,.no (.lt v2 v1)] .f rfl [x,y,z,(x - 1) / 2] (dv1 2 (x - 1)) (dv2 2 (x - 1) rfl)
theorem gcx {x y:Nat}:(x - 1) / 2=y→0 < x→x=2 * y + 1∨x=2 * y + 2:=lin 3 [.le (.m 2 v2) (.s v0 k1),.lt (.s v0 k1) (.a (.m 2 v2) k2),.eq v2 v1,.lt k0 v0] (.or (.eq v0 (.a (.m 2 v1) k1)) (.eq v0 (.a (.m 2 v1) k2))) rfl [x,y,(x - 1) / 2] (dv1 2 (x - 1)) (dv2 2 (x - 1) rfl)
theorem xdm {x:Nat}:0 < x→x≠(x - 1) / 2:=lin 2 [.le (.m 2 v1) (.s v0 k1),.lt (.s v0 k1) (.a (.m 2 v1) k2),.lt k0 v0] (.no (.eq v0 v1)) rfl [x,(x - 1) / 2] (dv1 2 (x - 1)) (dv2 2 (x - 1) rfl)
theorem gdm {x y:Nat}:0 < y→x≤(y - 1) / 2→x < y:=lin 3 [.le (.m 2 v2) (.s v1 k1),.lt (.s v1 k1) (.a (.m 2 v2) k2),.lt k0 v1,.le v0 v2] (.lt v0 v1) rfl [x,y,(y - 1) / 2] (dv1 2 (y - 1)) (dv2 2 (y - 1) rfl)
theorem zdn {x y:Nat}:(x - 1) / 2=y→(y - 1) / 2≠x→0 < x:=lin 4 [.le (.m 2 v2) (.s v0 k1),.lt (.s v0 k1) (.a (.m 2 v2) k2),.le (.m 2 v3) (.s v1 k1),.lt (.s v1 k1) (.a (.m 2 v3) k2),.eq v2 v1,.no (.eq v3 v0)] (.lt k0 v0) rfl [x,y,(x - 1) / 2,(y - 1) / 2] (dv1 2 (x - 1)) (dv2 2 (x - 1) rfl) (dv1 2 (y - 1)) (dv2 2 (y - 1) rfl)
theorem ydn {x y z:Nat}:(y - 1) / 2=z→(z - 1) / 2=x→0 < y→x≠y:=lin 5 [.le (.m 2 v3) (.s v1 k1),.lt (.s v1 k1) (.a (.m 2 v3) k2),.le (.m 2 v4) (.s v2 k1),.lt (.s v2 k1) (.a (.m 2 v4) k2),.eq v3 v2,.eq v4 v0,.lt k0 v1] (.no (.eq v0 v1)) rfl [x,y,z,(y - 1) / 2,(z - 1) / 2] (dv1 2 (y - 1)) (dv2 2 (y - 1) rfl) (dv1 2 (z - 1)) (dv2 2 (z - 1) rfl)
theorem jdn {x y z:Nat}:(y - 1) / 2=z→x < z→x≤(y - 1) / 2:=lin 4 [.le (.m 2 v3) (.s v1 k1),.lt (.s v1 k1) (.a (.m 2 v3) k2),.eq v3 v2,.lt v0 v2] (.le v0 v3) rfl [x,y,z,(y - 1) / 2] (dv1 2 (y - 1)) (dv2 2 (y - 1) rfl)
theorem wdn {x y z:Nat}:(x - 1) / 2=z→(z - 1) / 2=y→0 < x→x≠y:=lin 5 [.le (.m 2 v3) (.s v0 k1),.lt (.s v0 k1) (.a (.m 2 v3) k2),.le (.m 2 v4) (.s v2 k1),.lt (.s v2 k1) (.a (.m 2 v4) k2),.eq v3 v2,.eq v4 v1,.lt k0 v0] (.no (.eq v0 v1)) rfl [x,y,z,(x - 1) / 2,(z - 1) / 2] (dv1 2 (x - 1)) (dv2 2 (x - 1) rfl) (dv1 2 (z - 1)) (dv2 2 (z - 1) rfl)
theorem qdn {x y z w:Nat}:(x - 1) / 2=z→(z - 1) / 2=y→w < z→(x - 1) / 2≠y:=lin 6 [.le (.m 2 v4) (.s v0 k1),.lt (.s v0 k1) (.a (.m 2 v4) k2),.le (.m 2 v5) (.s v2 k1),.lt (.s v2 k1) (.a (.m 2 v5) k2),.eq v4 v2,.eq v5 v1,.lt v3 v2] (.no (.eq v4 v1)) rfl [x,y,z,w,(x - 1) / 2,(z - 1) / 2] (dv1 2 (x - 1)) (dv2 2 (x - 1) rfl) (dv1 2 (z - 1)) (dv2 2 (z - 1) rfl)
theorem kdn {x y:Nat}:(y - 1) / 2≠x→x≤(y - 1) / 2→x + 1≤(y - 1) / 2:=lin 3 [.le (.m 2 v2) (.s v1 k1),.lt (.s v1 k1) (.a (.m 2 v2) k2),.no (.eq v2 v0),.le v0 v2] (.le (.a v0 k1) v2) rfl [x,y,(y - 1) / 2] (dv1 2 (y - 1)) (dv2 2 (y - 1) rfl)
theorem xdn {x:Nat}:x < x→False:=lin 1 [.lt v0 v0] .f rfl [x]
theorem gdn {x y z:Nat}:(x - 1) / 2=y→0 < x→x < z→¬2 * y + 1 < z→False:=lin 4 [.le (.m 2 v3) (.s v0 k1),.lt (.s v0 k1) (.a (.m 2 v3) k2),.eq v3 v1,.lt k0 v0,.lt v0 v2,.no (.lt (.a (.m 2 v1) k1) v2)] .f rfl [x,y,z,(x - 1) / 2] (dv1 2 (x - 1)) (dv2 2 (x - 1) rfl)
theorem gcb {x y:Nat}:x + 1≤y→x < y:=lin 2 [.le (.a v0 k1) v1] (.lt v0 v1) rfl [x,y]
theorem zdo {x y:Nat}:x / 2≤(y - 1) / 2→0 < y→y < x→False:=lin 4 [.le (.m 2 v2) v0,.lt v0 (.a (.m 2 v2) k2),.le (.m 2 v3) (.s v1 k1),.lt (.s v1 k1) (.a (.m 2 v3) k2),.le v2 v3,.lt k0 v1,.lt v1 v0] .f rfl [x,y,x / 2,(y - 1) / 2] (dv1 2 x) (dv2 2 x rfl) (dv1 2 (y - 1)) (dv2 2 (y - 1) rfl)
theorem ydo {x:Nat}:¬x=0→(x - 1) / 2 < x:=lin 2 [.le (.m 2 v1) (.s v0 k1),.lt (.s v0 k1) (.a (.m 2 v1) k2),.no (.eq v0 k0)] (.lt v1 v0) rfl [x,(x - 1) / 2] (dv1 2 (x - 1)) (dv2 2 (x - 1) rfl)
theorem zcy {x:Nat}:0≤(x - 1) / 2:=lin 2 [.le (.m 2 v1) (.s v0 k1),.lt (.s v0 k1) (.a (.m 2 v1) k2)] (.le k0 v1) rfl [x,(x - 1) / 2] (dv1 2 (x - 1)) (dv2 2 (x - 1) rfl)
theorem ja2 {x:Nat}:0≤(x:Int):=by lia
theorem ycy {x y z:Nat}:x < z→z < y + 1→x < y:=lin 3 [.lt v0 v2,.lt v2 (.a v1 k1)] (.lt v0 v1) rfl [x,y,z]
theorem zcc {x y:Nat}:x - y < 0→False:=lin 2 [.lt (.s v0 v1) k0] .f rfl [x,y]
theorem ycc {x y:Nat}:x≤y→¬x=y→x < y:=lin 2 [.le v0 v1,.no (.eq v0 v1)] (.lt v0 v1) rfl [x,y]
theorem kbr {x y:Nat}:x≤y→¬x=y→x + 1≤y:=lin 2 [.le v0 v1,.no (.eq v0 v1)] (.le (.a v0 k1) v1) rfl [x,y]
theorem xbr {x y z:Nat}:x - y < z + 1→y≤x→¬y=x→x - (y + 1) < z:=lin 3 [.lt (.s v0 v1) (.a v2 k1),.le v1 v0,.no (.eq v1 v0)] (.lt (.s v0 (.a v1 k1)) v2) rfl [x,y,z]
theorem jdo {x y:Nat}:x < y→y≤4000→x < 4096:=lin 2 [.lt v0 v1,.le v1 (.k 4000)] (.lt v0 (.k 4096)) rfl [x,y]
theorem wdo {x y:Nat}:x≤4000→x - y < 4096:=lin 2 [.le v0 (.k 4000)] (.lt (.s v0 v1) (.k 4096)) rfl [x,y]
theorem qdo {x y z w u:Nat}:y < w→z=x - u→w=x→u < y→x - y < z:=lin 5 [.lt v1 v3,.eq v2 (.s v0 v4),.eq v3 v0,.lt v4 v1] (.lt (.s v0 v1) v2) rfl [x,y,z,w,u]
theorem jcy {x y:Nat}:x=y→y≤4000→x≤4000:=lin 2 [.eq v0 v1,.le v1 (.k 4000)] (.le v0 (.k 4000)) rfl [x,y]
theorem kdo {x:Nat}:x≤4000→x / 2 - 0 < 4096:=lin 2 [.le (.m 2 v1) v0,.lt v0 (.a (.m 2 v1) k2),.le v0 (.k 4000)] (.lt (.s v1 k0) (.k 4096)) rfl [x,x / 2] (dv1 2 x) (dv2 2 x rfl)
theorem xdo {x:Nat}:¬x / 2 < x / 2:=lin 2 [.le (.m 2 v1) v0,.lt v0 (.a (.m 2 v1) k2)] (.no (.lt v1 v1)) rfl [x,x / 2] (dv1 2 x) (dv2 2 x rfl)
theorem wcy {x y z:Nat}:y < x / 2→z=x→x / 2 - y - 1 < z:=lin 4 [.le (.m 2 v3) v0,.lt v0 (.a (.m 2 v3) k2),.lt v1 v3,.eq v2 v0] (.lt (.s (.s v3 v1) k1) v2) rfl [x,y,z,x / 2] (dv1 2 x) (dv2 2 x rfl)
theorem gdo {x y:Nat}:y < x / 2→x / 2 - y=x / 2 - (y + 1) + 1:=lin 3 [.le (.m 2 v2) v0,.lt v0 (.a (.m 2 v2) k2),.lt v1 v2] (.eq (.s v2 v1) (.a (.s v2 (.a v1 k1)) k1)) rfl [x,y,x / 2] (dv1 2 x) (dv2 2 x rfl)
theorem zdp {x y z:Nat}:x=z→z≤y→x≤y:=lin 3 [.eq v0 v2,.le v2 v1] (.le v0 v1) rfl [x,y,z]
theorem ydp {x:Nat}:¬x + 3=x:=lin 1 [] (.no (.eq (.a v0 k3) v0)) rfl [x]
theorem jdp {x:Nat}:¬x + 3=x + 1:=lin 1 [] (.no (.eq (.a v0 k3) (.a v0 k1))) rfl [x]
theorem wdp {x:Nat}:¬x + 3=x + 2:=lin 1 [] (.no (.eq (.a v0 k3) (.a v0 k2))) rfl [x]
theorem qdp {x:Nat}:¬x=x + 1:=lin 1 [] (.no (.eq v0 (.a v0 k1))) rfl [x]
theorem kdp {x:Nat}:¬x=x + 2:=lin 1 [] (.no (.eq v0 (.a v0 k2))) rfl [x]
theorem xdp {x:Nat}:¬x + 1=x + 2:=lin 1 [] (.no (.eq (.a v0 k1) (.a v0 k2))) rfl [x]
theorem gdp {x y z:Nat}:x + (y + 1) < z→x + y < z:=lin 3 [.lt (.a v0 (.a v1 k1)) v2] (.lt (.a v0 v1) v2) rfl [x,y,z]
theorem zdq {x y z:Nat}:x + 1000 + 10 * (y + 1) < z→x + 1 + 1000 + 10 * y < z:=lin 3 [.lt (.a (.a v0 (.k 1000)) (.m 10 (.a v1 k1))) v2] (.lt (.a (.a (.a v0 k1) (.k 1000)) (.m 10 v1)) v2) rfl [x,y,z]
theorem ydq {x y z:Nat}:x + 1000 + 10 * (z + 1) < y→x + 1 + 1000 < y:=lin 3 [.lt (.a (.a v0 (.k 1000)) (.m 10 (.a v2 k1))) v1] (.lt (.a (.a v0 k1) (.k 1000)) v1) rfl [x,y,z]
theorem jdq {x y z w u:Nat}:x + 1000 + 10 * (u + 1) < w→z≤6→x + 1 + min y z < w:=lin 5 [.lt (.a (.a v0 (.k 1000)) (.m 10 (.a v4 k1))) v3,.le v2 (.k 6)] (.lt (.a (.a v0 k1) (.mn v1 v2)) v3) rfl [x,y,z,w,u]
theorem nL28 {x:Nat}:x≤1000000→(x:Int) < 2 ^ 63:=by omega
theorem jcc {x:Nat}:¬x < 2→1≤x:=lin 1 [.no (.lt v0 k2)] (.le k1 v0) rfl [x]
theorem wdq {x y:Nat}:x=y→¬y < 2→1≤x:=lin 2 [.eq v0 v1,.no (.lt v1 k2)] (.le k1 v0) rfl [x,y]
theorem qbb {x y:Nat}:x=y→y < 2→x < 2:=lin 2 [.eq v0 v1,.lt v1 k2] (.lt v0 k2) rfl [x,y]
theorem wcc {x:Nat}:¬x < 2→2≤x:=lin 1 [.no (.lt v0 k2)] (.le k2 v0) rfl [x]
theorem qcc {x y:Nat}:x=y→¬y < 2→2≤x:=lin 2 [.eq v0 v1,.no (.lt v1 k2)] (.le k2 v0) rfl [x,y]
theorem qcy {x y z:Nat}:x=y→z < 64→z=y→x < 64:=lin 3 [.eq v0 v1,.lt v2 (.k 64),.eq v2 v1] (.lt v0 (.k 64)) rfl [x,y,z]
theorem nL29 {x:Nat}:x < 1000000→x≤999999:=lin 1 [.lt v0 (.k 1000000)] (.le v0 (.k 999999)) rfl [x]
theorem qdq {x y z:Nat}:z + 1000 < y→x=z + 1→x + 7 < y:=lin 3 [.lt (.a v2 (.k 1000)) v1,.eq v0 (.a v2 k1)] (.lt (.a v0 (.k 7)) v1) rfl [x,y,z]
theorem kcy {x y z w:Nat}:x=z→w < x→x - 1 - y < z:=lin 4 [.eq v0 v2,.lt v3 v0] (.lt (.s (.s v0 k1) v1) v2) rfl [x,y,z,w]
theorem xcy {x y z:Nat}:x=z→y < x→x - 1 - y < z:=lin 3 [.eq v0 v2,.lt v1 v0] (.lt (.s (.s v0 k1) v1) v2) rfl [x,y,z]
theorem gbr {x y z w:Nat}:x < z→y=w→z=w→x < y:=lin 4 [.lt v0 v2,.eq v1 v3,.eq v2 v3] (.lt v0 v1) rfl [x,y,z,w]
theorem kcc {x y z:Nat}:x=z→y=z→x=y:=lin 3 [.eq v0 v2,.eq v1 v2] (.eq v0 v1) rfl [x,y,z]
theorem kdq {x y:Nat}:x + (y + 1)≤100→x + 1≤100:=lin 2 [.le (.a v0 (.a v1 k1)) (.k 100)] (.le (.a v0 k1) (.k 100)) rfl [x,y]
theorem xdq {x:Nat}:x + 1≤100→x≤16777216:=lin 1 [.le (.a v0 k1) (.k 100)] (.le v0 (.k 16777216)) rfl [x]
theorem gdq {x:Nat}:x + 1≤100→x + 1≤16777216 + 1:=lin 1 [.le (.a v0 k1) (.k 100)] (.le (.a v0 k1) (.a (.k 16777216) k1)) rfl [x]
theorem zdr {x y:Nat}:x + (y + 1)≤100→x + 1 + y≤100:=lin 2 [.le (.a v0 (.a v1 k1)) (.k 100)] (.le (.a (.a v0 k1) v1) (.k 100)) rfl [x,y]
theorem ydr {x y z:Nat}:x=z→¬y < z→x≤y:=lin 3 [.eq v0 v2,.no (.lt v1 v2)] (.le v0 v1) rfl [x,y,z]
theorem nL3 {x:Nat}:x≤1000000→x≤16777216:=lin 1 [.le v0 (.k 1000000)] (.le v0 (.k 16777216)) rfl [x]
theorem nL30 {x y:Int}:y < x→0≤x - y - 1:=by lia
theorem gcy {x:Nat}:x≤100→x≤16777216:=lin 1 [.le v0 (.k 100)] (.le v0 (.k 16777216)) rfl [x]
theorem jdr {x y z:Nat}:x=y→z < 64→z=y→x≤16777216:=lin 3 [.eq v0 v1,.lt v2 (.k 64),.eq v2 v1] (.le v0 (.k 16777216)) rfl [x,y,z]
theorem wdr {x y z w:Nat}:x=y→z < 64→z=w→w=y→x≤16777216 + 1:=lin 4 [.eq v0 v1,.lt v2 (.k 64),.eq v2 v3,.eq v3 v1] (.le v0 (.a (.k 16777216) k1)) rfl [x,y,z,w]
theorem qdr {x y z w:Nat}:x=z→y=w→w=z→x≤y:=lin 4 [.eq v0 v2,.eq v1 v3,.eq v3 v2] (.le v0 v1) rfl [x,y,z,w]
theorem kdr {x y:Nat}:x=y→¬y < 2→¬x < 2:=lin 2 [.eq v0 v1,.no (.lt v1 k2)] (.no (.lt v0 k2)) rfl [x,y]
theorem xdr {x y z w:Nat}:x=w→y=z→w=z→min x y=z:=lin 4 [.eq v0 v3,.eq v1 v2,.eq v3 v2] (.eq (.mn v0 v1) v2) rfl [x,y,z,w]
theorem gdr {x y z:Nat}:y < 64→y=z→z=x→x < 64:=lin 3 [.lt v1 (.k 64),.eq v1 v2,.eq v2 v0] (.lt v0 (.k 64)) rfl [x,y,z]
theorem xcc {x y z w:Nat}:x=z→y=w→z=w→x=y:=lin 4 [.eq v0 v2,.eq v1 v3,.eq v2 v3] (.eq v0 v1) rfl [x,y,z,w]
theorem zbs {x y z w:Nat}:x < z→y=w→w=z→x < y:=lin 4 [.lt v0 v2,.eq v1 v3,.eq v3 v2] (.lt v0 v1) rfl [x,y,z,w]
theorem zds {x y z w u:Nat}:x=z→z=w→u < w→x - 1 - y < z:=lin 5 [.eq v0 v2,.eq v2 v3,.lt v4 v3] (.lt (.s (.s v0 k1) v1) v2) rfl [x,y,z,w,u]
theorem yds {x y z w:Nat}:x=z→y < w→z=w→x - 1 - y < z:=lin 4 [.eq v0 v2,.lt v1 v3,.eq v2 v3] (.lt (.s (.s v0 k1) v1) v2) rfl [x,y,z,w]
theorem zcz {x y z:Nat}:x=z→z=y→x=y:=lin 3 [.eq v0 v2,.eq v2 v1] (.eq v0 v1) rfl [x,y,z]
theorem jds {x y z:Nat}:x=y→z < 64→z=y→x≤100:=lin 3 [.eq v0 v1,.lt v2 (.k 64),.eq v2 v1] (.le v0 (.k 100)) rfl [x,y,z]
theorem wds {x y z:Nat}:z + 1000 < y→x=z + 1 + 1→x + 7 < y:=lin 3 [.lt (.a v2 (.k 1000)) v1,.eq v0 (.a (.a v2 k1) k1)] (.lt (.a v0 (.k 7)) v1) rfl [x,y,z]
theorem qds {x y z w:Nat}:x=y→z < 64→z=w→w=y→x≤100:=lin 4 [.eq v0 v1,.lt v2 (.k 64),.eq v2 v3,.eq v3 v1] (.le v0 (.k 100)) rfl [x,y,z,w]
theorem ycz {x y z w:Nat}:x=y→z < 64→z=w→w=y→x≤16777216:=lin 4 [.eq v0 v1,.lt v2 (.k 64),.eq v2 v3,.eq v3 v1] (.le v0 (.k 16777216)) rfl [x,y,z,w]
theorem kds {x y z:Nat}:y < 64→y=z→z=x→0 + x≤100:=lin 3 [.lt v1 (.k 64),.eq v1 v2,.eq v2 v0] (.le (.a k0 v0) (.k 100)) rfl [x,y,z]
theorem xds {x y z:Nat}:z + 1000 < y→z=x→x + 7 < y:=lin 3 [.lt (.a v2 (.k 1000)) v1,.eq v2 v0] (.lt (.a v0 (.k 7)) v1) rfl [x,y,z]
theorem gds {x:Nat}:x≤1000→x≤16777216:=lin 1 [.le v0 (.k 1000)] (.le v0 (.k 16777216)) rfl [x]
theorem jcz {x y z:Int}:x≤z→z < y→x < y:=by lia
theorem nL32 {x:Int}:0≤x→0≤x + 1:=by lia
theorem wcz {x y:Int}:¬y < x→¬y=x→x < y:=by lia
theorem zdt {x y z:Nat}:y < x→z < y→x - 1 - y < x - 1 - z:=lin 3 [.lt v1 v0,.lt v2 v1] (.lt (.s (.s v0 k1) v1) (.s (.s v0 k1) v2)) rfl [x,y,z]
theorem gcc {x y z:Nat}:z < x→x - 1 - y < x:=lin 3 [.lt v2 v0] (.lt (.s (.s v0 k1) v1) v0) rfl [x,y,z]
theorem qcz {x y:Nat}:y < x→x - 1 - y < x:=lin 2 [.lt v1 v0] (.lt (.s (.s v0 k1) v1) v0) rfl [x,y]
theorem ydt {x y z w:Nat}:x=w→w=min y z→x=min y z∧w=min y z:=lin 4 [.eq v0 v3,.eq v3 (.mn v1 v2)] (.an (.eq v0 (.mn v1 v2)) (.eq v3 (.mn v1 v2))) rfl [x,y,z,w]
theorem jdt {x y z:Nat}:x≤z→y=min x z→x≤y:=lin 3 [.le v0 v2,.eq v1 (.mn v0 v2)] (.le v0 v1) rfl [x,y,z]
theorem kcz {x y z:Nat}:x=min y z→x≤y:=lin 3 [.eq v0 (.mn v1 v2)] (.le v0 v1) rfl [x,y,z]
theorem wdt {x:Nat}:1≤(x - 1) / 2→0≠x:=lin 2 [.le (.m 2 v1) (.s v0 k1),.lt (.s v0 k1) (.a (.m 2 v1) k2),.le k1 v1] (.no (.eq k0 v0)) rfl [x,(x - 1) / 2] (dv1 2 (x - 1)) (dv2 2 (x - 1) rfl)
theorem qdt {x:Nat}:1≤(x - 1) / 2→0≠(x - 1) / 2:=lin 2 [.le (.m 2 v1) (.s v0 k1),.lt (.s v0 k1) (.a (.m 2 v1) k2),.le k1 v1] (.no (.eq k0 v1)) rfl [x,(x - 1) / 2] (dv1 2 (x - 1)) (dv2 2 (x - 1) rfl)
theorem kdt {x y z w:Nat}:y + (z + 1)=min x w→x≤w→x=y + (z + 1):=lin 4 [.eq (.a v1 (.a v2 k1)) (.mn v0 v3),.le v0 v3] (.eq v0 (.a v1 (.a v2 k1))) rfl [x,y,z,w]
theorem xcz {x y:Int}:x < y→x - 1 < y:=by lia
theorem gcz {x:Nat}:x / 2≤x:=lin 2 [.le (.m 2 v1) v0,.lt v0 (.a (.m 2 v1) k2)] (.le v1 v0) rfl [x,x / 2] (dv1 2 x) (dv2 2 x rfl)
theorem xdt {x y z:Nat}:x=min z y→min x y=x:=lin 3 [.eq v0 (.mn v2 v1)] (.eq (.mn v0 v1) v0) rfl [x,y,z]
theorem zc0 {x y:Nat}:x < y→x - 0 < y:=lin 2 [.lt v0 v1] (.lt (.s v0 k0) v1) rfl [x,y]
theorem gdt {x y z:Nat}:x≤min y z→z < 1000000→x < 1000000:=lin 3 [.le v0 (.mn v1 v2),.lt v2 (.k 1000000)] (.lt v0 (.k 1000000)) rfl [x,y,z]
theorem yc0 {x:Nat}:0 < x→x≠0:=lin 1 [.lt k0 v0] (.no (.eq v0 k0)) rfl [x]
theorem jc0 {x:Int} : -100000≤x∧x≤100000→-1000000≤x∧x≤1000000:=by lia
theorem nL35 {x y:Nat}:y < x→0 < (x:Int) - (y:Int):=by lia
theorem nL36 {x y:Nat}:x < y→x + 1≤y:=lin 2 [.lt v0 v1] (.le (.a v0 k1) v1) rfl [x,y]
theorem zdu {x y:Nat}:y < x→x≠0:=lin 2 [.lt v1 v0] (.no (.eq v0 k0)) rfl [x,y]
theorem ydu {x y:Nat}:x < y→y < 1000000→x < 1000000:=lin 2 [.lt v0 v1,.lt v1 (.k 1000000)] (.lt v0 (.k 1000000)) rfl [x,y]
theorem jdu {x:Nat}:x < 4000→x < 4096:=lin 1 [.lt v0 (.k 4000)] (.lt v0 (.k 4096)) rfl [x]
theorem wdu {x:Nat}:x < 4000→x < 1000000:=lin 1 [.lt v0 (.k 4000)] (.lt v0 (.k 1000000)) rfl [x]
theorem ybs {x y z:Nat}:y < z→z≤x→x≠y:=lin 3 [.lt v1 v2,.le v2 v0] (.no (.eq v0 v1)) rfl [x,y,z]
theorem qdu {x y z w:Nat}:min y z < 64→x=min y z∧w=min y z→x < 64:=lin 4 [.lt (.mn v1 v2) (.k 64),.an (.eq v0 (.mn v1 v2)) (.eq v3 (.mn v1 v2))] (.lt v0 (.k 64)) rfl [x,y,z,w]
theorem nL37 {x y:Nat}:(x:Int) - ((y + 1:Nat):Int)=(x:Int) - (y:Int) - 1:=by lia
theorem kdu {x y z:Nat}:0 < y∧y < z→z≤x→¬x=0:=lin 3 [.an (.lt k0 v1) (.lt v1 v2),.le v2 v0] (.no (.eq v0 k0)) rfl [x,y,z]
theorem xdu {x y z w:Nat}:min y z < 64→w=min y z∧x=min y z→x < 4000:=lin 4 [.lt (.mn v1 v2) (.k 64),.an (.eq v3 (.mn v1 v2)) (.eq v0 (.mn v1 v2))] (.lt v0 (.k 4000)) rfl [x,y,z,w]
theorem zcd {x y z:Nat}:0 < y∧y < z→z≤x→x≠y:=lin 3 [.an (.lt k0 v1) (.lt v1 v2),.le v2 v0] (.no (.eq v0 v1)) rfl [x,y,z]
theorem gdu {x y z:Nat}:x + y < z→z≤x + y→False:=lin 3 [.lt (.a v0 v1) v2,.le v2 (.a v0 v1)] .f rfl [x,y,z]
theorem wc0 {x y z:Nat}:x + y < z→x + y≤z:=lin 3 [.lt (.a v0 v1) v2] (.le (.a v0 v1) v2) rfl [x,y,z]
theorem kbb {x y:Nat}:0 < x∧x < y→x≠0:=lin 2 [.an (.lt k0 v0) (.lt v0 v1)] (.no (.eq v0 k0)) rfl [x,y]
theorem qc0 {x y z:Nat}:x≤y→x≤y + z:=lin 3 [.le v0 v1] (.le v0 (.a v1 v2)) rfl [x,y,z]
theorem kc0 {x y z:Nat}:0 < y∧y < z→z≤x→x≠0:=lin 3 [.an (.lt k0 v1) (.lt v1 v2),.le v2 v0] (.no (.eq v0 k0)) rfl [x,y,z]
theorem zdv {x y z w u v:Nat}:x=min y (z + w)∧u=min y (z + w)→z + w < v→v≤1000→x≤4000:=lin 6 [.an (.eq v0 (.mn v1 (.a v2 v3))) (.eq v4 (.mn v1 (.a v2 v3))),.lt (.a v2 v3) v5,.le v5 (.k 1000)] (.le v0 (.k 4000)) rfl [x,y,z,w,u,v]
theorem ydv {x y z:Nat}:x + y < z→x + y + 1≤z:=lin 3 [.lt (.a v0 v1) v2] (.le (.a (.a v0 v1) k1) v2) rfl [x,y,z]
theorem nL38 {x y:Nat}:¬y < x→(x:Int) - (y:Int)≤0:=by lia
theorem ycd {x y z:Nat}:0 < min x (y + z)→0 < min x (y + z + 1):=lin 3 [.lt k0 (.mn v0 (.a v1 v2))] (.lt k0 (.mn v0 (.a (.a v1 v2) k1))) rfl [x,y,z]
theorem jdv {x y:Nat}:x≤1000→x - y - 0 < 4096:=lin 2 [.le v0 (.k 1000)] (.lt (.s (.s v0 v1) k0) (.k 4096)) rfl [x,y]
theorem wdv {x y z:Nat}:x=min z y→x + (y - x)=y:=lin 3 [.eq v0 (.mn v2 v1)] (.eq (.a v0 (.s v1 v0)) v1) rfl [x,y,z]
theorem qdv {x y z:Nat}:z < 64→z=min x y→min x y < 64:=lin 3 [.lt v2 (.k 64),.eq v2 (.mn v0 v1)] (.lt (.mn v0 v1) (.k 64)) rfl [x,y,z]
theorem kdv {x y z:Nat}:0 < x∧x < z→z≤y→x≠y:=lin 3 [.an (.lt k0 v0) (.lt v0 v2),.le v2 v1] (.no (.eq v0 v1)) rfl [x,y,z]
theorem wa2 {x y z:Nat}:y < z - x→x + y < z:=lin 3 [.lt v1 (.s v2 v0)] (.lt (.a v0 v1) v2) rfl [x,y,z]
theorem xdv {x y z w:Nat}:y=min x z→w < z - y→x≤y:=lin 4 [.eq v1 (.mn v0 v2),.lt v3 (.s v2 v1)] (.le v0 v1) rfl [x,y,z,w]
theorem gdv {x y z:Nat}:z=min x y→z=0→min x y=0:=lin 3 [.eq v2 (.mn v0 v1),.eq v2 k0] (.eq (.mn v0 v1) k0) rfl [x,y,z]
theorem nL39 {x:Nat}:x≤x + 2:=lin 1 [] (.le v0 (.a v0 k2)) rfl [x]
theorem zdw {x y z:Nat}:x=min z y→x≤y:=lin 3 [.eq v0 (.mn v2 v1)] (.le v0 v1) rfl [x,y,z]
theorem ydw {x y z w u:Nat}:y=min z w∧x=min z w→w=min z u→¬w=0→0 < x:=lin 5 [.an (.eq v1 (.mn v2 v3)) (.eq v0 (.mn v2 v3)),.eq v3 (.mn v2 v4),.no (.eq v3 k0)] (.lt k0 v0) rfl [x,y,z,w,u]
theorem jdw {x:Nat}:x < 64→x≤4000:=lin 1 [.lt v0 (.k 64)] (.le v0 (.k 4000)) rfl [x]
theorem wdw {x y z w:Nat}:x < z→z=min w y→x < y:=lin 4 [.lt v0 v2,.eq v2 (.mn v3 v1)] (.lt v0 v1) rfl [x,y,z,w]
theorem xc0 {x y z w u:Nat}:x=min y z∧w=min y z→z=min y u→¬z=0→0 < x:=lin 5 [.an (.eq v0 (.mn v1 v2)) (.eq v3 (.mn v1 v2)),.eq v2 (.mn v1 v4),.no (.eq v2 k0)] (.lt k0 v0) rfl [x,y,z,w,u]
theorem qdw {x y z:Nat}:x < z→y=min z x→x≤y + 0:=lin 3 [.lt v0 v2,.eq v1 (.mn v2 v0)] (.le v0 (.a v1 k0)) rfl [x,y,z]
theorem kdw {x y:Int} {z:Nat} : -(z:Int) < y→-x≤-(z:Int)→-x < y:=by lia
theorem nL4 {x y z:Nat}:x + (y + 1) < z→x + 1 + y < z:=lin 3 [.lt (.a v0 (.a v1 k1)) v2] (.lt (.a (.a v0 k1) v1) v2) rfl [x,y,z]
theorem nL40 {x:Nat}:x≤x + 1:=lin 1 [] (.le v0 (.a v0 k1)) rfl [x]
theorem xdw {x:Nat}:x≤1000→x < 4096:=lin 1 [.le v0 (.k 1000)] (.lt v0 (.k 4096)) rfl [x]
theorem gdw {x:Nat}:x≤1000→x < 1000000:=lin 1 [.le v0 (.k 1000)] (.lt v0 (.k 1000000)) rfl [x]
theorem jcd {x y z:Nat}:x - y < z + 1→y < x→x - (y + 1) < z:=lin 3 [.lt (.s v0 v1) (.a v2 k1),.lt v1 v0] (.lt (.s v0 (.a v1 k1)) v2) rfl [x,y,z]
theorem zdx {x:Nat}:x≤1000→x - 0 < 4096:=lin 1 [.le v0 (.k 1000)] (.lt (.s v0 k0) (.k 4096)) rfl [x]
theorem ydx {x:Nat}:min 1 x≤1000000:=lin 1 [] (.le (.mn k1 v0) (.k 1000000)) rfl [x]
theorem jdx {x y:Nat}:x + 1=min 1 y→x=0:=lin 2 [.eq (.a v0 k1) (.mn k1 v1)] (.eq v0 k0) rfl [x,y]
theorem gc0 {x y z:Nat}:x + z≤y→x≤y:=lin 3 [.le (.a v0 v2) v1] (.le v0 v1) rfl [x,y,z]
theorem wdx {x y:Int}:y < x→¬x < y:=by lia
theorem nL41 {x:Nat}:x≠x + 2:=lin 1 [] (.no (.eq v0 (.a v0 k2))) rfl [x]
theorem zc1 {x:Int}:¬x < x:=by lia
theorem qdx {x y z:Nat}:x=y + z→x + 1=y + (z + 1):=lin 3 [.eq v0 (.a v1 v2)] (.eq (.a v0 k1) (.a v1 (.a v2 k1))) rfl [x,y,z]
theorem kdx {x y z:Nat}:x=y + z→x + 1=y + 1 + z:=lin 3 [.eq v0 (.a v1 v2)] (.eq (.a v0 k1) (.a (.a v1 k1) v2)) rfl [x,y,z]
theorem xdx {x:Nat}:x + 1=1 + x:=lin 1 [] (.eq (.a v0 k1) (.a k1 v0)) rfl [x]
theorem gdx {x y:Nat}:x + y=x + (0 + 0) + y:=lin 2 [] (.eq (.a v0 v1) (.a (.a v0 (.a k0 k0)) v1)) rfl [x,y]
theorem zdy {x y z:Nat}:x=y + z→x≤y + z:=lin 3 [.eq v0 (.a v1 v2)] (.le v0 (.a v1 v2)) rfl [x,y,z]
theorem yc1 {x y z:Nat}:¬y + z < x→x≤y + z:=lin 3 [.no (.lt (.a v1 v2) v0)] (.le v0 (.a v1 v2)) rfl [x,y,z]
theorem ydy {x y z:Nat}:x≤y + z→x≤y + (1 + 0) + z:=lin 3 [.le v0 (.a v1 v2)] (.le v0 (.a (.a v1 (.a k1 k0)) v2)) rfl [x,y,z]
theorem jdy {x y z:Nat}:z≤x + y→x + (1 + 0) + y - z=x + y - z + 1:=lin 3 [.le v2 (.a v0 v1)] (.eq (.s (.a (.a v0 (.a k1 k0)) v1) v2) (.a (.s (.a v0 v1) v2) k1)) rfl [x,y,z]
theorem wdy {x y z:Nat}:x + y < z→x + (0 + 0) + y < z:=lin 3 [.lt (.a v0 v1) v2] (.lt (.a (.a v0 (.a k0 k0)) v1) v2) rfl [x,y,z]
theorem jc1 {x y z:Nat}:z + x < y→x < y - z:=lin 3 [.lt (.a v2 v0) v1] (.lt v0 (.s v1 v2)) rfl [x,y,z]
theorem qdy {x y z:Nat}:z + x≤y→x≤y - z:=lin 3 [.le (.a v2 v0) v1] (.le v0 (.s v1 v2)) rfl [x,y,z]
theorem kdy {x y:Nat}:x≤x + y:=lin 2 [] (.le v0 (.a v0 v1)) rfl [x,y]
theorem jbs {x:Nat}:x≤1000→-100000≤(x:Int)∧(x:Int)≤100000:=by lia
theorem xdy {x y:Nat}:x≤1000→x - y < 4096:=lin 2 [.le v0 (.k 1000)] (.lt (.s v0 v1) (.k 4096)) rfl [x,y]
theorem gdy {x y:Nat}:x≤1000→x - y < 1000000:=lin 2 [.le v0 (.k 1000)] (.lt (.s v0 v1) (.k 1000000)) rfl [x,y]
theorem wc1 {x:Nat}:x≤50→-100000≤(x:Int)∧(x:Int)≤100000:=by lia
theorem zdz {x y:Nat}:x≤50→x - y - 0 < 4096:=lin 2 [.le v0 (.k 50)] (.lt (.s (.s v0 v1) k0) (.k 4096)) rfl [x,y]
theorem ydz {x y z:Nat}:x < z→x < y + (z - y):=lin 3 [.lt v0 v2] (.lt v0 (.a v1 (.s v2 v1))) rfl [x,y,z]
theorem jdz {x y z w u:Nat}:x=z - w→u=z - w→¬y < u→x≤y:=lin 5 [.eq v0 (.s v2 v3),.eq v4 (.s v2 v3),.no (.lt v1 v4)] (.le v0 v1) rfl [x,y,z,w,u]
theorem wdz {x y z:Nat}:y < z→z≤x→0 < x:=lin 3 [.lt v1 v2,.le v2 v0] (.lt k0 v0) rfl [x,y,z]
theorem qc1 {x y z:Nat}:y < z - x→z≤50→x≤1000:=lin 3 [.lt v1 (.s v2 v0),.le v2 (.k 50)] (.le v0 (.k 1000)) rfl [x,y,z]
theorem kc1 {x:Nat}:x≤50→x≤1000:=lin 1 [.le v0 (.k 50)] (.le v0 (.k 1000)) rfl [x]
theorem qdz {x y z:Nat}:y < z - x→z≤50→x + y≤1000:=lin 3 [.lt v1 (.s v2 v0),.le v2 (.k 50)] (.le (.a v0 v1) (.k 1000)) rfl [x,y,z]
theorem kdz {x y z w:Nat}:x < z + w→w < y - z→x < y:=lin 4 [.lt v0 (.a v2 v3),.lt v3 (.s v1 v2)] (.lt v0 v1) rfl [x,y,z,w]
theorem xdz {x y z:Nat}:y < z→z≤x→x≠0:=lin 3 [.lt v1 v2,.le v2 v0] (.no (.eq v0 k0)) rfl [x,y,z]
theorem xc1 {x y z w u v:Nat}:x + y < w→z=u - v→w=u - v→x + y < z:=lin 6 [.lt (.a v0 v1) v3,.eq v2 (.s v4 v5),.eq v3 (.s v4 v5)] (.lt (.a v0 v1) v2) rfl [x,y,z,w,u,v]
theorem gdz {x y z:Nat}:¬z=x + y→x + y≠z:=lin 3 [.no (.eq v2 (.a v0 v1))] (.no (.eq (.a v0 v1) v2)) rfl [x,y,z]
theorem zd0 {x y z:Nat}:x < y + (z + 1)→¬x=y + z→x < y + z:=lin 3 [.lt v0 (.a v1 (.a v2 k1)),.no (.eq v0 (.a v1 v2))] (.lt v0 (.a v1 v2)) rfl [x,y,z]
theorem yd0 {x y:Nat}:x < y + 0→y≤x→False:=lin 2 [.lt v0 (.a v1 k0),.le v1 v0] .f rfl [x,y]
theorem nL45 {x:Int}:0≤x∧x < 1000000→-1000000≤x∧x≤1000000:=by lia
theorem jd0 {x y z:Nat}:y + x=z→y=z→x=0:=lin 3 [.eq (.a v1 v0) v2,.eq v1 v2] (.eq v0 k0) rfl [x,y,z]
theorem wd0 {x:Nat}:¬x=0→1≤x:=lin 1 [.no (.eq v0 k0)] (.le k1 v0) rfl [x]
theorem qd0 {x y z:Nat}:x + z=y→¬x=y→x < y:=lin 3 [.eq (.a v0 v2) v1,.no (.eq v0 v1)] (.lt v0 v1) rfl [x,y,z]
theorem kd0 {x y z:Nat}:x + z=y→x≤y:=lin 3 [.eq (.a v0 v2) v1] (.le v0 v1) rfl [x,y,z]
theorem xd0 {x y:Nat}:x + 1 + 1 + y=1→False:=lin 2 [.eq (.a (.a (.a v0 k1) k1) v1) k1] .f rfl [x,y]
theorem gd0 {x y:Nat}:x + y=0→x=0:=lin 2 [.eq (.a v0 v1) k0] (.eq v0 k0) rfl [x,y]
theorem zd1 {x y:Nat}:y + x=0→x=0:=lin 2 [.eq (.a v1 v0) k0] (.eq v0 k0) rfl [x,y]
theorem nL47 {x y z:Int}:x≤z→z≤y→x≤y:=by lia
theorem yd1 {x y z w:Nat}:w + y=z + 1→w=x + 1→x + y=z:=lin 4 [.eq (.a v3 v1) (.a v2 k1),.eq v3 (.a v0 k1)] (.eq (.a v0 v1) v2) rfl [x,y,z,w]
theorem jd1 {x y z w:Nat}:x + w=z + 1→w=y + 1→x + y=z:=lin 4 [.eq (.a v0 v3) (.a v2 k1),.eq v3 (.a v1 k1)] (.eq (.a v0 v1) v2) rfl [x,y,z,w]
theorem wd1 {x:Nat}:x≤50→x < 64:=lin 1 [.le v0 (.k 50)] (.lt v0 (.k 64)) rfl [x]
theorem qd1 {x:Nat}:x≤50→x - 1 - 0 < 4096:=lin 1 [.le v0 (.k 50)] (.lt (.s (.s v0 k1) k0) (.k 4096)) rfl [x]
theorem kd1 {x:Nat}:1≤1 + x:=lin 1 [] (.le k1 (.a k1 v0)) rfl [x]
theorem xd1 {x y:Nat}:x < y - 1→1 + x < y:=lin 2 [.lt v0 (.s v1 k1)] (.lt (.a k1 v0) v1) rfl [x,y]
theorem gd1 {x y:Nat}:x < 1 + (y + 1)→¬x=1 + y→x < 1 + y:=lin 2 [.lt v0 (.a k1 (.a v1 k1)),.no (.eq v0 (.a k1 v1))] (.lt v0 (.a k1 v1)) rfl [x,y]
theorem nL5 {x y z:Nat}:x + 1000 + 10 * (y + 1) < z→x + 3 + 1000 + 10 * y < z:=lin 3 [.lt (.a (.a v0 (.k 1000)) (.m 10 (.a v1 k1))) v2] (.lt (.a (.a (.a v0 k3) (.k 1000)) (.m 10 v1)) v2) rfl [x,y,z]
theorem nL50 {x y z:Nat}:x + 1000 + 10 * z < y→x + 1000 < y:=lin 3 [.lt (.a (.a v0 (.k 1000)) (.m 10 v2)) v1] (.lt (.a v0 (.k 1000)) v1) rfl [x,y,z]
theorem zd2 {x y:Nat}:x + 1 < y + 1→x < y:=lin 2 [.lt (.a v0 k1) (.a v1 k1)] (.lt v0 v1) rfl [x,y]
theorem gc1 {x:Nat}:x=Int.toNat ((x:Int) - 0):=by lia
theorem zc2 {x:Nat}:4≤x∧x≤12→x≤100:=lin 1 [.an (.le (.k 4) v0) (.le v0 (.k 12))] (.le v0 (.k 100)) rfl [x]
theorem yd2 {x:Nat}:4≤x∧x≤12→x < 4096:=lin 1 [.an (.le (.k 4) v0) (.le v0 (.k 12))] (.lt v0 (.k 4096)) rfl [x]
theorem nL51 {x y z:Nat}:x=301→y≤600→z=1000→x + y < z:=lin 3 [.eq v0 (.k 301),.le v1 (.k 600),.eq v2 (.k 1000)] (.lt (.a v0 v1) v2) rfl [x,y,z]
theorem jd2 {x y:Nat}:4≤y∧y≤12→x < y→x≤100:=lin 2 [.an (.le (.k 4) v1) (.le v1 (.k 12)),.lt v0 v1] (.le v0 (.k 100)) rfl [x,y]
theorem wd2 {x y:Nat}:4≤y∧y≤12→x < y→x < 4096:=lin 2 [.an (.le (.k 4) v1) (.le v1 (.k 12)),.lt v0 v1] (.lt v0 (.k 4096)) rfl [x,y]
theorem wbs {x:Nat}:¬x < x:=lin 1 [] (.no (.lt v0 v0)) rfl [x]
theorem nL52 {x y z:Nat}:x=4→y≤600→z=9900→x + 1000 + 10 * y < z:=lin 3 [.eq v0 (.k 4),.le v1 (.k 600),.eq v2 (.k 9900)] (.lt (.a (.a v0 (.k 1000)) (.m 10 v1)) v2) rfl [x,y,z]
theorem qd2 {x y z w:Nat}:x≤z→z≤w→w≤y→x≤y:=lin 4 [.le v0 v2,.le v2 v3,.le v3 v1] (.le v0 v1) rfl [x,y,z,w]
theorem kd2 {x y z w:Nat}:y < z→z≤w→w≤x→x≠y:=lin 4 [.lt v1 v2,.le v2 v3,.le v3 v0] (.no (.eq v0 v1)) rfl [x,y,z,w]
theorem xd2 {x:Nat}:0 < x∧x≤200→x - 0 < 4096:=lin 1 [.an (.lt k0 v0) (.le v0 (.k 200))] (.lt (.s v0 k0) (.k 4096)) rfl [x]
theorem nL53 {x:Nat}:x≤63→x≤1000000:=lin 1 [.le v0 (.k 63)] (.le v0 (.k 1000000)) rfl [x]
theorem wcd {x y:Nat}:x≠y→y≤x→x≠0:=lin 2 [.no (.eq v0 v1),.le v1 v0] (.no (.eq v0 k0)) rfl [x,y]
theorem gd2 {x:Nat}:4≤x∧x≤12→x - 0 < 4096:=lin 1 [.an (.le (.k 4) v0) (.le v0 (.k 12))] (.lt (.s v0 k0) (.k 4096)) rfl [x]
theorem nL54 {x y:Nat}:x≤1000000→y≤1000000→x + y≤16777216 + 1:=lin 2 [.le v0 (.k 1000000),.le v1 (.k 1000000)] (.le (.a v0 v1) (.a (.k 16777216) k1)) rfl [x,y]
theorem yc2 {x y z w:Nat}:y < w - x→z=w→x + y < z:=lin 4 [.lt v1 (.s v3 v0),.eq v2 v3] (.lt (.a v0 v1) v2) rfl [x,y,z,w]
theorem nL55 {x y z:Nat}:x≤1000000→y≤1000000→z=16777216→¬x + y > z:=lin 3 [.le v0 (.k 1000000),.le v1 (.k 1000000),.eq v2 (.k 16777216)] (.no (.lt v2 (.a v0 v1))) rfl [x,y,z]
theorem zd3 {x y z:Nat}:¬z < x - y→x - y≤z:=lin 3 [.no (.lt v2 (.s v0 v1))] (.le (.s v0 v1) v2) rfl [x,y,z]
theorem yd3 {x y z w:Nat}:x=w→¬z < w - y→x≤y + z:=lin 4 [.eq v0 v3,.no (.lt v2 (.s v3 v1))] (.le v0 (.a v1 v2)) rfl [x,y,z,w]
theorem nL56 {x y z:Nat}:x < z→z < y→x < y:=lin 3 [.lt v0 v2,.lt v2 v1] (.lt v0 v1) rfl [x,y,z]
theorem jd3 {x:Nat}:2≤x→x=x - 1 + 1:=lin 1 [.le k2 v0] (.eq v0 (.a (.s v0 k1) k1)) rfl [x]
theorem jc2 {x y z:Nat}:x=y - z→y≤50→x≤1000:=lin 3 [.eq v0 (.s v1 v2),.le v1 (.k 50)] (.le v0 (.k 1000)) rfl [x,y,z]
theorem wc2 {x y z w:Nat}:y=z - w→z≤50→min (Int.toNat (x:Int)) y < 64:=by omega
theorem nL57 {x y z:Nat}:x≤z→z≤y→x≤y:=lin 3 [.le v0 v2,.le v2 v1] (.le v0 v1) rfl [x,y,z]
theorem wd3 {x y z:Nat}:y≤50→min x (y - (z + 1))≤50:=lin 3 [.le v1 (.k 50)] (.le (.mn v0 (.s v1 (.a v2 k1))) (.k 50)) rfl [x,y,z]
theorem qd3 {x:Nat}:1 < x→0 < x:=lin 1 [.lt k1 v0] (.lt k0 v0) rfl [x]
theorem kd3 {x:Nat}:x≤50→x < 4096:=lin 1 [.le v0 (.k 50)] (.lt v0 (.k 4096)) rfl [x]
theorem xd3 {x:Nat}:x≤50→x < 1000000:=lin 1 [.le v0 (.k 50)] (.lt v0 (.k 1000000)) rfl [x]
theorem gd3 {x:Nat}:x≤50→x - 0 < 4096:=lin 1 [.le v0 (.k 50)] (.lt (.s v0 k0) (.k 4096)) rfl [x]
theorem zd4 {x:Nat}:1 < x→x≠0:=lin 1 [.lt k1 v0] (.no (.eq v0 k0)) rfl [x]
theorem yd4 {x:Nat}:1 < x→x≠1:=lin 1 [.lt k1 v0] (.no (.eq v0 k1)) rfl [x]
theorem nL58 {x y z:Nat}:x < z→z≤y→x < y:=lin 3 [.lt v0 v2,.le v2 v1] (.lt v0 v1) rfl [x,y,z]
theorem xbb {x y:Nat}:x=y→y≤50→x≤50:=lin 2 [.eq v0 v1,.le v1 (.k 50)] (.le v0 (.k 50)) rfl [x,y]
theorem jd4 {x y z:Nat}:x < y→y=z→z≤50→x + 1≤1000:=lin 3 [.lt v0 v1,.eq v1 v2,.le v2 (.k 50)] (.le (.a v0 k1) (.k 1000)) rfl [x,y,z]
theorem wd4 {x y:Nat}:1 < y→y≤x→0 < x:=lin 2 [.lt k1 v1,.le v1 v0] (.lt k0 v0) rfl [x,y]
theorem qd4 {x y z w:Nat}:z + w≤y→x≤z→x≤y:=lin 4 [.le (.a v2 v3) v1,.le v0 v2] (.le v0 v1) rfl [x,y,z,w]
theorem kd4 {x:Nat}:x≤12→x - 0 < 4096:=lin 1 [.le v0 (.k 12)] (.lt (.s v0 k0) (.k 4096)) rfl [x]
theorem xd4 {x y z:Nat}:x < z→z≤y→x≠y:=lin 3 [.lt v0 v2,.le v2 v1] (.no (.eq v0 v1)) rfl [x,y,z]
theorem gd4 {x:Nat}:2≤x→1 < x:=lin 1 [.le k2 v0] (.lt k1 v0) rfl [x]
theorem nL59 {x y z w:Nat}:z≤w→w≤y→¬(x≤y∧y < z):=lin 4 [.le v2 v3,.le v3 v1] (.no (.an (.le v0 v1) (.lt v1 v2))) rfl [x,y,z,w]
theorem zd5 {x y z:Nat}:2≤y→y < z→z≤x→1 < x:=lin 3 [.le k2 v1,.lt v1 v2,.le v2 v0] (.lt k1 v0) rfl [x,y,z]
theorem qc2 {x:Nat}:x≤12→x≤50:=lin 1 [.le v0 (.k 12)] (.le v0 (.k 50)) rfl [x]
theorem nL6 {x y z w:Nat}:x + w < z→y≤w→x + y < z:=lin 4 [.lt (.a v0 v3) v2,.le v1 v3] (.lt (.a v0 v1) v2) rfl [x,y,z,w]
theorem nL60 {x y z w u:Nat}:x≤z∧z < y→y≤u→u≤w→x + y - 1 - z < w:=lin 5 [.an (.le v0 v2) (.lt v2 v1),.le v1 v4,.le v4 v3] (.lt (.s (.s (.a v0 v1) k1) v2) v3) rfl [x,y,z,w,u]
theorem nL61 {x y z w:Nat}:x≤z∧z < y→y≤w→x + y - 1 - z < w:=lin 4 [.an (.le v0 v2) (.lt v2 v1),.le v1 v3] (.lt (.s (.s (.a v0 v1) k1) v2) v3) rfl [x,y,z,w]
theorem nL62 {x y z:Nat}:x + (z + 1)≤y→x < y:=lin 3 [.le (.a v0 (.a v2 k1)) v1] (.lt v0 v1) rfl [x,y,z]
theorem nL63 {x y z:Nat}:x + (z + 1)≤y→x - 1 < y:=lin 3 [.le (.a v0 (.a v2 k1)) v1] (.lt (.s v0 k1) v1) rfl [x,y,z]
theorem nL64 {x:Nat}:1≤x→x - 1 < x:=lin 1 [.le k1 v0] (.lt (.s v0 k1) v0) rfl [x]
theorem nL65 {x y z:Nat}:x < z→y=z→x < y:=lin 3 [.lt v0 v2,.eq v1 v2] (.lt v0 v1) rfl [x,y,z]
theorem kc2:(0:Int)≤(0:Int):=by lia
theorem xc2:¬-(1:Int) > (0:Int):=by omega
theorem gc2 : -(1000000:Int)≤(0:Int)∧(0:Int)≤(1000000:Int):=by lia
theorem zc3 : -(1000000:Int)≤-(1:Int)∧-(1:Int)≤(1000000:Int):=by lia
theorem yc3:0≤1:=lin 0 [] (.le k0 k1) rfl []
theorem jc3 : -(1000000000:Int) < (2:Int)∧(2:Int) < (1000000000:Int):=by lia
theorem nL66 {x y z:Nat}:x + (z + 1)≤y→x≤y:=lin 3 [.le (.a v0 (.a v2 k1)) v1] (.le v0 v1) rfl [x,y,z]
theorem qbs:(0:Int) < (2:Int)∧(2:Int) < (1000000000:Int):=by lia
theorem yd5:2≤5:=lin 0 [] (.le k2 (.k 5)) rfl []
theorem wc3:(0:Int) < (1:Int):=by omega
theorem qc3:3≤1000000:=lin 0 [] (.le k3 (.k 1000000)) rfl []
theorem jd5:2≤2:=lin 0 [] (.le k2 k2) rfl []
theorem qcd : -(100000:Int)≤(0:Int)∧(0:Int)≤(100000:Int):=by lia
theorem jar:(0:Int) < (1:Int)∧(1:Int)≤(100000:Int):=by lia
theorem nL67 {x y z w:Nat}:z + (w + 1)≤y→x < z→x < y:=lin 4 [.le (.a v2 (.a v3 k1)) v1,.lt v0 v2] (.lt v0 v1) rfl [x,y,z,w]
theorem nL68 {x y z w:Nat}:z + (w + 1)≤y→x=z→x < y:=lin 4 [.le (.a v2 (.a v3 k1)) v1,.eq v0 v2] (.lt v0 v1) rfl [x,y,z,w]
theorem kc3 {x:Nat}:x≤50→-(100000:Int)≤(x:Int)∧(x:Int)≤(100000:Int):=by lia
theorem xc3 {x:Nat}:x - 1=Int.toNat ((x:Int) - (1:Int)):=by omega
theorem nL69 {x y:Nat}:x < y→¬x=y - 1→x < y - 1:=lin 2 [.lt v0 v1,.no (.eq v0 (.s v1 k1))] (.lt v0 (.s v1 k1)) rfl [x,y]
theorem gc3 {x:Nat}:4≤x∧x≤12→(0:Int)≤(x:Int) - (1:Int):=by lia
theorem nL7 {x y z w:Nat}:x + 1000 + 10 * w < z→y≤w→x + 1000 + 10 * y < z:=lin 4 [.lt (.a (.a v0 (.k 1000)) (.m 10 v3)) v2,.le v1 v3] (.lt (.a (.a v0 (.k 1000)) (.m 10 v1)) v2) rfl [x,y,z,w]
theorem nL70 {x y:Nat}:y < x→x - 1 < x:=lin 2 [.lt v1 v0] (.lt (.s v0 k1) v0) rfl [x,y]
theorem zc4 {x:Nat}:4≤x∧x≤12→(0:Int) < (x:Int) + (1:Int)∧(x:Int) + (1:Int) < (1000000000:Int):=by omega
theorem nL71 {x:Nat}:1≤x + 1:=lin 1 [] (.le k1 (.a v0 k1)) rfl [x]
theorem yc4 {x:Int} {y z:Nat}:((y + 1:Nat):Int)≤x∧x < (z:Int)→(0:Int)≤x:=by lia
theorem nL72 {x y z:Nat}:x + (y + 1)≤z→x + 1 + y≤z:=lin 3 [.le (.a v0 (.a v1 k1)) v2] (.le (.a (.a v0 k1) v1) v2) rfl [x,y,z]
theorem nL73 {x y:Nat}:x + 1≤y→x≤y:=lin 2 [.le (.a v0 k1) v1] (.le v0 v1) rfl [x,y]
theorem nL74 {x y z:Nat}:x≤y + 1 + z→x≤y + (z + 1):=lin 3 [.le v0 (.a (.a v1 k1) v2)] (.le v0 (.a v1 (.a v2 k1))) rfl [x,y,z]
theorem nL75 {x y z:Nat}:x < y + (z + 1)→x < y + 1 + z:=lin 3 [.lt v0 (.a v1 (.a v2 k1))] (.lt v0 (.a (.a v1 k1) v2)) rfl [x,y,z]
theorem nL76 {x y z:Nat}:x≤z→y=z→x≤y:=lin 3 [.le v0 v2,.eq v1 v2] (.le v0 v1) rfl [x,y,z]
theorem nL77 {x y z w:Nat}:x - (y + 1)≤w→w < z→x - (y + 1)≤z:=lin 4 [.le (.s v0 (.a v1 k1)) v3,.lt v3 v2] (.le (.s v0 (.a v1 k1)) v2) rfl [x,y,z,w]
theorem nL78 {x y z:Nat}:z < x→x - (y + 1)≤x - (y + 1) + x - 1 - z:=lin 3 [.lt v2 v0] (.le (.s v0 (.a v1 k1)) (.s (.s (.a (.s v0 (.a v1 k1)) v0) k1) v2)) rfl [x,y,z]
theorem nL79 {x y z w:Nat}:z < x→w < z→x - (y + 1) + x - 1 - z < x - (y + 1) + x - 1 - w:=lin 4 [.lt v2 v0,.lt v3 v2] (.lt (.s (.s (.a (.s v0 (.a v1 k1)) v0) k1) v2) (.s (.s (.a (.s v0 (.a v1 k1)) v0) k1) v3)) rfl [x,y,z,w]
theorem nL8 {x y z:Nat}:x + (z + 1) < y→x < y:=lin 3 [.lt (.a v0 (.a v2 k1)) v1] (.lt v0 v1) rfl [x,y,z]
theorem nL80 {x y z w:Nat}:x - (y + 1)≤z→w < x→x - (y + 1) + x - 1 - z < x:=lin 4 [.le (.s v0 (.a v1 k1)) v2,.lt v3 v0] (.lt (.s (.s (.a (.s v0 (.a v1 k1)) v0) k1) v2) v0) rfl [x,y,z,w]
theorem nL81 {x y z:Nat}:¬x - (y + 1)≤z→¬(x - (y + 1)≤z∧z < x):=lin 3 [.no (.le (.s v0 (.a v1 k1)) v2)] (.no (.an (.le (.s v0 (.a v1 k1)) v2) (.lt v2 v0))) rfl [x,y,z]
theorem nL82 {x y z:Nat}:¬y - (z + 1)≤x→x < y - (z + 1):=lin 3 [.no (.le (.s v1 (.a v2 k1)) v0)] (.lt v0 (.s v1 (.a v2 k1))) rfl [x,y,z]
theorem nL83 {x y z w:Nat}:x - (y + 1)≤z→¬x - (y + 1)≤w→x - (y + 1) + x - 1 - z < x:=lin 4 [.le (.s v0 (.a v1 k1)) v2,.no (.le (.s v0 (.a v1 k1)) v3)] (.lt (.s (.s (.a (.s v0 (.a v1 k1)) v0) k1) v2) v0) rfl [x,y,z,w]
theorem nL84 {x y:Nat}:x < y - 1→x < y - (0 + 1):=lin 2 [.lt v0 (.s v1 k1)] (.lt v0 (.s v1 (.a k0 k1))) rfl [x,y]
theorem nL85 {x y z:Nat}:x < z→z < y→x < y - (0 + 1):=lin 3 [.lt v0 v2,.lt v2 v1] (.lt v0 (.s v1 (.a k0 k1))) rfl [x,y,z]
theorem nL86 {x y:Nat}:¬y < x - 1→x - (0 + 1)≤y:=lin 2 [.no (.lt v1 (.s v0 k1))] (.le (.s v0 (.a k0 k1)) v1) rfl [x,y]
theorem nL87 {x:Nat}:0 + 1≤x + 1:=lin 1 [] (.le (.a k0 k1) (.a v0 k1)) rfl [x]
theorem nL88 {x y:Nat}:x < y + 1 - (0 + 1)→x < y:=lin 2 [.lt v0 (.s (.a v1 k1) (.a k0 k1))] (.lt v0 v1) rfl [x,y]
theorem nL89 {x y:Nat}:y + 1 - (0 + 1)≤x→x < y + 1→x=y:=lin 2 [.le (.s (.a v1 k1) (.a k0 k1)) v0,.lt v0 (.a v1 k1)] (.eq v0 v1) rfl [x,y]
theorem nL90 {x y z:Nat}:x + 1 - (0 + 1)≤y→y < z→z < x + 1→False:=lin 3 [.le (.s (.a v0 k1) (.a k0 k1)) v1,.lt v1 v2,.lt v2 (.a v0 k1)] .f rfl [x,y,z]
theorem nL91 {x y z:Nat}:x + (z + 1)=y→x < y:=lin 3 [.eq (.a v0 (.a v2 k1)) v1] (.lt v0 v1) rfl [x,y,z]
theorem nL92 {x y z:Nat}:x + (z + 1)=y→x - 1 < y:=lin 3 [.eq (.a v0 (.a v2 k1)) v1] (.lt (.s v0 k1) v1) rfl [x,y,z]
theorem nL93 {x y z w u:Nat}:z + (w + 1)=y→x < z - (u + 1)→x < y:=lin 5 [.eq (.a v2 (.a v3 k1)) v1,.lt v0 (.s v2 (.a v4 k1))] (.lt v0 v1) rfl [x,y,z,w,u]
theorem nL94 {x y:Nat}:x - (y + 1)≤x - 1:=lin 2 [] (.le (.s v0 (.a v1 k1)) (.s v0 k1)) rfl [x,y]
theorem nL95 {x y z:Nat}:y < x - (z + 1)→x - 1 < x:=lin 3 [.lt v1 (.s v0 (.a v2 k1))] (.lt (.s v0 k1) v0) rfl [x,y,z]
theorem nL96 {x y z:Nat}:¬z < x - (y + 1)→x - (y + 1)≤z:=lin 3 [.no (.lt v2 (.s v0 (.a v1 k1)))] (.le (.s v0 (.a v1 k1)) v2) rfl [x,y,z]
theorem nL97 {x y z w:Nat}:z + (w + 1)=y→x=z→x < y:=lin 4 [.eq (.a v2 (.a v3 k1)) v1,.eq v0 v2] (.lt v0 v1) rfl [x,y,z,w]
theorem nL98 {x y z w:Nat}:z + (w + 1)=y→x < z→x < y:=lin 4 [.eq (.a v2 (.a v3 k1)) v1,.lt v0 v2] (.lt v0 v1) rfl [x,y,z,w]
theorem nL99 {x y z:Nat}:x + (z + 1)=y→x≤y:=lin 3 [.eq (.a v0 (.a v2 k1)) v1] (.le v0 v1) rfl [x,y,z]
end
section
theorem war {A:Sort _} {P Q R S:Prop} {T U:A→Prop} (p:P) (q:Q) (r:R) (s:S) (a:A) (t:T a) (u:U a):P∧Q∧R∧S∧∃ a,T a∧U a :=
 ⟨p,q,r,s,a,t,u⟩
theorem qh {A:Sort _} {P:Prop} {Q:A→Prop} (p:P) (a:A) (q:Q a):P∧∃ a,Q a :=
 ⟨p,a,q⟩
theorem jp {A:Sort _} {P:Prop} {Q R:A→Prop} (p:P) (a:A) (q:Q a) (r:R a):P∧∃ a,Q a∧R a :=
 ⟨p,a,q,r⟩
theorem zy {A:Sort _} {P:Prop} {Q R S:A→Prop} (p:P) (a:A) (q:Q a) (r:R a) (s:S a):P∧∃ a,Q a∧R a∧S a :=
 ⟨p,a,q,r,s⟩
theorem j5 {A B:Sort _} {P:Prop} {Q:A→B→Prop} (p:P) (a:A) (b:B) (q:Q a b):P∧∃ a b,Q a b :=
 ⟨p,a,b,q⟩
theorem w8 {A B:Sort _} {P:Prop} {Q R:A→B→Prop} (p:P) (a:A) (b:B) (q:Q a b) (r:R a b):P∧∃ a b,Q a b∧R a b :=
 ⟨p,a,b,q,r⟩
theorem x6 {A B:Sort _} {P:Prop} {Q R S T:A→B→Prop} (p:P) (a:A) (b:B) (q:Q a b) (r:R a b) (s:S a b) (t:T a b):P∧∃ a b,Q a b∧R a b∧S a b∧T a b :=
 ⟨p,a,b,q,r,s,t⟩
theorem ya8 {A B C:Sort _} {P:Prop} {Q:A→B→C→Prop} (p:P) (a:A) (b:B) (c:C) (q:Q a b c):P∧∃ a b c,Q a b c :=
 ⟨p,a,b,c,q⟩
theorem yy {A B C D:Sort _} {P:Prop} {Q R S T:A→B→C→D→Prop} (p:P) (a:A) (b:B) (c:C) (d:D) (q:Q a b c d) (r:R a b c d) (s:S a b c d) (t:T a b c d):P∧∃ a b c d,Q a b c d∧R a b c d∧S a b c d∧T a b c d :=
 ⟨p,a,b,c,d,q,r,s,t⟩
theorem ja {A:Sort _} {P Q:A→Prop} (a:A) (p:P a) (q:Q a):∃ a,P a∧Q a :=
 ⟨a,p,q⟩
theorem gc {A:Sort _} {P Q R:A→Prop} (a:A) (p:P a) (q:Q a) (r:R a):∃ a,P a∧Q a∧R a :=
 ⟨a,p,q,r⟩
theorem gu {A:Sort _} {P Q R S:A→Prop} (a:A) (p:P a) (q:Q a) (r:R a) (s:S a):∃ a,P a∧Q a∧R a∧S a :=
 ⟨a,p,q,r,s⟩
theorem w5 {A:Sort _} {P Q R S T:A→Prop} (a:A) (p:P a) (q:Q a) (r:R a) (s:S a) (t:T a):∃ a,P a∧Q a∧R a∧S a∧T a :=
 ⟨a,p,q,r,s,t⟩
theorem qar {A:Sort _} {P Q R S T U:A→Prop} (a:A) (p:P a) (q:Q a) (r:R a) (s:S a) (t:T a) (u:U a):∃ a,P a∧Q a∧R a∧S a∧T a∧U a :=
 ⟨a,p,q,r,s,t,u⟩
theorem kl {A B C D E F:Sort _} {P Q R:A→Prop} {S T U V W X Y Z:A→B→C→D→E→F→Prop} (a:A) (p:P a) (q:Q a) (r:R a) (b:B) (c:C) (d:D) (e:E) (f:F) (s:S a b c d e f) (t:T a b c d e f) (u:U a b c d e f) (v:V a b c d e f) (w:W a b c d e f) (x:X a b c d e f) (y:Y a b c d e f) (z:Z a b c d e f):∃ a,P a∧Q a∧R a∧∃ b c d e f,S a b c d e f∧T a b c d e f∧U a b c d e f∧V a b c d e f∧W a b c d e f∧X a b c d e f∧Y a b c d e f∧Z a b c d e f :=
 ⟨a,p,q,r,b,c,d,e,f,s,t,u,v,w,x,y,z⟩
theorem ja8 {A B:Sort _} {P Q:A→Prop} {R:A→B→Prop} (a:A) (p:P a) (q:Q a) (b:B) (r:R a b):∃ a,P a∧Q a∧∃ b,R a b :=
 ⟨a,p,q,b,r⟩
theorem kac {A B C:Sort _} {P Q:A→Prop} {R:A→B→C→Prop} (a:A) (p:P a) (q:Q a) (b:B) (c:C) (r:R a b c):∃ a,P a∧Q a∧∃ b c,R a b c :=
 ⟨a,p,q,b,c,r⟩
theorem jb7 {A B:Sort _} {P:A→Prop} {Q:A→B→Prop} (a:A) (p:P a) (b:B) (q:Q a b):∃ a,P a∧∃ b,Q a b :=
 ⟨a,p,b,q⟩
theorem kar {A B C:Sort _} {P:A→Prop} {Q R S:A→B→C→Prop} (a:A) (p:P a) (b:B) (c:C) (q:Q a b c) (r:R a b c) (s:S a b c):∃ a,P a∧∃ b c,Q a b c∧R a b c∧S a b c :=
 ⟨a,p,b,c,q,r,s⟩
theorem yaw {A B:Sort _} {P:A→B→Prop} (a:A) (b:B) (p:P a b):∃ a b,P a b :=
 ⟨a,b,p⟩
theorem yh {A B:Sort _} {P Q:A→B→Prop} (a:A) (b:B) (p:P a b) (q:Q a b):∃ a b,P a b∧Q a b :=
 ⟨a,b,p,q⟩
theorem gk {A B:Sort _} {P Q R:A→B→Prop} (a:A) (b:B) (p:P a b) (q:Q a b) (r:R a b):∃ a b,P a b∧Q a b∧R a b :=
 ⟨a,b,p,q,r⟩
theorem zn {A B:Sort _} {P Q R S:A→B→Prop} (a:A) (b:B) (p:P a b) (q:Q a b) (r:R a b) (s:S a b):∃ a b,P a b∧Q a b∧R a b∧S a b :=
 ⟨a,b,p,q,r,s⟩
theorem k8 {A B:Sort _} {P Q R S T U V W X:A→B→Prop} (a:A) (b:B) (p:P a b) (q:Q a b) (r:R a b) (s:S a b) (t:T a b) (u:U a b) (v:V a b) (w:W a b) (x:X a b):∃ a b,P a b∧Q a b∧R a b∧S a b∧T a b∧U a b∧V a b∧W a b∧X a b :=
 ⟨a,b,p,q,r,s,t,u,v,w,x⟩
theorem qa2 {A B C:Sort _} {P:A→B→C→Prop} (a:A) (b:B) (c:C) (p:P a b c):∃ a b c,P a b c :=
 ⟨a,b,c,p⟩
theorem gn {A B C:Sort _} {P Q:A→B→C→Prop} (a:A) (b:B) (c:C) (p:P a b c) (q:Q a b c):∃ a b c,P a b c∧Q a b c :=
 ⟨a,b,c,p,q⟩
theorem x5 {A B C:Sort _} {P Q R:A→B→C→Prop} (a:A) (b:B) (c:C) (p:P a b c) (q:Q a b c) (r:R a b c):∃ a b c,P a b c∧Q a b c∧R a b c :=
 ⟨a,b,c,p,q,r⟩
theorem zd {A B C:Sort _} {P Q R S:A→B→C→Prop} (a:A) (b:B) (c:C) (p:P a b c) (q:Q a b c) (r:R a b c) (s:S a b c):∃ a b c,P a b c∧Q a b c∧R a b c∧S a b c :=
 ⟨a,b,c,p,q,r,s⟩
theorem z6 {A B C D:Sort _} {P Q:A→B→C→D→Prop} (a:A) (b:B) (c:C) (d:D) (p:P a b c d) (q:Q a b c d):∃ a b c d,P a b c d∧Q a b c d :=
 ⟨a,b,c,d,p,q⟩
theorem zp {A B C D:Sort _} {P Q R S:A→B→C→D→Prop} (a:A) (b:B) (c:C) (d:D) (p:P a b c d) (q:Q a b c d) (r:R a b c d) (s:S a b c d):∃ a b c d,P a b c d∧Q a b c d∧R a b c d∧S a b c d :=
 ⟨a,b,c,d,p,q,r,s⟩
theorem jk {A B C D:Sort _} {P Q R S T:A→B→C→D→Prop} (a:A) (b:B) (c:C) (d:D) (p:P a b c d) (q:Q a b c d) (r:R a b c d) (s:S a b c d) (t:T a b c d):∃ a b c d,P a b c d∧Q a b c d∧R a b c d∧S a b c d∧T a b c d :=
 ⟨a,b,c,d,p,q,r,s,t⟩
theorem jn {A B C D:Sort _} {P Q R S T U V W:A→B→C→D→Prop} (a:A) (b:B) (c:C) (d:D) (p:P a b c d) (q:Q a b c d) (r:R a b c d) (s:S a b c d) (t:T a b c d) (u:U a b c d) (v:V a b c d) (w:W a b c d):∃ a b c d,P a b c d∧Q a b c d∧R a b c d∧S a b c d∧T a b c d∧U a b c d∧V a b c d∧W a b c d :=
 ⟨a,b,c,d,p,q,r,s,t,u,v,w⟩
end
section
theorem kd {P Q G:Prop} (h:P∧Q) (k:P→Q→G):G:=by
 obtain  ⟨p,q⟩:=h;exact k p q
theorem yt {P Q R G:Prop} (h:P∧Q∧R) (k:P→Q→R→G):G:=by
 obtain  ⟨p,q,r⟩:=h;exact k p q r
theorem xj {P Q R S G:Prop} (h:P∧Q∧R∧S) (k:P→Q→R→S→G):G:=by
 obtain  ⟨p,q,r,s⟩:=h;exact k p q r s
theorem xl {A:Sort _} {P:Prop} {Q:A→Prop} {G:Prop} (h:P∧∃ a,Q a) (k:P→∀ a,Q a→G):G:=by
 obtain  ⟨p,b,q⟩:=h;exact k p b q
theorem ybh {A:Sort _} {P:Prop} {Q R:A→Prop} {G:Prop} (h:P∧∃ a,Q a∧R a) (k:P→∀ a,Q a→R a→G):G:=by
 obtain  ⟨p,b,q,r⟩:=h;exact k p b q r
theorem xar {A:Sort _} {P:Prop} {Q R S:A→Prop} {G:Prop} (h:P∧∃ a,Q a∧R a∧S a) (k:P→∀ a,Q a→R a→S a→G):G:=by
 obtain  ⟨p,b,q,r,s⟩:=h;exact k p b q r s
theorem jy {A B:Sort _} {P:Prop} {Q R:A→B→Prop} {G:Prop} (h:P∧∃ a b,Q a b∧R a b) (k:P→∀ a b,Q a b→R a b→G):G:=by
 obtain  ⟨p,b,c,q,r⟩:=h;exact k p b c q r
theorem qu {A B:Sort _} {P:Prop} {Q R S:A→B→Prop} {G:Prop} (h:P∧∃ a b,Q a b∧R a b∧S a b) (k:P→∀ a b,Q a b→R a b→S a b→G):G:=by
 obtain  ⟨p,b,c,q,r,s⟩:=h;exact k p b c q r s
theorem yaf {A B:Sort _} {P:Prop} {Q R S T:A→B→Prop} {G:Prop} (h:P∧∃ a b,Q a b∧R a b∧S a b∧T a b) (k:P→∀ a b,Q a b→R a b→S a b→T a b→G):G:=by
 obtain  ⟨p,b,c,q,r,s,t⟩:=h;exact k p b c q r s t
theorem jt {A B C D:Sort _} {P:Prop} {Q R S T:A→B→C→D→Prop} {G:Prop} (h:P∧∃ a b c d,Q a b c d∧R a b c d∧S a b c d∧T a b c d) (k:P→∀ a b c d,Q a b c d→R a b c d→S a b c d→T a b c d→G):G:=by
 obtain  ⟨p,b,c,d,e,q,r,s,t⟩:=h;exact k p b c d e q r s t
theorem qb {A:Sort _} {P:A→Prop} {G:Prop} (h:∃ a,P a) (k:∀ a,P a→G):G:=by
 obtain  ⟨b,p⟩:=h;exact k b p
theorem ya {A:Sort _} {P Q:A→Prop} {G:Prop} (h:∃ a,P a∧Q a) (k:∀ a,P a→Q a→G):G:=by
 obtain  ⟨b,p,q⟩:=h;exact k b p q
theorem yd {A:Sort _} {P Q R:A→Prop} {G:Prop} (h:∃ a,P a∧Q a∧R a) (k:∀ a,P a→Q a→R a→G):G:=by
 obtain  ⟨b,p,q,r⟩:=h;exact k b p q r
theorem zf {A B C D E F:Sort _} {P Q R:A→Prop} {S T U V W X Y Z:A→B→C→D→E→F→Prop} {G:Prop} (h:∃ a,P a∧Q a∧R a∧∃ b c d e f,S a b c d e f∧T a b c d e f∧U a b c d e f∧V a b c d e f∧W a b c d e f∧X a b c d e f∧Y a b c d e f∧Z a b c d e f) (k:∀ a,P a→Q a→R a→∀ b c d e f,S a b c d e f→T a b c d e f→U a b c d e f→V a b c d e f→W a b c d e f→X a b c d e f→Y a b c d e f→Z a b c d e f→G):G:=by
 obtain  ⟨b,p,q,r,c,d,e,f,i,s,t,u,v,w,x,y,z⟩:=h;exact k b p q r c d e f i s t u v w x y z
theorem zv {A B:Sort _} {P Q:A→Prop} {R:A→B→Prop} {G:Prop} (h:∃ a,P a∧Q a∧∃ b,R a b) (k:∀ a,P a→Q a→∀ b,R a b→G):G:=by
 obtain  ⟨b,p,q,c,r⟩:=h;exact k b p q c r
theorem yak {A B:Sort _} {P Q:A→Prop} {R S:A→B→Prop} {G:Prop} (h:∃ a,P a∧Q a∧∃ b,R a b∧S a b) (k:∀ a,P a→Q a→∀ b,R a b→S a b→G):G:=by
 obtain  ⟨b,p,q,c,r,s⟩:=h;exact k b p q c r s
theorem ka2 {A B:Sort _} {P:A→Prop} {Q:A→B→Prop} {G:Prop} (h:∃ a,P a∧∃ b,Q a b) (k:∀ a,P a→∀ b,Q a b→G):G:=by
 obtain  ⟨b,p,c,q⟩:=h;exact k b p c q
theorem qah {A B:Sort _} {P:A→B→Prop} {G:Prop} (h:∃ a b,P a b) (k:∀ a b,P a b→G):G:=by
 obtain  ⟨b,c,p⟩:=h;exact k b c p
theorem jm {A B:Sort _} {P Q:A→B→Prop} {G:Prop} (h:∃ a b,P a b∧Q a b) (k:∀ a b,P a b→Q a b→G):G:=by
 obtain  ⟨b,c,p,q⟩:=h;exact k b c p q
theorem yc {A B:Sort _} {P Q R:A→B→Prop} {G:Prop} (h:∃ a b,P a b∧Q a b∧R a b) (k:∀ a b,P a b→Q a b→R a b→G):G:=by
 obtain  ⟨b,c,p,q,r⟩:=h;exact k b c p q r
theorem ym {A B:Sort _} {P Q R S:A→B→Prop} {G:Prop} (h:∃ a b,P a b∧Q a b∧R a b∧S a b) (k:∀ a b,P a b→Q a b→R a b→S a b→G):G:=by
 obtain  ⟨b,c,p,q,r,s⟩:=h;exact k b c p q r s
theorem wm {A B C:Sort _} {P Q:A→B→C→Prop} {G:Prop} (h:∃ a b c,P a b c∧Q a b c) (k:∀ a b c,P a b c→Q a b c→G):G:=by
 obtain  ⟨b,c,d,p,q⟩:=h;exact k b c d p q
theorem yk {A B C:Sort _} {P Q R:A→B→C→Prop} {G:Prop} (h:∃ a b c,P a b c∧Q a b c∧R a b c) (k:∀ a b c,P a b c→Q a b c→R a b c→G):G:=by
 obtain  ⟨b,c,d,p,q,r⟩:=h;exact k b c d p q r
theorem ze {A B C:Sort _} {P Q R S:A→B→C→Prop} {G:Prop} (h:∃ a b c,P a b c∧Q a b c∧R a b c∧S a b c) (k:∀ a b c,P a b c→Q a b c→R a b c→S a b c→G):G:=by
 obtain  ⟨b,c,d,p,q,r,s⟩:=h;exact k b c d p q r s
theorem zh {A B C:Sort _} {P Q R S T:A→B→C→Prop} {G:Prop} (h:∃ a b c,P a b c∧Q a b c∧R a b c∧S a b c∧T a b c) (k:∀ a b c,P a b c→Q a b c→R a b c→S a b c→T a b c→G):G:=by
 obtain  ⟨b,c,d,p,q,r,s,t⟩:=h;exact k b c d p q r s t
theorem ku {A B C D:Sort _} {P Q:A→B→C→D→Prop} {G:Prop} (h:∃ a b c d,P a b c d∧Q a b c d) (k:∀ a b c d,P a b c d→Q a b c d→G):G:=by
 obtain  ⟨b,c,d,e,p,q⟩:=h;exact k b c d e p q
theorem ql {A B C D:Sort _} {P Q R S:A→B→C→D→Prop} {G:Prop} (h:∃ a b c d,P a b c d∧Q a b c d∧R a b c d∧S a b c d) (k:∀ a b c d,P a b c d→Q a b c d→R a b c d→S a b c d→G):G:=by
 obtain  ⟨b,c,d,e,p,q,r,s⟩:=h;exact k b c d e p q r s
end
section
theorem wrap {P:Prop} (h:∀ G:Prop,(P→G)→G):P:=h P id
theorem zc9 {k n:Nat}:(max 0 (min (k:Int) n)).toNat=min k n:=by
 rcases Nat.le_total k n with h | h
 ·simp only [Nat.min_eq_left h,Int.min_eq_left (Int.ofNat_le.mpr h),Int.max_eq_right (Int.natCast_nonneg k),Int.toNat_natCast]
 ·simp only [Nat.min_eq_right h,Int.min_eq_right (Int.ofNat_le.mpr h),Int.max_eq_right (Int.natCast_nonneg n),Int.toNat_natCast]
end
section
inductive V where
 | none
 | bool (b:Bool)
 | int (i:Int)
 | str (x:Str)
 | tup (vs:List V)
 | obj (l:Nat)
 | fn (x:String)
 | rng (a b c:Int)
 deriving Inhabited
inductive Cel where
 | lst (vs:List V)
 | set (ns:List Int)
 | itr (l i:Nat) (d:Bool)
 | opq
 | tab
 | clo (k:Nat) (cap:List V)
 deriving Inhabited
noncomputable abbrev gb:=List Cel
structure LamRec where
 args:Arguments
 body:Expr
 scope:Scope
 caps:List String
structure Exc where
 cls:String
 msg:Str
structure S where
 st:gb
 lo:String→Option V
inductive Res (σ α:Type) where
 | ok (a:α) (s:σ)
 | exc (e:Exc) (s:σ)
 | stuck
noncomputable abbrev M (α:Type):=S→Res S α
namespace M
variable {α β:Type}
@[simp] noncomputable def pure (a:α):M α:=fun σ=>.ok a σ
@[simp] noncomputable def bind (m:M α) (f:α→M β):M β:=fun σ=>match m σ with
 | .ok a σ'=>f a σ'
 | .exc e σ'=>.exc e σ'
 | .stuck=>.stuck
noncomputable instance:Monad M where
 pure:=M.pure
 bind:=M.bind
theorem bind_def (m:M α) (f:α→M β) (σ:S):(m >>= f) σ=(match m σ with
 | .ok a σ'=>f a σ'
 | .exc e σ'=>.exc e σ'
 | .stuck=>.stuck):=rfl
theorem bind_ok {m:M α} {f:α→M β} {σ σ':S} {a:α} (h:m σ = .ok a σ'):(m >>= f) σ=f a σ':=by rw [bind_def,h]
end M
noncomputable def stuck {α:Type}:M α:=fun _=>.stuck
structure TopM (p:Program) (mg mb:Str→Option Value) (lamIn:Str) (tabP:Addr) (h:Heap):Prop where
 g:h.Ns mainGlobals mg
 b:h.Ns builtinsNs mb
 nolimit:h.NoLimit
 fn:∀ d∈recsOf p,∃ a o pm code doc,mg d.name=some (.ref a)∧h.get? a=some o∧o.data = .func (Calls.docDef d.name d.params d.body d.scope pm code doc)∧h.CodeRec code d.name∧(d.name=lamIn→∃ c,code = .ref c∧CodeHd h c tabP)
 dfn:TopD p mg h
 builtins:∀ x:Str,x ≠ "__name__" → mb x=bootBuiltins x
 bmain:∃ bm ob,mg "__builtins__" = some (.ref bm)∧bm≠builtinsNs∧h.get? bm=some ob∧ob.cls = .type "module" ∧ ob.dict=some builtinsNs∧ob.data = .plain
structure Glo where
 prog:Program
 w:World
 p:Program
 mg:Str→Option Value
 mb:Str→Option Value
 base:Heap
 os:OsState
 lamIn:Str
 lamQ:Str
 tabP:Addr
 lams:Nat→LamRec
 own:List Addr
 top:TopM p mg mb lamIn tabP base
mutual
noncomputable def Rep (K:Glo) (h:Heap) (ρ:List Addr):V→Value→Prop
 | .none,w=>w = .none
 | .bool b,w=>w = .bool b
 | .int i,w => ∃ t,w = .int i t
 | .str x,w => ∃ t,w = .str x t
 | .tup vs,w=>vs.length≤1000000∧∃ a ws,w = .ref a∧IsTup h a ws.toArray∧RepL K h ρ vs ws∧a∉K.own
 | .obj l,w => ∃ a,ρ[l]?=some a∧w = .ref a
 | .fn x,w=>K.mg (Str.ofString x)=some w∧∃ a,w = .ref a
 | .rng a b c,w => ∃ r t u v,w = .ref r∧IsRange h r a b c t u v
noncomputable def RepL (K:Glo) (h:Heap) (ρ:List Addr):List V→List Value→Prop
 | [],ws=>ws=[]
 | v :: vs,ws => ∃ x r,ws=x :: r∧Rep K h ρ v x∧RepL K h ρ vs r
end
noncomputable def wy (h:Heap) (c:Addr) (q:Str):Prop:= ∃ o vs t,h.get? c=some o∧o.cls = .type "code" ∧ o.data = .fields vs∧vs[1]?=some (.str q t)
noncomputable def jw (K:Glo) (h:Heap) (ρ:List Addr) (cl:List (Str×Addr)):List String→List V→Prop
 | [],vs=>vs=[]
 | x :: xs,vs => ∃ v r c w,vs=v :: r∧cl.lookup (Str.ofString x)=some c∧h.IsCell c (some w)∧Rep K h ρ v w∧jw K h ρ cl xs r
noncomputable def ych (o:Obj):Prop:=(o.cls = .type "function" ∧ ∃ fd,o.data = .func fd)∨(o.cls = .type "object" ∧ o.data = .plain)
noncomputable def qk (K:Glo) (h:Heap) (ρ:List Addr):Cel→Addr→Prop
 | .opq,a => ∃ o,h.get? a=some o∧ych o
 | .tab,a=>a=K.tabP∧∃ ps,h.get? a=some (tabObj ps)∧TriplesOk ps.toList∧∀ pos cv,codeAmong pos ps.toList=some cv→∃ c,cv = .ref c∧wy h c K.lamQ
 | .clo k cap,a => ∃ cl pm c ct,h.get? a=some (kla_obj (Str.ofString "<lambda>") K.lamQ (K.lams k).args (K.lams k).body (K.lams k).scope cl pm c ct)∧wy h c K.lamQ∧(∀ x b,cl.lookup x=some b→∃ v,h.IsCell b v)∧jw K h ρ cl (K.lams k).caps cap
 | .lst vs,a=>vs.length≤1000000∧∃ ws n,IsL h a ws.toArray n∧RepL K h ρ vs ws
 | .set ns,a=>ns.Nodup∧h.SetOf (intKind K.prog K.w) a (fun k=>decide (k∈ns)) ns.length
 | .itr l i d,a => ∃ o,h.get? a=some o∧o.cls = .type "list_iterator" ∧ ∃ vs,o.data = .fields vs∧if d=true then vs[0]?=some .none else ∃ b,ρ[l]?=some b∧vs = #[.ref b,.int i 0]
structure GRel (K:Glo) (st:gb) (ρ:List Addr) (s:Shared):Prop where
 gens:s.gens = #[]
 os:s.os=K.os
 base:∀ b o,K.base.get? b=some o→s.heap.get? b=some o
 len:ρ.length=st.length
 cell:∀ (l:Nat) (a:Addr) (c:Cel),ρ[l]?=some a→st[l]?=some c→qk K s.heap ρ c a
 nodup:ρ.Nodup
 above:∀ (l:Nat) (a:Addr),ρ[l]?=some a→l≠0→K.base.get? a=none
 own:∀ a∈K.own,∃ o,s.heap.get? a=some o∧o.cls = .type "tuple" ∧ ∃ xs n,o.data = .seq xs n
noncomputable def Like (o o':Obj):Prop:=o'=o∨(∃ es n,o.data = .dict es n)∧∃ sl,o'={o with slots:=sl}
theorem Like.refl (o:Obj):Like o o:= .inl rfl
theorem Like.trans {o o₁ o₂:Obj} (x:Like o o₁) (y:Like o₁ o₂):Like o o₂:=by
 rcases x with rfl | ⟨d,sl,rfl⟩
 ·exact y
 ·rcases y with rfl | ⟨_,sl',rfl⟩
  ·exact .inr (qh d sl rfl)
  ·exact .inr (qh d sl' rfl)
theorem Like.same {o o':Obj} (x:Like o o') (hd:∀ es n,o.data≠.dict es n):o'=o:=by
 rcases x with rfl | ⟨⟨es,n,d⟩,_⟩
 ·rfl
 ·exact absurd d (hd es n)
theorem Like.data {o o':Obj} (x:Like o o'):o'.data=o.data∧o'.cls=o.cls∧o'.dict=o.dict:=by
 rcases x with rfl | ⟨_,sl,rfl⟩ <;> exact ⟨rfl,rfl,rfl⟩
noncomputable def Froz (o:Obj):Prop:=(o.cls = .type "tuple" ∧ ∃ xs n,o.data = .seq xs n)∨((o.cls = .type "range" ∨ o.cls = .type "code")∧∃ vs,o.data = .fields vs)
structure Ext (mine ρ ρ':List Addr) (h h':Heap):Prop where
 pre:ρ <+: ρ'
 alive:∀ b o,h.get? b=some o→∃ o',h'.get? b=some o'
 new:∀ a∈ρ',a∈ρ∨h.get? a=none
 keep:∀ b o,h.get? b=some o→b∉ρ→b∉mine→∃ o',h'.get? b=some o'∧Like o o'
 froz:∀ b o,h.get? b=some o→Froz o→h'.get? b=some o
structure Frm where
 env:Env
 A:Around
 mine:List Addr
 nh:Bool:=true
noncomputable def kbs (env:Env) (h:Heap) (x:Str) (w:Value):Prop :=
 (env.kindOf x=some .local∧∃ m,h.Ns env.locals m∧m x=some w)∨
 ((env.kindOf x=some .cell∨env.kindOf x=some .free)∧∃ c,env.cells.lookup x=some c∧h.IsCell c (some w))
noncomputable def xp (K:Glo) (h:Heap) (l:List Env):Prop:= ∀ env∈l,env.scope.kind≠.module∧∃ L o es n,env.frame=some L∧K.base.get? L=none∧h.get? L=some o∧o.data = .dict es n
noncomputable def g6 (K:Glo) (F:Frm) (h:Heap):Prop:= ∃ env₀ outer,F.A.frames=some (env₀ :: outer)∧env₀.frame=F.env.frame∧xp K h (env₀ :: outer)
theorem xp.next {K:Glo} {h h':Heap} {l:List Env} (x:xp K h l) (d:∀ b o es n,(∃ env∈l,env.frame=some b)→h.get? b=some o→o.data = .dict es n→∃ o' es' n',h'.get? b=some o'∧o'.data = .dict es' n'):xp K h' l:=by
 intro env he;refine jt (x env he) fun k L o es n f b g dd=>?_;refine wm (d L o es n ⟨env,he,f⟩ g dd) fun o' es' n' g' d'=>?_;exact (yy k L o' es' n' f b g' d')
theorem g6.next {K:Glo} {F:Frm} {h h':Heap} (x:g6 K F h) (d:∀ b o es n,h.get? b=some o→o.data = .dict es n→∃ o' es' n',h'.get? b=some o'∧o'.data = .dict es' n'):g6 K F h':=by
 refine yc x fun e l a1 a2 a3=>?_
 try clear x
 exact (gk e l a1 a2 (a3.next fun b o es n zZ=>d b o es n))
theorem g6.kept {K:Glo} {F:Frm} {h h':Heap} (x:g6 K F h) (hk:∀ b o,h.get? b=some o→h'.get? b=some o):g6 K F h':=x.next fun b o es n g d=>(gn o es n (hk b o g) d)
structure Rel (K:Glo) (F:Frm) (σ:S) (ρ:List Addr) (s:Shared):Prop extends GRel K σ.st ρ s where
 vars:∀ x v,σ.lo x=some v→∃ w,kbs F.env s.heap (Str.ofString x) w∧Rep K s.heap ρ v w
 loc:∃ m,s.heap.Ns F.env.locals m
 cels:∀ x c,F.env.cells.lookup x=some c→∃ v,s.heap.IsCell c v
 mineAbove:∀ a∈F.mine,K.base.get? a=none∧∃ o,s.heap.get? a=some o
 mineApart:∀ a∈F.mine,a∉ρ
 mineLoc:F.env.locals∈F.mine
 frs:g6 K F s.heap
noncomputable def XObj (n:Bool) (P:Value→Prop) (e:Exc) (X:List Addr) (v:Value) (h:Heap):Prop:=(e.cls ≠ "range" ∧ e.cls ≠ "list_iterator" ∧ e.cls ≠ "code")∧∃ a t tok oe vs,v = .ref a∧a∈X∧IsTup h t #[.str e.msg tok]∧
 h.get? a=some oe∧oe.cls = .type e.cls∧oe.data = .fields vs∧vs[0]?=some (.ref t)∧
 ((n=false∧vs[1]?=some .none)∨∃ T oT ts fl,T∈X∧T≠a∧vs[1]?=some (.ref T)∧h.get? T=some oT∧oT.data = .fields ts∧oT.cls = .type "traceback" ∧ ts[3]?=some fl∧P fl)
noncomputable def FlF (F:Frm) (fl:Value):Prop:=fl = .none∨∃ L,F.env.frame=some L∧fl=rawInt L
noncomputable def js (n:Bool) (K:Glo) (F:Frm) (e:Exc) (h₀:Heap) (v:Value) (s:Shared):Prop:= ∃ X,(∀ b∈X,h₀.get? b=none)∧(∀ b∈X,K.base.get? b=none∧b∉F.mine)∧XObj n (FlF F) e X v s.heap
noncomputable abbrev XRep (K:Glo) (F:Frm) (e:Exc) (h₀:Heap) (v:Value) (s:Shared):Prop:=js false K F e h₀ v s
noncomputable abbrev xbs (K:Glo) (F:Frm) (e:Exc) (h₀:Heap) (v:Value) (s:Shared):Prop:=js true K F e h₀ v s
theorem js.x {n:Bool} {K:Glo} {F:Frm} {e:Exc} {h₀:Heap} {v:Value} {s:Shared} (x:js n K F e h₀ v s):XRep K F e h₀ v s:=by
 refine zf x fun X f g h0 a t tok oe vs h1 h2 h4 h5 h6 h7 h8 h9=>?_
 try clear x
 refine (kl X f g h0 a t tok oe vs h1 h2 h4 h5 h6 h7 h8 ?_)
 rcases h9 with ⟨_,h⟩ | h
 ·exact .inl ⟨rfl,h⟩
 ·exact .inr h
noncomputable def Run {α β:Type} (K:Glo) (F:Frm) (t:Sem α) (R:Heap→List Addr→β→α→Prop) (out:Res S β) (ρ:List Addr) (s:Shared):Prop :=
 match out with
 | .stuck=>True
 | .ok b σ'=>wpAny (model K.prog K.w) F.A t (fun a s' => ∃ ρ',Rel K F σ' ρ' s'∧Ext F.mine ρ ρ' s.heap s'.heap∧R s'.heap ρ' b a) (fun _ _=>False) s
 | .exc e σ'=>wpAny (model K.prog K.w) F.A t (fun _ _=>False) (fun v s' => ∃ ρ',Rel K F σ' ρ' s'∧Ext F.mine ρ ρ' s.heap s'.heap∧XRep K F e s.heap v s') s
theorem z7 {α:Type} {M:Model} {A:Around} {t:Sem α} {Q:α→Shared→Prop} {E:Value→Shared→Prop} {s:Shared} (h:∀ Q' E',(∀ a s',Q a s'→Q' a s')→(∀ v s',E v s'→E' v s')→wpAny M A t Q' E' s):wpAny M A t Q E s:=h Q E (fun zZ zZ q=>q) fun zZ zZ q=>q
theorem Ext.refl (mine ρ:List Addr) (h:Heap):Ext mine ρ ρ h h :=
 ⟨List.prefix_refl _,fun zZ o e=>⟨o,e⟩,fun zZ ha=>.inl ha,fun zZ o e zZ zZ=>(ja o e (.refl _)),fun zZ zZ e zZ=>e⟩
theorem Ext.trans {mine ρ ρ₁ ρ₂:List Addr} {h h₁ h₂:Heap} (x:Ext mine ρ ρ₁ h h₁) (y:Ext mine ρ₁ ρ₂ h₁ h₂):Ext mine ρ ρ₂ h h₂ where
 pre:=x.pre.trans y.pre
 alive:=fun b o e=>by
  refine qb (x.alive b o e) fun o1 e1=>?_;exact y.alive b o1 e1
 new:=fun a ha=>by
  rcases y.new a ha with h1 | h1
  ·exact x.new a h1
  ·refine .inr ?_
   cases e:h.get? a with
   | none=>rfl
   | some o=>
    refine qb (x.alive a o e) fun o1 e1=>?_;rw [h1] at e1; (injection e1)
 keep:=fun b o e n1 n2=>by
  refine ya (x.keep b o e n1 n2) fun o1 e1 l1=>?_
  have hn:b∉ρ₁:=fun hb=>by
   rcases x.new b hb with h1 | h1
   ·exact n1 h1
   ·rw [e] at h1; (injection h1)
  refine ya (y.keep b _ e1 hn n2) fun o2 e2 l2=>?_;exact (ja o2 e2 (l1.trans l2))
 froz:=fun b o e f=>y.froz b o (x.froz b o e f) f
theorem js.up {n:Bool} {K:Glo} {F:Frm} {e:Exc} {mine ρ ρ₁:List Addr} {h h₁:Heap} {v:Value} {s:Shared} (q:js n K F e h₁ v s) (x:Ext mine ρ ρ₁ h h₁):js n K F e h v s:=by
 refine ya q fun X f g=>?_
 try clear q
 refine (ja X (fun b hb=>?_) g)
 cases e:h.get? b with
 | none=>rfl
 | some o=>obtain ⟨o',e'⟩:=x.alive b o e; rw [f b hb] at e'; (injection e')
theorem getElem?_prefix {α:Type} {l l':List α} {i:Nat} {a:α} (h:l <+: l') (e:l[i]?=some a):l'[i]?=some a:=by
 refine qb h fun t o_2=>?_
 try clear h
 obtain rfl:=o_2;rw [List.getElem?_append_left]
 ·exact e
 ·exact (List.getElem?_eq_some_iff.mp e).1
mutual
theorem Rep.monoO {K:Glo} {ρ ρ':List Addr} {h h':Heap} (hp:ρ <+: ρ') (ht:∀ b o,h.get? b=some o→Froz o→(o.cls = .type "tuple" → b∉K.own)→h'.get? b=some o):∀ {v:V} {w:Value},Rep K h ρ v w→Rep K h' ρ' v w
 | .none,_,r=>by simpa only [Rep] using r
 | .bool _,_,r=>by simpa only [Rep] using r
 | .int _,_,r=>by simpa only [Rep] using r
 | .str _,_,r=>by simpa only [Rep] using r
 | .tup vs,w,r=>by
  simp only [Rep] at r ⊢;refine yaf r ?_
  try clear r
  intro hl a ws e t r q;refine zv t fun o e1 c n d=>?_
  try clear t
  exact (x6 hl a ws e ⟨o,ht _ _ e1 (.inl (j5 c _ n d)) (fun zZ=>q),c,n,d⟩ (RepL.monoO hp ht r) q)
 | .obj l,w,r=>by
  simp only [Rep] at r ⊢;refine ya r fun a e e2=>?_
  try clear r
  exact (ja a (getElem?_prefix hp e) e2)
 | .fn _,_,r=>by simpa only [Rep] using r
 | .rng _ _ _,_,r=>by
  simp only [Rep] at r ⊢;refine ku r fun a t u v e i=>?_
  try clear r
  exact (z6 a t u v e (ht _ _ i (.inr (qh (.inl rfl) _ rfl)) (fun q=>absurd (show Value.type "range" = Value.type "tuple" from q) (by decide))))
theorem RepL.monoO {K:Glo} {ρ ρ':List Addr} {h h':Heap} (hp:ρ <+: ρ') (ht:∀ b o,h.get? b=some o→Froz o→(o.cls = .type "tuple" → b∉K.own)→h'.get? b=some o):∀ {vs:List V} {ws:List Value},RepL K h ρ vs ws→RepL K h' ρ' vs ws
 | [],_,r=>by simpa only [RepL] using r
 | v :: vs,ws,r=>by
  simp only [RepL] at r ⊢;refine yc r fun x r' e r1 r2=>?_
  try clear r
  exact (gk x r' e (Rep.monoO hp ht r1) (RepL.monoO hp ht r2))
end
theorem Rep.mono' {K:Glo} {ρ ρ':List Addr} {h h':Heap} (hp:ρ <+: ρ') (ht:∀ b o,h.get? b=some o→Froz o→h'.get? b=some o) {v:V} {w:Value} (r:Rep K h ρ v w):Rep K h' ρ' v w:=Rep.monoO hp (fun b o e f zZ=>ht b o e f) r
theorem RepL.mono' {K:Glo} {ρ ρ':List Addr} {h h':Heap} (hp:ρ <+: ρ') (ht:∀ b o,h.get? b=some o→Froz o→h'.get? b=some o) {vs:List V} {ws:List Value} (r:RepL K h ρ vs ws):RepL K h' ρ' vs ws:=RepL.monoO hp (fun b o e f zZ=>ht b o e f) r
theorem Rep.mono {K:Glo} {mine ρ ρ':List Addr} {h h':Heap} {v:V} {w:Value} (r:Rep K h ρ v w) (x:Ext mine ρ ρ' h h'):Rep K h' ρ' v w:=Rep.mono' x.pre x.froz r
theorem RepL.mono {K:Glo} {mine ρ ρ':List Addr} {h h':Heap} {vs:List V} {ws:List Value} (r:RepL K h ρ vs ws) (x:Ext mine ρ ρ' h h'):RepL K h' ρ' vs ws:=RepL.mono' x.pre x.froz r
section
variable {K:Glo} {h:Heap} {ρ:List Addr}
theorem Rep.none_iff {w:Value}:Rep K h ρ .none w↔w = .none:=by simp only [Rep]
theorem Rep.bool_iff {b:Bool} {w:Value}:Rep K h ρ (.bool b) w↔w = .bool b:=by simp only [Rep]
theorem Rep.int_iff {i:Int} {w:Value}:Rep K h ρ (.int i) w↔∃ t,w = .int i t:=by simp only [Rep]
theorem Rep.str_iff {x:Str} {w:Value}:Rep K h ρ (.str x) w↔∃ t,w = .str x t:=by simp only [Rep]
theorem Rep.tup_iff {vs:List V} {w:Value}:Rep K h ρ (.tup vs) w↔vs.length≤1000000∧∃ a ws,w = .ref a∧IsTup h a ws.toArray∧RepL K h ρ vs ws∧a∉K.own:=by simp only [Rep]
theorem Rep.tupOf {vs:List V} {w:Value} (r:Rep K h ρ (.tup vs) w):vs.length≤1000000∧∃ a ws,w = .ref a∧IsTup h a ws.toArray∧RepL K h ρ vs ws:=by
 refine yaf (Rep.tup_iff.mp r) fun h1 a ws h2 h3 h4 zZ=>?_;exact ⟨h1,a,ws,h2,h3,h4⟩
theorem Rep.obj_iff {l:Nat} {w:Value}:Rep K h ρ (.obj l) w↔∃ a,ρ[l]?=some a∧w = .ref a:=by simp only [Rep]
theorem Rep.rng_iff {a b c:Int} {w:Value}:Rep K h ρ (.rng a b c) w↔∃ r t u v,w = .ref r∧IsRange h r a b c t u v:=by simp only [Rep]
theorem Rep.int (i:Int) (t:Tok):Rep K h ρ (.int i) (.int i t):=Rep.int_iff.mpr ⟨t,rfl⟩
theorem Rep.bool (b:Bool):Rep K h ρ (.bool b) (.bool b):=Rep.bool_iff.mpr rfl
theorem Rep.none:Rep K h ρ .none .none:=Rep.none_iff.mpr rfl
theorem RepL.nil_iff {ws:List Value}:RepL K h ρ [] ws↔ws=[]:=by simp only [RepL]
theorem RepL.cons_iff {v:V} {vs:List V} {ws:List Value}:RepL K h ρ (v :: vs) ws↔∃ x r,ws=x :: r∧Rep K h ρ v x∧RepL K h ρ vs r:=by simp only [RepL]
theorem RepL.nil:RepL K h ρ [] []:=RepL.nil_iff.mpr rfl
theorem RepL.cons {v:V} {vs:List V} {w:Value} {ws:List Value} (r1:Rep K h ρ v w) (r2:RepL K h ρ vs ws):RepL K h ρ (v :: vs) (w :: ws):=RepL.cons_iff.mpr (gk w ws rfl r1 r2)
theorem RepL.length:∀ {vs:List V} {ws:List Value},RepL K h ρ vs ws→ws.length=vs.length
 | [],_,r=>by rw [RepL.nil_iff.mp r]; rfl
 | v :: vs,ws,r=>by
  refine yc (RepL.cons_iff.mp r) fun x r' o_3 zZ r2=>?_;clear r;obtain rfl:=o_3
  simp [RepL.length r2]
theorem RepL.append:∀ {vs us:List V} {ws xs:List Value},RepL K h ρ vs ws→RepL K h ρ us xs→RepL K h ρ (vs ++ us) (ws ++ xs)
 | [],_,_,_,r,q=>by rw [RepL.nil_iff.mp r]; exact q
 | v :: vs,us,ws,xs,r,q=>by
  refine yc (RepL.cons_iff.mp r) fun x r' o_4 r1 r2=>?_;clear r;obtain rfl:=o_4;exact RepL.cons r1 (RepL.append r2 q)
theorem RepL.get? : ∀ {vs:List V} {ws:List Value},RepL K h ρ vs ws→∀ {i:Nat} {v:V},vs[i]?=some v→∃ w,ws[i]?=some w∧Rep K h ρ v w
 | [],_,_,i,v,e=>by simp at e
 | u :: vs,ws,r,i,v,e=>by
  refine yc (RepL.cons_iff.mp r) fun x r' o_5 r1 r2=>?_;clear r;obtain rfl:=o_5
  cases i with
  | zero=>simp only [List.getElem?_cons_zero,Option.some.injEq] at e; subst e; exact (ja x (by simp) r1)
  | succ i=>simp only [List.getElem?_cons_succ] at e ⊢; exact RepL.get? r2 e
theorem RepL.set:∀ {vs:List V} {ws:List Value},RepL K h ρ vs ws→∀ (i:Nat) {v:V} {w:Value},Rep K h ρ v w→RepL K h ρ (vs.set i v) (ws.set i w)
 | [],_,r,i,v,w,_=>by rw [RepL.nil_iff.mp r]; exact RepL.nil
 | u :: vs,ws,r,i,v,w,q=>by
  refine yc (RepL.cons_iff.mp r) fun x r' o_7 r1 r2=>?_;clear r;obtain rfl:=o_7
  cases i with
  | zero=>exact RepL.cons q r2
  | succ i=>exact RepL.cons r1 (RepL.set r2 i q)
theorem RepL.reverse {vs:List V} {ws:List Value} (r:RepL K h ρ vs ws):RepL K h ρ vs.reverse ws.reverse:=by
 induction vs generalizing ws with
 | nil=>rw [RepL.nil_iff.mp r]; exact RepL.nil
 | cons v vs ih=>
  refine yc (RepL.cons_iff.mp r) fun x r' o_11 r1 r2=>?_;clear r;obtain rfl:=o_11;simp only [List.reverse_cons,List.reverse_cons];exact (ih r2).append (RepL.cons r1 RepL.nil)
theorem RepL.of_get:∀ {vs:List V} {ws:List Value},ws.length=vs.length→(∀ (i:Nat) v w,vs[i]?=some v→ws[i]?=some w→Rep K h ρ v w)→RepL K h ρ vs ws
 | [],[],_,_=>RepL.nil
 | [],_ :: _,e,_=>by simp at e
 | _ :: _,[],e,_=>by simp at e
 | v :: vs,w :: ws,e,k=>RepL.cons (k 0 v w rfl rfl) (RepL.of_get (by simpa using e) fun i v' w' h1 h2=>k (i + 1) v' w' (by simpa using h1) (by simpa using h2))
end
section
variable {K:Glo} {F:Frm} {α β γ δ:Type}
theorem Run.stuck {t:Sem α} {R:Heap→List Addr→β→α→Prop} {ρ:List Addr} {s:Shared}:Run K F t R (.stuck:Res S β) ρ s:=trivial
theorem Run.pure {a:α} {b:β} {σ:S} {R:Heap→List Addr→β→α→Prop} {ρ:List Addr} {s:Shared} (rel:Rel K F σ ρ s) (r:R s.heap ρ b a) :
  Run K F (Pure.pure a) R (.ok b σ) ρ s:=wpAny_pure (gc ρ rel (Ext.refl ..) r)
theorem Run.bind {t:Sem α} {f:α→Sem γ} {R:Heap→List Addr→β→α→Prop} {R':Heap→List Addr→δ→γ→Prop} {m:M β} {k:β→M δ} {σ:S} {ρ:List Addr} {s:Shared}
  (h1:Run K F t R (m σ) ρ s)
  (h2:∀ b σ' ρ' s' a,m σ = .ok b σ'→Rel K F σ' ρ' s'→Ext F.mine ρ ρ' s.heap s'.heap→R s'.heap ρ' b a→Run K F (f a) R' (k b σ') ρ' s') :
  Run K F (t >>= f) R' ((m >>= k) σ) ρ s:=by
 rw [M.bind_def]
 cases e:m σ with
 | stuck=>trivial
 | exc x σ'=>
  rw [e] at h1;exact wpAny_bind (wpAny_mono h1 (fun zZ zZ h=>h.elim) fun zZ zZ h=>h)
 | ok b σ'=>
  rw [e] at h1;dsimp only;have key:∀ {P:Prop} {b':Res S δ},k b σ'=b'→P→P:=fun zZ p=>p
  cases e2:k b σ' with
  | stuck=>trivial
  | ok d σ''=>
   refine wpAny_bind (wpAny_mono h1 (fun a s' h=>?_) fun zZ zZ h=>h.elim);refine yd h fun ρ' rel x r=>?_
   try clear h
   have:=h2 b σ' ρ' s' a e rel x r;rw [e2] at this
   exact wpAny_mono this (fun c s'' h=>by refine yd h fun ρ'' rel' x' r'=>?_; try clear h; exact (gc ρ'' rel' (x.trans x') r')) fun zZ zZ h=>h
  | exc y σ''=>
   refine wpAny_bind (wpAny_mono h1 (fun a s' h=>?_) fun zZ zZ h=>h.elim);refine yd h fun ρ' rel x r=>?_
   try clear h
   have:=h2 b σ' ρ' s' a e rel x r;rw [e2] at this
   exact wpAny_mono this (fun zZ zZ h=>h) fun c s'' h=>by refine yd h fun ρ'' rel' x' r'=>?_; try clear h; exact (gc ρ'' rel' (x.trans x') (r'.up x))
theorem Run.step {t:Sem α} {f:α→Sem γ} {R':Heap→List Addr→δ→γ→Prop} {out:Res S δ} {ρ:List Addr} {s:Shared}
  (h:∀ (Q:α→Shared→Prop) (E:Value→Shared→Prop),(∀ a,Q a s)→wpAny (model K.prog K.w) F.A t Q E s)
  (h2:∀ a,Run K F (f a) R' out ρ s):Run K F (t >>= f) R' out ρ s:=by
 cases out with
 | stuck=>trivial
 | ok d σ'=>exact wpAny_bind (h _ _ fun a=>h2 a)
 | exc y σ'=>exact wpAny_bind (h _ _ fun a=>h2 a)
theorem Run.standAt {p:Pos} {f:Unit→Sem γ} {R':Heap→List Addr→δ→γ→Prop} {out:Res S δ} {ρ:List Addr} {s:Shared} (h2:Run K F (f ()) R' out ρ s) :
  Run K F (PySem.standAt p >>= f) R' out ρ s:=Run.step (fun zZ zZ h=>wpAny_standAt (h ())) fun zZ=>h2
theorem Run.holding {vs:List Value} {t:Sem α} {R:Heap→List Addr→β→α→Prop} {out:Res S β} {ρ:List Addr} {s:Shared} (h:Run K F t R out ρ s):Run K F (PySem.holding vs t) R out ρ s:=by
 cases out with
 | stuck=>trivial
 | ok d σ'=>exact wpAny_holding h
 | exc y σ'=>exact wpAny_holding h
theorem Run.operate {vs:List Value} {t:Sem Value} {R:Heap→List Addr→β→Value→Prop} {out:Res S β} {ρ:List Addr} {s:Shared} (h:Run K F t R out ρ s):Run K F (PySem.operate vs t) R out ρ s:=by
 cases out with
 | stuck=>trivial
 | ok d σ'=>exact wpAny_operating h
 | exc y σ'=>exact wpAny_operating h
end
end
section
theorem y7 {a b:String} (h:Str.ofString a=Str.ofString b):a=b:=by
 have h1:(cpsOfBytes 0 0 a.toByteArray.data.toList).toArray=(cpsOfBytes 0 0 b.toByteArray.data.toList).toArray:=congrArg Str.cps h;have h2:=congrArg Array.toList h1;rw [cpsOfBytes_string,cpsOfBytes_string] at h2
 have h3:a.toList.map Char.toNat=b.toList.map Char.toNat:=by simpa using h2
 have h4:a.toList=b.toList:=List.map_inj_right (fun x y e=>Char.toNat_inj.mp e) |>.mp h3
 exact String.toList_inj.mp h4
noncomputable def ww (o:Obj):Prop:=(o.cls = .type "list" ∧ ∃ xs n,o.data = .seq xs n)∨(o.cls = .type "set" ∧ ∃ es n t,o.data = .set es n t)∨((o.cls = .type "list_iterator" ∨ o.cls = .none)∧∃ vs,o.data = .fields vs)∨ych o
theorem wy.monoO {h h':Heap} {c:Addr} {q:Str} {ow:List Addr} (x:wy h c q) (ht:∀ b o,h.get? b=some o→Froz o→(o.cls = .type "tuple" → b∉ow)→h'.get? b=some o):wy h' c q:=by
 refine ze x fun o vs t e c d r=>?_
 try clear x
 exact (zd o vs t (ht _ _ e (.inr (qh (.inr c) _ d)) (fun q=>by rw [c] at q; exact absurd q (by decide))) c d r)
theorem wy.mono {h h':Heap} {c:Addr} {q:Str} (x:wy h c q) (ht:∀ b o,h.get? b=some o→Froz o→h'.get? b=some o):wy h' c q:=x.monoO (ow:=[]) fun b o e f zZ=>ht b o e f
theorem jw.monoO {K:Glo} {h h':Heap} {ρ ρ':List Addr} {cl:List (Str×Addr)} (hp:ρ <+: ρ') (ht:∀ b o,h.get? b=some o→Froz o→(o.cls = .type "tuple" → b∉K.own)→h'.get? b=some o) (hc:∀ c v,h.IsCell c v→h'.IsCell c v):∀ {xs:List String} {vs:List V},jw K h ρ cl xs vs→jw K h' ρ' cl xs vs
 | [],_,x=>x
 | _ :: _,_,⟨v,r,c,w,e1,e2,e3,e4,e5⟩=>(jk v r c w e1 e2 (hc c _ e3) (Rep.monoO hp ht e4) (jw.monoO hp ht hc e5))
noncomputable def xa2 (h:Heap) (a:Addr):Prop:= ∃ o,h.get? a=some o∧ww o
theorem xa2.of_list {h:Heap} {a:Addr} {i:Array Value} (x:h.IsList a i):xa2 h a:=by
 refine zv x fun o e c n d=>?_
 try clear x
 exact (ja o e (.inl (j5 c _ _ d)))
theorem qk.monoO {K:Glo} {h h':Heap} {ρ ρ':List Addr} {c:Cel} {a:Addr} (x:qk K h ρ c a) (hp:ρ <+: ρ') (ht:∀ b o,h.get? b=some o→Froz o→(o.cls = .type "tuple" → b∉K.own)→h'.get? b=some o)
  (hl:∀ o,h.get? a=some o→ww o→h'.get? a=some o) (hc:∀ c v,h.IsCell c v→h'.IsCell c v):qk K h' ρ' c a:=by
 cases c with
 | opq=>obtain ⟨o,e,q⟩:=x; exact (ja o (hl _ e (.inr (.inr (.inr q)))) q)
 | tab=>
  refine xar x fun e0 ps e t q=>?_
  try clear x
  refine (zy e0 ps (hl _ e (.inr (.inr (.inl (qh (.inr rfl) _ rfl))))) t (fun pos cv e=>?_));refine ya (q pos cv e) fun c e1 e2=>?_;exact (ja c e1 (e2.monoO ht))
 | clo k cap=>
  refine ql x fun cl pm c ct e e1 e2 e3=>?_
  try clear x
  refine (zp cl pm c ct (hl _ e (.inr (.inr (.inr (.inl (qh rfl _ rfl)))))) (e1.monoO ht) (fun x b e=>?_) (e3.monoO hp ht hc));refine qb (e2 x b e) fun v q=>?_;exact ⟨v,hc b v q⟩
 | lst vs=>obtain ⟨h0,ws,n,h1,h2⟩:=x; exact (w8 h0 ws n (hl _ h1 (.inl (j5 rfl _ _ rfl))) (RepL.monoO hp ht h2))
 | set ns=>obtain ⟨h0,o,es,ep,t,e,c,d,r⟩:=x; exact (yy h0 o es ep t (hl _ e (.inr (.inl (ya8 c.1 _ _ _ d)))) c d r)
 | itr l i d=>
  refine yak x fun o e c vs dd r=>?_
  try clear x
  refine ⟨o,hl _ e (.inr (.inr (.inl (qh (.inl c) _ dd)))),c,vs,dd,?_⟩
  cases d with
  | true=>exact r
  | false=>obtain ⟨b,q,r⟩:=r; exact (ja b (getElem?_prefix hp q) r)
theorem qk.mono {K:Glo} {h h':Heap} {ρ ρ':List Addr} {c:Cel} {a:Addr} (x:qk K h ρ c a) (hp:ρ <+: ρ') (ht:∀ b o,h.get? b=some o→Froz o→h'.get? b=some o)
  (hl:∀ o,h.get? a=some o→ww o→h'.get? a=some o) (hc:∀ c v,h.IsCell c v→h'.IsCell c v):qk K h' ρ' c a:=x.monoO hp (fun b o e f zZ=>ht b o e f) hl hc
theorem kbs.mono {env:Env} {h h':Heap} {x:Str} {w:Value} (v:kbs env h x w) (hn:∀ m,h.Ns env.locals m→h'.Ns env.locals m)
  (hc:∀ c u,env.cells.lookup x=some c→h.IsCell c (some u)→h'.IsCell c (some u)):kbs env h' x w:=by
 rcases v with ⟨k,m,n,e⟩ | ⟨k,c,e,n⟩
 ·exact .inl (jp k m (hn m n) e)
 ·exact .inr (jp k c e (hc c w e n))
section
variable {K:Glo} {F:Frm} {σ:S} {ρ ρ':List Addr} {s s':Shared} {mine:List Addr} {h h':Heap}
theorem zl (hk:∀ b o,h.get? b=some o→h'.get? b=some o):∀ b o,h.get? b=some o→Froz o→h'.get? b=some o:=fun zZ zZ e zZ=>hk _ _ e
theorem Ext.kept (hk:∀ b o,h.get? b=some o→h'.get? b=some o):Ext mine ρ ρ h h' :=
 ⟨List.prefix_refl _,fun zZ o e=>⟨o,hk _ _ e⟩,fun zZ ha=>.inl ha,fun zZ o e zZ zZ=>(ja o (hk _ _ e) (.refl _)),zl hk⟩
theorem GRel.kept {st:gb} (rel:GRel K st ρ s) (hk:∀ b o,s.heap.get? b=some o→s'.heap.get? b=some o) (hg:s'.gens=s.gens) (ho:s'.os=s.os):GRel K st ρ s' where
 gens:=hg.trans rel.gens
 os:=ho.trans rel.os
 base:=fun b o e=>hk _ _ (rel.base b o e)
 len:=rel.len
 cell:=fun l a c h1 h2=>(rel.cell l a c h1 h2).mono (List.prefix_refl _) (zl hk) (fun zZ e zZ=>hk _ _ e) fun zZ zZ n=>n.keeps hk
 nodup:=rel.nodup
 above:=rel.above
 own:=fun a ha=>let ⟨o,e,r⟩:=rel.own a ha; ⟨o,hk _ _ e,r⟩
theorem Rel.kept (rel:Rel K F σ ρ s) (hk:∀ b o,s.heap.get? b=some o→s'.heap.get? b=some o) (hg:s'.gens=s.gens) (ho:s'.os=s.os):Rel K F σ ρ s' where
 toGRel:=rel.toGRel.kept hk hg ho
 vars:=fun x v e=>by
  refine ya (rel.vars x v e) fun w h1 h2=>?_;exact (ja w (h1.mono (fun m n=>n.keeps hk) (fun c u zZ n=>n.keeps hk)) (Rep.mono' (List.prefix_refl _) (zl hk) h2))
 loc:=let ⟨m,n⟩:=rel.loc; ⟨m,n.keeps hk⟩
 cels:=fun x c e=>let ⟨v,n⟩:=rel.cels x c e; ⟨v,n.keeps hk⟩
 mineAbove:=fun a ha=>let ⟨h1,o,h2⟩:=rel.mineAbove a ha; ⟨h1,o,hk _ _ h2⟩
 mineApart:=rel.mineApart
 mineLoc:=rel.mineLoc
 frs:=rel.frs.kept hk
theorem Rel.tok (rel:Rel K F σ ρ s) (t:Nat):Rel K F σ ρ {s with toks:=t}:=rel.kept (fun zZ zZ e=>e) rfl rfl
theorem Rel.push (rel:Rel K F σ ρ s) (o:Obj) (t:Nat):Rel K F σ ρ {s with heap:=s.heap.push o,toks:=t}:=rel.kept (fun zZ zZ e=>Heap.get?_push_of_some o e) rfl rfl
theorem Ext.push (o:Obj):Ext mine ρ ρ h (h.push o):=Ext.kept fun zZ zZ e=>Heap.get?_push_of_some o e
theorem GRel.alive {st:gb} (rel:GRel K st ρ s) {a:Addr} (ha:a∈ρ):xa2 s.heap a:=by
 refine qb (List.mem_iff_getElem?.mp ha) fun l hl=>?_;have h1:l < ρ.length:=(List.getElem?_eq_some_iff.mp hl).1;rw [rel.len] at h1;have h2:st[l]?=some st[l]:=List.getElem?_eq_getElem h1;have h3:=rel.cell l a _ hl h2
 cases hc:st[l] with
 | lst vs=>rw [hc] at h3; refine jy h3 fun zZ ws n h4 zZ=>?_; try clear h3; exact (ja _ h4 (.inl (j5 rfl _ _ rfl)))
 | set ns=>rw [hc] at h3; refine jt h3 fun zZ o es ep t e c d zZ=>?_; try clear h3; exact (ja _ e (.inr (.inl (ya8 c.1 _ _ _ d))))
 | itr l i d=>rw [hc] at h3; refine yak h3 fun o e c vs dd zZ=>?_; try clear h3; exact (ja _ e (.inr (.inr (.inl (qh (.inl c) _ dd)))))
 | opq=>rw [hc] at h3; refine ya h3 fun o e q=>?_; try clear h3; exact (ja _ e (.inr (.inr (.inr q))))
 | tab=>rw [hc] at h3; refine ybh h3 fun zZ ps e zZ=>?_; try clear h3; exact (ja _ e (.inr (.inr (.inl (qh (.inr rfl) _ rfl)))))
 | clo k cap=>rw [hc] at h3; refine ku h3 fun cl pm c ct e zZ=>?_; try clear h3; exact (ja _ e (.inr (.inr (.inr (.inl (qh rfl _ rfl))))))
theorem ww.froz {o:Obj} (c:ww o) (f:Froz o):False:=by
 rcases c with ⟨c,_⟩ | ⟨c,_⟩ | ⟨c | c,_⟩ | ⟨c,_⟩ | ⟨c,_⟩ <;> rcases f with ⟨f,_⟩ | ⟨f | f,_⟩ <;> (rw [c] at f; exact absurd f (by decide))
theorem ww.dict {o:Obj} (c:ww o) {es:Array DictEntry} {n:Nat} (f:o.data = .dict es n):False:=by
 rcases c with ⟨_,_,_,c⟩ | ⟨_,_,_,_,c⟩ | ⟨_,_,c⟩ | ⟨_,_,c⟩ | ⟨_,c⟩ <;> (rw [c] at f; (injection f))
theorem ww.cell {o:Obj} (c:ww o) {v:Option Value} (f:o.data = .cell v):False:=by
 rcases c with ⟨_,_,_,c⟩ | ⟨_,_,_,_,c⟩ | ⟨_,_,c⟩ | ⟨_,_,c⟩ | ⟨_,c⟩ <;> (rw [c] at f; (injection f))
theorem gar {a b:Addr} {o':Obj} (h1:xa2 h a) (e':h.get? b=some o') (f:Froz o'):b≠a:=by
 rintro rfl
 refine ya h1 fun o e c=>?_
 try clear h1
 rw [e] at e'; cases e';exact c.froz f
theorem zbu {o:Obj} (f:Froz o):∀ es n,o.data≠.dict es n:=by
 rintro es n d
 rcases f with ⟨_,_,_,f⟩ | ⟨_,_,f⟩ <;> (rw [d] at f; (injection f))
theorem ybu {o:Obj} (f:Froz o):∀ v,o.data≠.cell v:=by
 rintro v d
 rcases f with ⟨_,_,_,f⟩ | ⟨_,_,f⟩ <;> (rw [d] at f; (injection f))
theorem xbl {a b:Addr} {m:Str→Option Value} (h1:xa2 h a) (h2:h.Ns b m):b≠a:=by
 rintro rfl
 refine ya h1 fun o e c=>?_
 try clear h1
 refine yk h2 fun o' es ep e' d' zZ=>?_
 try clear h2
 rw [e] at e'; (injection e' with c_1; subst c_1); exact c.dict d'
theorem zab {a b:Addr} {v:Option Value} (h1:xa2 h a) (h2:h.IsCell b v):b≠a:=by
 rintro rfl
 refine ya h1 fun o e c=>?_
 try clear h1
 refine ya h2 fun o' e' d'=>?_
 try clear h2
 rw [e] at e'; (injection e' with c_1; subst c_1); exact c.cell d'
theorem jb4 {a b:Addr} {i:Array Value} {o':Obj} (h1:h.IsList a i) (e':h.get? b=some o') (f:Froz o'):b≠a:=gar (.of_list h1) e' f
theorem jak {a b:Addr} {o':Obj} {m:Str→Option Value} (h1:h.Ns a m) (e':h.get? b=some o') (f:Froz o'):b≠a:=by
 rintro rfl
 refine yk h1 fun o es ep e d' zZ=>?_
 try clear h1
 rw [e] at e'; cases e'; exact zbu f _ _ d'
theorem wb4 {a b:Addr} {o':Obj} {v:Option Value} (h1:h.IsCell a v) (e':h.get? b=some o') (f:Froz o'):b≠a:=by
 rintro rfl
 refine ya h1 fun o e d'=>?_
 try clear h1
 rw [e] at e'; cases e'; exact ybu f _ d'
theorem wq {a b:Addr} {v:Option Value} {m:Str→Option Value} (h1:h.IsCell a v) (h2:h.Ns b m):b≠a:=by
 rintro rfl
 refine yk h2 fun o' es ep e' d' zZ=>?_
 try clear h2
 refine ya h1 fun o e d=>?_
 try clear h1
 rw [e] at e'; cases e'; rw [d] at d'; (injection d')
theorem jaw {α:Type}:∀ {l:List α},l.Nodup→∀ {i j:Nat} {a:α},l[i]?=some a→l[j]?=some a→i=j
 | [],_,i,j,a,h1,_=>by simp at h1
 | x :: l,n,i,j,a,h1,h2=>by
  refine kd (List.nodup_cons.mp n) fun n1 n2=>?_
  cases i with
  | zero=>
   cases j with
   | zero=>rfl
   | succ j=>
    simp only [List.getElem?_cons_zero,Option.some.injEq] at h1; subst h1
    exact absurd (List.mem_of_getElem? (by simpa using h2)) n1
  | succ i=>
   cases j with
   | zero=>
    simp only [List.getElem?_cons_zero,Option.some.injEq] at h2; subst h2
    exact absurd (List.mem_of_getElem? (by simpa using h1)) n1
   | succ j=>exact congrArg (· + 1) (jaw n2 (by simpa using h1) (by simpa using h2))
theorem GRel.updC {st:gb} {l:Nat} {a:Addr} {c:Cel} (rel:GRel K st ρ s) (hl:ρ[l]?=some a) (hl0:l≠0) (hs:Heap.SameBut a s.heap s'.heap)
  (hL:qk K s'.heap ρ c a) (hal:∃ o,s'.heap.get? a=some o) (hg:s'.gens=s.gens) (ho:s'.os=s.os) :
  GRel K (st.set l c) ρ s'∧Ext mine ρ ρ s.heap s'.heap:=by
 have ha:a∈ρ:=List.mem_of_getElem? hl;have hold:=rel.alive ha;have ht:∀ b o,s.heap.get? b=some o→Froz o→s'.heap.get? b=some o:=fun b o e f=>(hs.2 b (gar hold e f)).trans e
 refine ⟨⟨hg.trans rel.gens,ho.trans rel.os,?_,?_,?_,rel.nodup,rel.above,fun a ha=>let ⟨o,e,r⟩:=rel.own a ha; ⟨o,ht _ _ e (.inl r),r⟩⟩,?_⟩
 ·intro b o e
  have hne:b≠a:=by rintro rfl; rw [rel.above l _ hl hl0] at e; (injection e)
  exact (hs.2 b hne).trans (rel.base b o e)
 ·simp only [rel.len,List.length_set]
 ·intro k b c h1 h2
  by_cases hk:k=l
  ·clear hl0;subst hk
   rw [hl] at h1; (injection h1 with c_1; subst c_1)
   have h3:k < st.length:=by rw [← rel.len]; exact (List.getElem?_eq_some_iff.mp hl).1
   rw [List.getElem?_set_self h3] at h2; (injection h2 with c_1; subst c_1)
   exact hL
  ·rw [List.getElem?_set_ne (Ne.symm hk)] at h2;have hne:b≠a:=fun e=>hk (jaw rel.nodup (e ▸ h1) hl);exact (rel.cell k b c h1 h2).mono (List.prefix_refl _) ht (fun zZ e zZ=>(hs.2 b hne).trans e) fun zZ zZ n=>n.sameBut hs (zab hold n)
 ·refine ⟨List.prefix_refl _,fun b o e=>?_,fun zZ hb=>.inl hb,fun b o e n1 zZ=>(ja o ((hs.2 b (fun x=>n1 (x ▸ ha))).trans e) (.refl _)),ht⟩
  by_cases hb:b=a
  ·clear hl hL ha hold;subst hb; exact hal
  ·exact ⟨o,(hs.2 b hb).trans e⟩
theorem Rel.updC {l:Nat} {a:Addr} {c:Cel} (rel:Rel K F σ ρ s) (hl:ρ[l]?=some a) (hl0:l≠0) (hs:Heap.SameBut a s.heap s'.heap)
  (hL:qk K s'.heap ρ c a) (hal:∃ o,s'.heap.get? a=some o) (hg:s'.gens=s.gens) (ho:s'.os=s.os) :
  Rel K F {σ with st:=σ.st.set l c} ρ s'∧Ext F.mine ρ ρ s.heap s'.heap:=by
 refine kd (rel.toGRel.updC (mine:=F.mine) hl hl0 hs hL hal hg ho) fun g x=>?_;have hold:=rel.toGRel.alive (List.mem_of_getElem? hl)
 refine ⟨{toGRel:=g,vars:=?_,loc:=?_,cels:=?_,mineAbove:=?_,mineApart:=rel.mineApart,mineLoc:=rel.mineLoc,frs:=rel.frs.next fun b o es n g d=>⟨o,es,n,(hs.2 b (by
   rintro rfl
   refine ya hold fun o' g' c'=>?_
   try clear hold
   rw [g] at g'; (injection g' with c_1; subst c_1); exact c'.dict d)).trans g,d⟩},x⟩
 ·intro y v e;refine ya (rel.vars y v e) fun w h1 h2=>?_;exact (ja w (h1.mono (fun m n=>n.sameBut hs (xbl hold n)) (fun c u zZ n=>n.sameBut hs (zab hold n))) (h2.mono x))
 ·refine qb rel.loc fun m n=>?_; exact ⟨m,n.sameBut hs (xbl hold n)⟩
 ·intro y c e;refine qb (rel.cels y c e) fun v n=>?_; exact ⟨v,n.sameBut hs (zab hold n)⟩
 ·intro b hb;refine xl (rel.mineAbove b hb) fun h1 o h2=>?_;refine qb (x.alive b o h2) fun o' h3=>?_;exact (qh h1 o' h3)
theorem Rel.upd {l n:Nat} {a:Addr} {vs:List V} {ws:List Value} (rel:Rel K F σ ρ s) (hl:ρ[l]?=some a) (hl0:l≠0) (hs:Heap.SameBut a s.heap s'.heap)
  (hL:IsL s'.heap a ws.toArray n) (hr:RepL K s.heap ρ vs ws) (hln:vs.length≤1000000) (hg:s'.gens=s.gens) (ho:s'.os=s.os) :
  Rel K F {σ with st:=σ.st.set l (.lst vs)} ρ s'∧Ext F.mine ρ ρ s.heap s'.heap:=by
 have hold:=rel.toGRel.alive (List.mem_of_getElem? hl);exact rel.updC hl hl0 hs ⟨hln,ws,n,hL,RepL.mono' (List.prefix_refl _) (fun b o e f=>(hs.2 b (gar hold e f)).trans e) hr⟩ ⟨_,hL⟩ hg ho
theorem Rel.newAtC {a:Addr} {c:Cel} (rel:Rel K F σ ρ s) (hk:∀ b o,s.heap.get? b=some o→s'.heap.get? b=some o) (h0:s.heap.get? a=none)
  (hL:qk K s'.heap ρ c a) (hg:s'.gens=s.gens) (ho:s'.os=s.os) :
  Rel K F {σ with st:=σ.st ++ [c]} (ρ ++ [a]) s'∧Ext F.mine ρ (ρ ++ [a]) s.heap s'.heap:=by
 have r:=rel.kept hk hg ho;have hpre:ρ <+: ρ ++ [a]:=List.prefix_append _ _
 have hanρ:a∉ρ:=fun h=>by
  refine ya (rel.toGRel.alive h) fun o e zZ=>?_;rw [h0] at e; (injection e)
 have x:Ext F.mine ρ (ρ ++ [a]) s.heap s'.heap:=by
  refine ⟨hpre,fun b o' e=>⟨o',hk _ _ e⟩,fun b hb=>?_,fun b o' e zZ zZ=>(ja o' (hk _ _ e) (.refl _)),zl hk⟩
  rcases List.mem_append.mp hb with hb | hb
  ·exact .inl hb
  ·simp only [List.mem_singleton] at hb; subst hb; exact .inr h0
 refine ⟨{gens:=r.gens,os:=r.os,base:=r.base,len:=?_,cell:=?_,nodup:=?_,above:=?_,own:=r.own,vars:=?_,loc:=r.loc,cels:=r.cels,mineAbove:=r.mineAbove,mineApart:=?_,mineLoc:=r.mineLoc,frs:=r.frs},x⟩
 ·simp [rel.len]
 ·intro l b c' h1 h2;dsimp only at h2
  by_cases hl:l < σ.st.length
  ·rw [List.getElem?_append_left (by rw [rel.len]; exact hl)] at h1
   rw [List.getElem?_append_left hl] at h2;exact (rel.cell l b c' h1 h2).mono hpre (zl hk) (fun zZ e zZ=>hk _ _ e) fun zZ zZ n=>n.keeps hk
  ·have hl':l=σ.st.length:=by
    rcases List.getElem?_eq_some_iff.mp h2 with ⟨h3,_⟩
    simp at h3; exact nL1 h3 hl
   clear hl;subst hl'
   rw [← rel.len,List.getElem?_concat_length] at h1; (injection h1 with c_1; subst c_1)
   rw [List.getElem?_concat_length] at h2; (injection h2 with c_1; subst c_1)
   exact hL.mono hpre (fun b o e zZ=>e) (fun zZ e zZ=>e) fun zZ zZ n=>n
 ·refine List.nodup_append.mpr ⟨rel.nodup,by simp,?_⟩
  intro b hb c hc;simp only [List.mem_singleton] at hc; subst hc
  rintro rfl
  exact hanρ hb
 ·intro l b hlb hl0
  by_cases hlt:l < ρ.length
  ·rw [List.getElem?_append_left hlt] at hlb;exact rel.above l b hlb hl0
  ·have hb:b=a:=by
    rw [List.getElem?_append_right (by exact nL2 hlt)] at hlb
    have:=List.mem_of_getElem? hlb
    simpa using this
   clear hL hanρ x hlb;subst hb
   cases e:K.base.get? b with
   | none=>rfl
   | some o'=>have:=rel.base _ _ e; rw [h0] at this; (injection this)
 ·intro y v e;refine ya (r.vars y v e) fun w h1 h2=>?_;exact (ja w h1 (Rep.mono' hpre (fun zZ zZ e zZ=>e) h2))
 ·intro b hb hc
  rcases List.mem_append.mp hc with hc | hc
  ·exact rel.mineApart b hb hc
  ·simp only [List.mem_singleton] at hc; subst hc;refine xl (rel.mineAbove _ hb) fun zZ o' e=>?_;rw [h0] at e; (injection e)
theorem Rel.newList {vs:List V} {ws:List Value} {o:Obj} (rel:Rel K F σ ρ s) (ho:o={cls:= .type "list",data:= .seq ws.toArray}) (hr:RepL K s.heap ρ vs ws) (hln:vs.length≤1000000) (t:Nat) :
  Rel K F {σ with st:=σ.st ++ [.lst vs]} (ρ ++ [s.heap.objs.size]) {s with heap:=s.heap.push o,toks:=t}∧Ext F.mine ρ (ρ ++ [s.heap.objs.size]) s.heap (s.heap.push o):=by
 subst ho
 have hk:∀ b o',s.heap.get? b=some o'→(s.heap.push {cls:= .type "list",data:= .seq ws.toArray}).get? b=some o':=fun zZ zZ e=>Heap.get?_push_of_some _ e
 exact rel.newAtC (s':={s with heap:=s.heap.push {cls:= .type "list",data:= .seq ws.toArray},toks:=t}) hk (Heap.get?_none_of_le (Nat.le_refl _)) ⟨hln,ws,0,Heap.get?_push_size _ rfl,RepL.mono' (List.prefix_refl _) (zl hk) hr⟩ rfl rfl
noncomputable def S.put (σ:S) (x:String) (v:V):S:={σ with lo:=fun y=>if y=x then some v else σ.lo y}
noncomputable def kcd:Cel→Cel
 | .clo _ _=>.opq
 | c=>c
noncomputable def kx (st:gb):gb:=st.map kcd
noncomputable def S.putC (σ:S) (x:String) (v:V):S:=⟨kx σ.st,fun y=>if y=x then some v else σ.lo y⟩
theorem Ext.mineBut {a:Addr} (ha:a∈mine) (hs:Heap.SameBut a h h') (hal:∃ o,h'.get? a=some o) (ht:∀ b o,h.get? b=some o→Froz o→b≠a):Ext mine ρ ρ h h' where
 pre:=List.prefix_refl _
 alive:=fun b o e=>by
  by_cases hb:b=a
  ·subst hb; exact hal
  ·exact ⟨o,(hs.2 b hb).trans e⟩
 new:=fun zZ hb=>.inl hb
 keep:=fun b o e zZ n=>(ja o ((hs.2 b (fun x=>n (x ▸ ha))).trans e) (.refl _))
 froz:=fun b o e f=>(hs.2 b (ht b o e f)).trans e
theorem jch {st:gb} {l:Nat}:(kx st)[l]?=st[l]?.map kcd:=List.getElem?_map
theorem qk.killed {K:Glo} {h h':Heap} {ρ ρ':List Addr} {c:Cel} {a:Addr} (x:qk K h ρ c a) (hp:ρ <+: ρ') (ht:∀ b o,h.get? b=some o→Froz o→h'.get? b=some o)
  (hl:∀ o,h.get? a=some o→ww o→h'.get? a=some o):qk K h' ρ' (kcd c) a:=by
 cases c with
 | clo k cap=>obtain ⟨cl,pm,c,ct,e,_⟩:=x; exact (ja _ (hl _ e (.inr (.inr (.inr (.inl (qh rfl _ rfl)))))) (.inl (qh rfl _ rfl)))
 | opq=>obtain ⟨o,e,q⟩:=x; exact (ja o (hl _ e (.inr (.inr (.inr q)))) q)
 | tab=>
  refine xar x fun e0 ps e t q=>?_
  try clear x
  refine (zy e0 ps (hl _ e (.inr (.inr (.inl (qh (.inr rfl) _ rfl))))) t (fun pos cv e=>?_));refine ya (q pos cv e) fun c e1 e2=>?_;exact (ja c e1 (e2.mono ht))
 | lst vs=>obtain ⟨h0,ws,n,h1,h2⟩:=x; exact (w8 h0 ws n (hl _ h1 (.inl (j5 rfl _ _ rfl))) (RepL.mono' hp ht h2))
 | set ns=>obtain ⟨h0,o,es,ep,t,e,c,d,r⟩:=x; exact (yy h0 o es ep t (hl _ e (.inr (.inl (ya8 c.1 _ _ _ d)))) c d r)
 | itr l i d=>
  refine yak x fun o e c vs dd r=>?_
  try clear x
  refine ⟨o,hl _ e (.inr (.inr (.inl (qh (.inl c) _ dd)))),c,vs,dd,?_⟩
  cases d with
  | true=>exact r
  | false=>obtain ⟨b,q,r⟩:=r; exact (ja b (getElem?_prefix hp q) r)
theorem GRel.mineKill {st:gb} {a:Addr} (rel:GRel K st ρ s) (hb:K.base.get? a=none) (hnl:a∉ρ) (hs:Heap.SameBut a s.heap s'.heap) (ht:∀ b o,s.heap.get? b=some o→Froz o→b≠a)
  (hg:s'.gens=s.gens) (ho:s'.os=s.os):GRel K (kx st) ρ s' where
 gens:=hg.trans rel.gens
 os:=ho.trans rel.os
 base:=fun b o e=>(hs.2 b (by rintro rfl; rw [hb] at e; (injection e))).trans (rel.base b o e)
 len:=rel.len.trans (List.length_map _).symm
 cell:=fun l b c h1 h2=>by
  have hne:b≠a:=fun e=>hnl (e ▸ List.mem_of_getElem? h1);rw [jch] at h2;refine ya (Option.map_eq_some_iff.mp h2) fun c' e o_12=>?_;clear h2;obtain rfl:=o_12;exact (rel.cell l b c' h1 e).killed (List.prefix_refl _) (fun d o e f=>(hs.2 d (ht d o e f)).trans e) fun zZ e zZ=>(hs.2 b hne).trans e
 nodup:=rel.nodup
 above:=rel.above
 own:=fun b hb=>let ⟨o,e,r⟩:=rel.own b hb; ⟨o,(hs.2 b (ht b o e (.inl r))).trans e,r⟩
theorem GRel.mineBut {st:gb} {a:Addr} (rel:GRel K st ρ s) (hb:K.base.get? a=none) (hnl:a∉ρ) (hs:Heap.SameBut a s.heap s'.heap) (ht:∀ b o,s.heap.get? b=some o→Froz o→b≠a)
  (hcl:∀ c v,s.heap.IsCell c v→c≠a) (hg:s'.gens=s.gens) (ho:s'.os=s.os):GRel K st ρ s' where
 gens:=hg.trans rel.gens
 os:=ho.trans rel.os
 base:=fun b o e=>(hs.2 b (by rintro rfl; rw [hb] at e; (injection e))).trans (rel.base b o e)
 len:=rel.len
 cell:=fun l b c h1 h2=>by
  have hne:b≠a:=fun e=>hnl (e ▸ List.mem_of_getElem? h1);refine (rel.cell l b c h1 h2).mono (List.prefix_refl _) (fun d o e f=>(hs.2 d (ht d o e f)).trans e) (fun zZ e zZ=>(hs.2 b hne).trans e) fun c v n=>n.sameBut hs (hcl c v n)
 nodup:=rel.nodup
 above:=rel.above
 own:=fun b hb=>let ⟨o,e,r⟩:=rel.own b hb; ⟨o,(hs.2 b (ht b o e (.inl r))).trans e,r⟩
theorem Rel.setLocal {x:String} {v:V} {w:Value} {m:Str→Option Value} (rel:Rel K F σ ρ s) (hk:F.env.kindOf (Str.ofString x)=some .local) (hm:s.heap.Ns F.env.locals m)
  (hn:s'.heap.Ns F.env.locals (fun y=>if y=Str.ofString x then some w else m y)) (hs:Heap.SameBut F.env.locals s.heap s'.heap) (hr:Rep K s.heap ρ v w)
  (hg:s'.gens=s.gens) (ho:s'.os=s.os):Rel K F (σ.put x v) ρ s'∧Ext F.mine ρ ρ s.heap s'.heap:=by
 have ht:∀ b o,s.heap.get? b=some o→Froz o→b≠F.env.locals:=fun b o e f=>jak hm e f
 have hal:∃ o,s'.heap.get? F.env.locals=some o:=by refine wm hn fun o zZ zZ e zZ=>?_; try clear hn; exact ⟨o,e⟩
 have ext:Ext F.mine ρ ρ s.heap s'.heap:=Ext.mineBut rel.mineLoc hs hal ht
 have hfr:g6 K F s'.heap:=rel.frs.next fun b o es n g d=>by
  by_cases hb:b=F.env.locals
  ·subst hb;refine yk hn fun o' es' ep' g' d' zZ=>?_
   try clear hn
   exact (gn o' _ _ g' d')
  ·exact (gn o es n ((hs.2 b hb).trans g) d)
 refine ⟨{toGRel:=rel.toGRel.mineBut (rel.mineAbove _ rel.mineLoc).1 (rel.mineApart _ rel.mineLoc) hs ht (fun c v n q=>wq n hm q.symm) hg ho,vars:=?_,loc:=⟨_,hn⟩,cels:=?_,mineAbove:=?_,mineApart:=rel.mineApart,mineLoc:=rel.mineLoc,frs:=hfr},ext⟩
 ·intro y u e
  by_cases hy:y=x
  ·subst hy;simp only [S.put,if_true,Option.some.injEq] at e;subst e
   exact (ja w (.inl (jp hk _ hn (by simp))) (hr.mono ext))
  ·simp only [S.put,if_neg hy] at e;refine ya (rel.vars y u e) fun w' h1 h2=>?_;refine (ja w' ?_ (h2.mono ext))
   rcases h1 with ⟨k1,m1,n1,e1⟩ | ⟨k1,c,e1,n1⟩
   ·refine .inl ⟨k1,_,hn,?_⟩;have hne:¬ Str.ofString y=Str.ofString x:=fun q=>hy (y7 q);rw [if_neg hne];refine ze n1 fun o1 es1 ep1 g1 d1 zZ f1=>?_
    try clear n1
    refine ze hm fun o2 es2 ep2 g2 d2 zZ f2=>?_
    try clear hm
    rw [g1] at g2; (injection g2 with c_1; subst c_1); rw [d1] at d2; (injection d2 with c_1 c_2; subst c_1 c_2)
    rw [← f2,f1]; exact e1
   ·exact .inr (jp k1 c e1 (n1.sameBut hs (fun q=>wq n1 hm q.symm)))
 ·intro y c e;refine qb (rel.cels y c e) fun v' n=>?_;exact ⟨v',n.sameBut hs (fun q=>wq n hm q.symm)⟩
 ·intro b hb;refine xl (rel.mineAbove b hb) fun h1 o h2=>?_;refine qb (ext.alive b o h2) fun o' h3=>?_;exact (qh h1 o' h3)
theorem Rel.setCell {x:String} {v:V} {w:Value} {c:Addr} {v₀:Option Value} (rel:Rel K F σ ρ s) (hk:F.env.kindOf (Str.ofString x)=some .cell) (hc:F.env.cells.lookup (Str.ofString x)=some c) (hmine:c∈F.mine)
  (hinj:∀ y,F.env.cells.lookup y=some c→y=Str.ofString x) (h0:s.heap.IsCell c v₀)
  (hn:s'.heap.IsCell c (some w)) (hs:Heap.SameBut c s.heap s'.heap) (hr:Rep K s.heap ρ v w)
  (hg:s'.gens=s.gens) (ho:s'.os=s.os):Rel K F (σ.putC x v) ρ s'∧Ext F.mine ρ ρ s.heap s'.heap:=by
 have ht:∀ b o,s.heap.get? b=some o→Froz o→b≠c:=fun b o e f=>wb4 h0 e f
 have hal:∃ o,s'.heap.get? c=some o:=by refine ya hn fun o e zZ=>?_; try clear hn; exact ⟨o,e⟩
 have ext:Ext F.mine ρ ρ s.heap s'.heap:=Ext.mineBut hmine hs hal ht
 refine ⟨{toGRel:=rel.toGRel.mineKill (rel.mineAbove _ hmine).1 (rel.mineApart _ hmine) hs ht hg ho,vars:=?_,loc:=?_,cels:=?_,mineAbove:=?_,mineApart:=rel.mineApart,mineLoc:=rel.mineLoc,frs:=rel.frs.next fun b o es n g d=>⟨o,es,n,(hs.2 b (by
   rintro rfl
   refine ya h0 fun o' g' d'=>?_
   try clear h0
   rw [g] at g'; (injection g' with c_1; subst c_1); rw [d] at d'; (injection d'))).trans g,d⟩},ext⟩
 ·intro y u e
  by_cases hy:y=x
  ·subst hy;simp only [S.putC,if_true,Option.some.injEq] at e;subst e;exact (ja w (.inr (jp (.inl hk) c hc hn)) (hr.mono ext))
  ·simp only [S.putC,if_neg hy] at e;refine ya (rel.vars y u e) fun w' h1 h2=>?_;refine (ja w' ?_ (h2.mono ext))
   rcases h1 with ⟨k1,m1,n1,e1⟩ | ⟨k1,c',e1,n1⟩
   ·exact .inl (jp k1 m1 (n1.sameBut hs (wq h0 n1)) e1)
   ·have hne:c'≠c:=by rintro rfl; exact hy (y7 (hinj _ e1))
    exact .inr (jp k1 c' e1 (n1.sameBut hs hne))
 ·refine qb rel.loc fun m n=>?_; exact ⟨m,n.sameBut hs (wq h0 n)⟩
 ·intro y c' e;refine qb (rel.cels y c' e) fun v' n=>?_
  by_cases hcc:c'=c
  ·clear hc hinj h0 hal;subst hcc; exact ⟨_,hn⟩
  ·exact ⟨v',n.sameBut hs hcc⟩
 ·intro b hb;refine xl (rel.mineAbove b hb) fun h1 o h2=>?_;refine qb (ext.alive b o h2) fun o' h3=>?_;exact (qh h1 o' h3)
end
end
section
inductive Fl where
 | next | brk | cont
 | ret (v:V)
noncomputable def qs (K:Glo) (h:Heap) (ρ:List Addr):Fl→Flow→Prop
 | .next,f=>f = .next
 | .brk,f=>f = .brk
 | .cont,f=>f = .cont
 | .ret v,f => ∃ w,f = .ret w∧Rep K h ρ v w
noncomputable def SimE (K:Glo) (F:Frm) (e:Expr) (m:M V):Prop:= ∀ σ ρ s,Rel K F σ ρ s→Run K F (eval e F.env) (Rep K) (m σ) ρ s
noncomputable def BRep (_:Heap) (_:List Addr) (b:Bool) (a:Bool):Prop:=a=b
noncomputable def SimB (K:Glo) (F:Frm) (e:Expr) (m:M Bool):Prop:= ∀ σ ρ s,Rel K F σ ρ s→Run K F (isTrue e F.env (eval e F.env)) BRep (m σ) ρ s
noncomputable def SimS (K:Glo) (F:Frm) (st:Stmt) (m:M Fl):Prop:= ∀ σ ρ s,Rel K F σ ρ s→Run K F (exec st F.env) (qs K) (m σ) ρ s
noncomputable def yj (K:Glo) (F:Frm) (st:List Stmt) (m:M Fl):Prop:= ∀ σ ρ s,Rel K F σ ρ s→Run K F (execs st F.env) (qs K) (m σ) ρ s
noncomputable def URep (_:Heap) (_:List Addr) (_:Unit) (_:Unit):Prop:=True
noncomputable def SimT (K:Glo) (F:Frm) (e:Expr) (m:V→M Unit):Prop:= ∀ σ ρ s v w,Rel K F σ ρ s→Rep K s.heap ρ v w→Run K F (assign e F.env w) URep (m v σ) ρ s
structure FOk (F:Frm):Prop where
 kind:F.env.scope.kind = .function
 glob:F.env.globals=mainGlobals
 blt:F.env.builtins=builtinsNs
 hd:F.nh=true→F.A.handled=none
 units:F.A.units + 1000 < cLine
noncomputable def getv (x:String):M V:=fun σ=>match σ.lo x with | some v=>.ok v σ | none=>.stuck
noncomputable def setv (x:String) (v:V):M Unit:=fun σ=>.ok () (σ.put x v)
noncomputable def setc (x:String) (v:V):M Unit:=fun σ=>.ok () (σ.putC x v)
variable {K:Glo} {F:Frm}
theorem Run.ok {α β:Type} {t:Sem α} {R:Heap→List Addr→β→α→Prop} {b:β} {σ':S} {ρ:List Addr} {s:Shared}
  (h:wpAny (model K.prog K.w) F.A t (fun a s' => ∃ ρ',Rel K F σ' ρ' s'∧Ext F.mine ρ ρ' s.heap s'.heap∧R s'.heap ρ' b a) (fun zZ zZ=>False) s):Run K F t R (.ok b σ') ρ s:=h
theorem za (fk:FOk F) (x:String) (pos:Pos) (hd:(Str.ofString x == ("__debug__" : Str))=false:=by decide) (hc:(Str.ofString x == ("__classdict__" : Str))=false:=by decide) :
  SimE K F (.Name (Str.ofString x) pos) (getv x):=by
 intro σ ρ s rel;unfold getv
 cases e:σ.lo x with
 | none=>exact Run.stuck
 | some v=>
  dsimp only;refine ya (rel.vars x v e) fun w h1 h2=>?_;refine Run.ok (wpAny_Name ?_ hd);have fin:∃ ρ',Rel K F σ ρ' s∧Ext F.mine ρ ρ' s.heap s.heap∧Rep K s.heap ρ' v w:=⟨ρ,rel,Ext.refl ..,h2⟩
  rcases h1 with ⟨k,m,n,em⟩ | ⟨k | k,c,ec,n⟩
  ·exact wpAny_loadName_local fk.kind k n em fin
  ·exact wpAny_loadName_cell fk.kind k ec n fin
  ·exact wpAny_loadName_free fk.kind k ec n fin hc
theorem gbl (k:Nat) (pos:Pos):SimE K F (.Constant .none k pos) (pure .none):=fun zZ ρ zZ rel=>Run.ok (wpAny_Constant_none ⟨ρ,rel,Ext.refl ..,Rep.none⟩)
theorem wak (b:Bool) (k:Nat) (pos:Pos):SimE K F (.Constant (.bool b) k pos) (pure (.bool b)):=fun zZ ρ zZ rel=>Run.ok (wpAny_Constant_bool ⟨ρ,rel,Ext.refl ..,Rep.bool b⟩)
theorem qd (i:Int) (k:Nat) (pos:Pos):SimE K F (.Constant (.int i) k pos) (pure (.int i)):=fun zZ ρ zZ rel=>Run.ok (wpAny_Constant_int ⟨ρ,rel.tok _,Ext.refl ..,Rep.int ..⟩)
noncomputable def qak (K:Glo) (op:Operator) (f:V→V→M V):Prop :=
 ∀ F:Frm,FOk F→∀ σ ρ s a b wa wb,Rel K F σ ρ s→Rep K s.heap ρ a wa→Rep K s.heap ρ b wb→Run K F (binaryOp op wa wb) (Rep K) (f a b σ) ρ s
noncomputable def zas (K:Glo) (op:CmpOp) (f:V→V→M V):Prop :=
 ∀ F:Frm,FOk F→∀ σ ρ s a b wa wb,Rel K F σ ρ s→Rep K s.heap ρ a wa→Rep K s.heap ρ b wb→Run K F (compareOp op wa wb) (Rep K) (f a b σ) ρ s
noncomputable def UnOk (K:Glo) (op:UnaryOp) (f:V→M V):Prop :=
 ∀ F:Frm,FOk F→∀ σ ρ s a wa,Rel K F σ ρ s→Rep K s.heap ρ a wa→Run K F (unaryOp op wa) (Rep K) (f a σ) ρ s
noncomputable def gbs (K:Glo) (f:V→M Bool):Prop :=
 ∀ F:Frm,FOk F→∀ σ ρ s a wa,Rel K F σ ρ s→Rep K s.heap ρ a wa→Run K F (truthy wa) BRep (f a σ) ρ s
theorem qe (fk:FOk F) {op:Operator} {f:V→V→M V} (ho:qak K op f) {l r:Expr} {ml mr:M V} (pos:Pos) (hl:SimE K F l ml) (hr:SimE K F r mr) :
  SimE K F (.BinOp l op r pos) (do let a ← ml; let b ← mr; f a b):=by
 intro σ ρ s rel;simp only [eval_BinOp];refine Run.bind (hl σ ρ s rel) fun a σ₁ ρ₁ s₁ wa zZ rel₁ x₁ ra=>?_;refine Run.bind (Run.holding (hr σ₁ ρ₁ s₁ rel₁)) fun b σ₂ ρ₂ s₂ wb zZ rel₂ x₂ rb=>?_;exact Run.standAt (Run.operate (ho F fk σ₂ ρ₂ s₂ a b wa wb rel₂ (ra.mono x₂) rb))
theorem x8 (fk:FOk F) {op:UnaryOp} {f:V→M V} (ho:UnOk K op f) {l:Expr} {ml:M V} (pos:Pos) (hl:SimE K F l ml) :
  SimE K F (.UnaryOp op l pos) (do let a ← ml; f a):=by
 intro σ ρ s rel
 show Run K F (do let v ← eval l F.env; standAt pos; holding [v] (unaryOp op v)) (Rep K) _ ρ s
 refine Run.bind (hl σ ρ s rel) fun a σ₁ ρ₁ s₁ wa zZ rel₁ x₁ ra=>?_;exact Run.standAt (Run.holding (ho F fk σ₁ ρ₁ s₁ a wa rel₁ ra))
theorem zi (fk:FOk F) {op:CmpOp} {f:V→V→M V} (ho:zas K op f) {tr:V→M Bool} (ht:gbs K tr) {l r:Expr} {ml mr:M V} (pos:Pos) (hl:SimE K F l ml) (hr:SimE K F r mr)
  (hm:behindInMarks op r=false:=by rfl) :
  SimB K F (.Compare l [op] [r] pos) (do let a ← ml; let b ← mr; let c ← f a b; tr c):=by
 intro σ ρ s rel
 have e:isTrue (.Compare l [op] [r] pos) F.env (eval (.Compare l [op] [r] pos) F.env)=(do let left ← eval l F.env; let rv ← holding [left] (eval r F.env); standAt pos; let c ← operate [left,rv] (compareOp op left rv); holding [c] (truthy c)):=by
  simp only [isTrue_Compare1];simp only [markedBehindIn_of_false hm]
 rw [e];refine Run.bind (hl σ ρ s rel) fun a σ₁ ρ₁ s₁ wa zZ rel₁ x₁ ra=>?_;refine Run.bind (Run.holding (hr σ₁ ρ₁ s₁ rel₁)) fun b σ₂ ρ₂ s₂ wb zZ rel₂ x₂ rb=>?_;refine Run.standAt (Run.bind (Run.operate (ho F fk σ₂ ρ₂ s₂ a b wa wb rel₂ (ra.mono x₂) rb)) fun c σ₃ ρ₃ s₃ wc zZ rel₃ x₃ rc=>?_);exact Run.holding (ht F fk σ₃ ρ₃ s₃ c wc rel₃ rc)
theorem jbu (fk:FOk F) {tr:V→M Bool} (ht:gbs K tr) {e:Expr} {m:M V} (he:SimE K F e m)
  (hi:isTrue e F.env (eval e F.env)=(do let v ← eval e F.env; standAt e.pos; holding [v] (truthy v)):=by rfl) :
  SimB K F e (do let v ← m; tr v):=by
 intro σ ρ s rel;rw [hi];refine Run.bind (he σ ρ s rel) fun a σ₁ ρ₁ s₁ wa zZ rel₁ x₁ ra=>?_;exact Run.standAt (Run.holding (ht F fk σ₁ ρ₁ s₁ a wa rel₁ ra))
theorem wa8 {e:Expr} {m:M Bool} (pos:Pos) (he:SimB K F e m):SimB K F (.UnaryOp .Not e pos) (do let b ← m; pure (!b)):=by
 intro σ ρ s rel
 show Run K F (do return !(← isTrue e F.env (eval e F.env))) BRep _ ρ s
 refine Run.bind (he σ ρ s rel) fun b σ₁ ρ₁ s₁ wb zZ rel₁ x₁ rb=>?_;have:wb=b:=rb;clear rb;subst this;exact Run.pure rel₁ rfl
noncomputable def gbb (K:Glo) (F:Frm) (op:BoolOp) (es:List Expr) (m:M Bool):Prop:= ∀ σ ρ s,Rel K F σ ρ s→Run K F (allTrue op es F.env) BRep (m σ) ρ s
theorem jbh:gbb K F .And [] (pure true):=fun zZ zZ zZ rel=>Run.pure rel rfl
theorem zbc {e:Expr} {es:List Expr} {m ms:M Bool} (he:SimB K F e m) (hs:gbb K F .And es ms):gbb K F .And (e :: es) (do if (← m)=true then ms else pure false):=by
 intro σ ρ s rel
 show Run K F (do match BoolOp.And,← isTrue e F.env (eval e F.env) with
  | .And,false=>pure false
  | .Or,true=>pure true
  | _,_=>allTrue .And es F.env) BRep _ ρ s
 refine Run.bind (he σ ρ s rel) fun b σ₁ ρ₁ s₁ wb zZ rel₁ x₁ rb=>?_;have:wb=b:=rb;subst this
 cases wb with
 | false=>simp only [Bool.false_eq_true,if_false]; exact Run.pure rel₁ rfl
 | true=>simp only [if_true]; exact hs σ₁ ρ₁ s₁ rel₁
theorem qb4 {op:BoolOp} {es:List Expr} {m:M Bool} (pos:Pos) (h:gbb K F op es m):SimB K F (.BoolOp op es pos) m:=fun σ ρ s rel=>h σ ρ s rel
noncomputable def zbt (K:Glo) (F:Frm) (pos:Pos) (op:BoolOp) (es:List Expr) (m:M V):Prop:= ∀ σ ρ s,Rel K F σ ρ s→Run K F (boolOp pos op (evalEach es F.env)) (Rep K) (m σ) ρ s
theorem waw {e:Expr} {m:M V} {pos:Pos} {op:BoolOp} (he:SimE K F e m):zbt K F pos op [e] m:=fun σ ρ s rel=>he σ ρ s rel
theorem qaw (fk:FOk F) {tr:V→M Bool} (ht:gbs K tr) {e e':Expr} {es:List Expr} {m ms:M V} {pos:Pos} (he:SimE K F e m) (hs:zbt K F pos .And (e' :: es) ms) :
  zbt K F pos .And (e :: e' :: es) (do let v ← m; if (← tr v)=true then ms else pure v):=by
 intro σ ρ s rel
 show Run K F (do
  let v ← eval e F.env
  standAt pos
  let t ← holding [v] (truthy v)
  match BoolOp.And,t with
  | .And,false | .Or,true=>pure v
  | _,_=>boolOp pos .And (evalEach (e' :: es) F.env)) (Rep K) _ ρ s
 refine Run.bind (he σ ρ s rel) fun v σ₁ ρ₁ s₁ wv zZ rel₁ x₁ rv=>?_;refine Run.standAt (Run.bind (Run.holding (ht F fk σ₁ ρ₁ s₁ v wv rel₁ rv)) fun b σ₂ ρ₂ s₂ wb zZ rel₂ x₂ rb=>?_);have:wb=b:=rb;subst this
 cases wb with
 | false=>simp only [Bool.false_eq_true,if_false]; exact Run.pure rel₂ (rv.mono x₂)
 | true=>simp only [if_true]; exact hs σ₂ ρ₂ s₂ rel₂
theorem kal {op:BoolOp} {es:List Expr} {m:M V} {pos:Pos} (h:zbt K F pos op es m):SimE K F (.BoolOp op es pos) m:=fun σ ρ s rel=>h σ ρ s rel
theorem wbu {test body orelse:Expr} {mt:M Bool} {mb mo:M V} (pos:Pos) (ht:SimB K F test mt) (hb:SimE K F body mb) (ho:SimE K F orelse mo) :
  SimE K F (.IfExp test body orelse pos) (do if (← mt)=true then mb else mo):=by
 intro σ ρ s rel
 show Run K F (do if ← isTrue test F.env (eval test F.env) then eval body F.env else eval orelse F.env) (Rep K) _ ρ s
 refine Run.bind (ht σ ρ s rel) fun b σ₁ ρ₁ s₁ wb zZ rel₁ x₁ rb=>?_;have:wb=b:=rb;subst this
 cases wb with
 | false=>simp only [Bool.false_eq_true,if_false]; exact ho σ₁ ρ₁ s₁ rel₁
 | true=>simp only [if_true]; exact hb σ₁ ρ₁ s₁ rel₁
noncomputable def yab (K:Glo) (F:Frm) (es:List Expr) (m:M (List V)):Prop:= ∀ (pos:Pos) σ ρ s,Rel K F σ ρ s→Run K F (spliced (backTo pos (starEach es F.env))) (RepL K) (m σ) ρ s
theorem jb:yab K F [] (pure []):=fun zZ zZ zZ zZ rel=>Run.pure rel RepL.nil
theorem yi (x:Sem Value) (rest:List (Bool×Sem Value)):spliced ((false,x) :: rest)=(do let v ← x; let vs ← holding [v] (spliced rest); pure ([v] ++ vs)):=by
 rfl
theorem qa {e:Expr} {es:List Expr} {m:M V} {ms:M (List V)} (he:SimE K F e m) (hs:yab K F es ms)
  (hst:starEach (e :: es) F.env=(false,eval e F.env) :: starEach es F.env:=by rfl):yab K F (e :: es) (do let v ← m; let vs ← ms; pure (v :: vs)):=by
 intro pos σ ρ s rel;rw [hst];show Run K F (spliced ((false,eval e F.env) :: backTo pos (starEach es F.env))) _ _ ρ s;rw [yi];refine Run.bind (he σ ρ s rel) fun a σ₁ ρ₁ s₁ wa zZ rel₁ x₁ ra=>?_;refine Run.bind (Run.holding (hs pos σ₁ ρ₁ s₁ rel₁)) fun b σ₂ ρ₂ s₂ wb zZ rel₂ x₂ rb=>?_;exact Run.pure rel₂ (RepL.cons (ra.mono x₂) rb)
noncomputable def newL (vs:List V):M V:=fun σ=>if vs.length≤1000000 then .ok (.obj σ.st.length) {σ with st:=σ.st ++ [.lst vs]} else .stuck
theorem zx {n:Nat} (h:n≤1000000):n≤sizeLine:=by rw [sizeLine_eq]; exact nL3 h
theorem kb4 {σ:S} {ρ:List Addr} {s:Shared} {vs:List V} {ws:List Value} (rel:Rel K F σ ρ s) (r:RepL K s.heap ρ vs ws):Run K F (newList ws) (Rep K) (newL vs σ) ρ s:=by
 unfold newL
 by_cases hn:vs.length≤1000000
 ·rw [if_pos hn]
  refine kd (rel.newList (o:={cls:= .type "list",data:= .seq ws.toArray}) rfl r hn s.toks) fun rel' x=>?_
  refine Run.ok (wpAny_newList ⟨_,rel',x,?_⟩ (zx (by rw [r.length]; exact hn)))
  refine Rep.obj_iff.mpr (ja _ ?_ rfl);simp only [← rel.len,List.getElem?_concat_length]
 ·rw [if_neg hn]; exact Run.stuck
theorem xac {es:List Expr} {ms:M (List V)} (pos:Pos) (hs:yab K F es ms):SimE K F (.List es pos) (do let vs ← ms; newL vs):=by
 intro σ ρ s rel
 show Run K F (do standAt pos; newList (← spliced (backTo pos (starEach es F.env)))) (Rep K) _ ρ s
 refine Run.standAt (Run.bind (hs pos σ ρ s rel) fun a σ₁ ρ₁ s₁ wa zZ rel₁ x₁ ra=>?_);exact kb4 rel₁ ra
theorem GRel.own_new {st:gb} {ρ:List Addr} {s:Shared} {a:Addr} (rel:GRel K st ρ s) (h:s.heap.objs.size≤a):a∉K.own:=fun q=>by
 refine ya (rel.own a q) fun o e zZ=>?_;exact absurd (Heap.lt_size e) (Nat.not_lt.mpr h)
theorem qbu {σ:S} {ρ:List Addr} {s:Shared} {vs:List V} {ws:List Value} (rel:Rel K F σ ρ s) (r:RepL K s.heap ρ vs ws) (hn:vs.length≤1000000):Run K F (newTuple ws) (Rep K) (.ok (.tup vs) σ) ρ s:=by
 have x:Ext F.mine ρ ρ s.heap (s.heap.push {cls:= .type "tuple",data:= .seq ws.toArray}):=Ext.push _
 refine Run.ok (wpAny_newTuple ⟨ρ,rel.push _ s.toks,x,?_⟩ (zx (by rw [r.length]; exact hn)))
 exact Rep.tup_iff.mpr (x6 hn _ ws rfl (IsTup.new _ _) (r.mono x) (rel.toGRel.own_new (Nat.le_refl _)))
noncomputable def mkT (vs:List V):M V:=fun σ=>if vs.length≤1000000 then .ok (.tup vs) σ else .stuck
theorem xz {es:List Expr} {ms:M (List V)} (k:Nat) (pos:Pos) (hs:yab K F es ms):SimE K F (.Tuple es k pos) (do let vs ← ms; mkT vs):=by
 intro σ ρ s rel
 show Run K F (do standAt pos; newTuple (← spliced (backTo pos (starEach es F.env)))) (Rep K) _ ρ s
 refine Run.standAt (Run.bind (hs pos σ ρ s rel) fun a σ₁ ρ₁ s₁ wa zZ rel₁ x₁ ra=>?_);unfold mkT
 split
 ·exact qbu rel₁ ra ‹_›
 ·exact Run.stuck
theorem wj:yj K F [] (pure .next):=fun zZ zZ zZ rel=>Run.pure rel rfl
noncomputable def seqM (a b:M Fl):M Fl:=do
 match ← a with
 | .next=>b
 | f=>pure f
theorem ka {st:Stmt} {sts:List Stmt} {m ms:M Fl} (h:SimS K F st m) (hs:yj K F sts ms):yj K F (st :: sts) (seqM m ms):=by
 intro σ ρ s rel
 show Run K F (do match ← exec st F.env with | .next=>execs sts F.env | f=>pure f) _ _ ρ s
 refine Run.bind (h σ ρ s rel) fun f σ₁ ρ₁ s₁ wf zZ rel₁ x₁ rf=>?_
 cases f with
 | next=>have:wf = .next:=rf; subst this; exact hs σ₁ ρ₁ s₁ rel₁
 | brk=>have:wf = .brk:=rf; subst this; exact Run.pure rel₁ rfl
 | cont=>have:wf = .cont:=rf; subst this; exact Run.pure rel₁ rfl
 | ret v=>obtain ⟨w,e,r⟩:=rf; subst e; exact Run.pure rel₁ ⟨w,rfl,r⟩
theorem jd {st:Stmt} {m:M Fl} (h:SimS K F st m):yj K F [st] m:=by
 intro σ ρ s rel;have:=ka h wj σ ρ s rel
 have e:seqM m (pure .next) σ=m σ:=by
  unfold seqM;rw [M.bind_def]
  cases m σ with
  | stuck=>rfl
  | exc x y=>rfl
  | ok f y=>cases f <;> rfl
 rw [e] at this; exact this
theorem wch (pos:Pos):SimS K F (.Pass pos) (pure .next):=fun zZ zZ zZ rel=>Run.standAt (Run.pure rel rfl)
theorem xcd (pos:Pos):SimS K F (.Break pos) (pure .brk):=fun zZ zZ zZ rel=>Run.standAt (Run.pure rel rfl)
theorem gbo (pos:Pos):SimS K F (.Continue pos) (pure .cont):=fun zZ zZ zZ rel=>Run.standAt (Run.pure rel rfl)
theorem ji {e:Expr} {m:M V} (pos:Pos) (h:SimE K F e m):SimS K F (.Return (some e) pos) (do let v ← m; pure (.ret v)):=by
 intro σ ρ s rel;simp only [exec_Return_some];exact Run.standAt (Run.bind (h σ ρ s rel) fun v σ₁ ρ₁ s₁ w zZ rel₁ x₁ r=>Run.pure rel₁ ⟨w,rfl,r⟩)
theorem qn {test:Expr} {body orelse:List Stmt} {mt:M Bool} {mb mo:M Fl} (pos:Pos) (ht:SimB K F test mt) (hb:yj K F body mb) (ho:yj K F orelse mo) :
  SimS K F (.If test body orelse pos) (do if (← mt)=true then mb else mo):=by
 intro σ ρ s rel;simp only [exec_If];refine Run.standAt (Run.bind (ht σ ρ s rel) fun b σ₁ ρ₁ s₁ wb zZ rel₁ x₁ rb=>?_);have:wb=b:=rb;subst this
 cases wb with
 | false=>simp only [Bool.false_eq_true,if_false]; exact ho σ₁ ρ₁ s₁ rel₁
 | true=>simp only [if_true]; exact hb σ₁ ρ₁ s₁ rel₁
theorem wbh (fk:FOk F):interactive F.env=false:=by
 unfold interactive; rw [fk.kind]; rfl
theorem zbp {e:Expr} {pos:Pos} {v:Value} {σ:S} {ρ:List Addr} {s:Shared} (rel:Rel K F σ ρ s):Run K F (dropValue e pos v) (qs K) (.ok .next σ) ρ s :=
 Run.ok (wpAny_dropValue ⟨ρ,rel,Ext.refl ..,rfl⟩)
theorem qq (fk:FOk F) {e:Expr} {m:M V} (pos:Pos) (h:SimE K F e m) (hs:swapsWith e none pos.line F.env=pure false:=by rfl) :
  SimS K F (.Expr e pos) (do let _ ← m; pure .next):=by
 intro σ ρ s rel;rw [exec_Expr F.env e pos (wbh fk) hs];exact Run.standAt (Run.bind (h σ ρ s rel) fun v σ₁ ρ₁ s₁ w zZ rel₁ x₁ r=>zbp rel₁)
theorem ga (x:String) (pos:Pos) (fk:FOk F) (hk:F.env.kindOf (Str.ofString x)=some .local):SimT K F (.Name (Str.ofString x) pos) (fun v=>setv x v):=by
 intro σ ρ s v w rel r;refine Run.ok (wpAny_assign_Name ?_);refine qb rel.loc fun m hm=>?_
 refine wpAny_storeName_local hk hm (fun h' hn hs=>?_) (by rw [fk.kind]; rfl)
 refine kd (rel.setLocal (s':={s with heap:=h',toks:=s.toks + 1}) hk hm hn hs r rfl rfl) fun rel' x'=>?_
 exact (gc ρ rel' x' trivial)
theorem qch (x:String) (pos:Pos) (fk:FOk F) {c:Addr} (hk:F.env.kindOf (Str.ofString x)=some .cell) (hc:F.env.cells.lookup (Str.ofString x)=some c) (hm:c∈F.mine)
  (hinj:∀ y,F.env.cells.lookup y=some c→y=Str.ofString x):SimT K F (.Name (Str.ofString x) pos) (fun v=>setc x v):=by
 intro σ ρ s v w rel r;refine Run.ok (wpAny_assign_Name ?_);refine qb (rel.cels _ _ hc) fun v₀ h0=>?_;refine wpAny_storeName_cell fk.kind hk hc h0 (fun h' hn hs=>?_)
 refine kd (rel.setCell (s':={s with heap:=h'}) hk hc hm hinj h0 hn hs r rfl rfl) fun rel' x'=>?_
 exact (gc ρ rel' x' trivial)
theorem kaw (env:Env) (targets:List Expr) (value:Expr) (pos:Pos):exec (.Assign targets value pos) env=(do
  standAt pos
  if ← swapsWithSole targets value pos.line env then do
   evalThenUse value env fun v=>assignAll v ((assignEach targets env).map (·.2))
   pure .next
  else do
   let v ← eval value env
   assignStores env v (← swappedStores targets value env) ((assignEach targets env).map (·.2))):=by rfl
theorem w4 {α β:Type} (a:α) (f:α→Sem β):(pure a >>= f)=f a:=rfl
theorem zc {t e:Expr} {mt:V→M Unit} {m:M V} (pos:Pos) (ht:SimT K F t mt) (h:SimE K F e m)
  (hs:swapsWith e (some t) pos.line F.env=pure false:=by rfl) (hsw:swappedStores [t] e F.env=pure none:=by rfl)
  (hst:assignEach [t] F.env=[(false,assign t F.env)]:=by rfl) :
  SimS K F (.Assign [t] e pos) (do let v ← m; mt v; pure .next):=by
 intro σ ρ s rel;rw [kaw];refine Run.standAt ?_
 rw [show swapsWithSole [t] e pos.line F.env=pure false from hs,w4,if_neg Bool.false_ne_true]
 refine Run.bind (h σ ρ s rel) fun v σ₁ ρ₁ s₁ w zZ rel₁ x₁ r=>?_;rw [hsw,hst,w4]
 show Run K F (do assign t F.env w; (pure Flow.next:Sem Flow)) _ _ ρ₁ s₁
 exact Run.bind (ht σ₁ ρ₁ s₁ v w rel₁ r) fun zZ σ₂ ρ₂ s₂ zZ zZ rel₂ zZ zZ=>Run.pure rel₂ rfl
end
section
variable {K:Glo} {F:Frm}
noncomputable def QO {α β:Type} (K:Glo) (F:Frm) (R:Heap→List Addr→β→α→Prop) (out:Res S β) (ρ:List Addr) (h:Heap):α→Shared→Prop :=
 fun a s' => ∃ b σ' ρ',out = .ok b σ'∧Rel K F σ' ρ' s'∧Ext F.mine ρ ρ' h s'.heap∧R s'.heap ρ' b a
noncomputable def EO {β:Type} (K:Glo) (F:Frm) (out:Res S β) (ρ:List Addr) (h:Heap):Value→Shared→Prop :=
 fun v s' => ∃ e σ' ρ',out = .exc e σ'∧Rel K F σ' ρ' s'∧Ext F.mine ρ ρ' h s'.heap∧XRep K F e h v s'
theorem Run.wp {α β:Type} {t:Sem α} {R:Heap→List Addr→β→α→Prop} {out:Res S β} {ρ:List Addr} {s:Shared} (h:Run K F t R out ρ s) (hne:out≠.stuck) :
  wpAny (model K.prog K.w) F.A t (QO K F R out ρ s.heap) (EO K F out ρ s.heap) s:=by
 cases out with
 | stuck=>exact absurd rfl hne
 | ok b σ'=>exact wpAny_mono h (fun a s' ⟨ρ',h1,h2,h3⟩=>(zd b σ' ρ' rfl h1 h2 h3)) fun zZ zZ h=>h.elim
 | exc e σ'=>exact wpAny_mono h (fun zZ zZ h=>h.elim) fun a s' ⟨ρ',h1,h2,h3⟩=>(zd e σ' ρ' rfl h1 h2 h3)
theorem Run.of_wp {α β:Type} {t:Sem α} {R:Heap→List Addr→β→α→Prop} {out:Res S β} {ρ:List Addr} {s:Shared}
  (h:out≠.stuck→wpAny (model K.prog K.w) F.A t (QO K F R out ρ s.heap) (EO K F out ρ s.heap) s):Run K F t R out ρ s:=by
 cases out with
 | stuck=>trivial
 | ok b σ'=>
  refine wpAny_mono (h (by simp)) (fun a s' hq=>?_) fun a s' he=>?_
  ·refine ze hq fun b' σ'' ρ' e h1 h2 h3=>?_
   try clear hq; (injection e with c_1 c_2; subst c_1 c_2); exact (gc ρ' h1 h2 h3)
  ·refine wm he fun zZ zZ zZ e zZ=>?_
   try clear he; (injection e)
 | exc x σ'=>
  refine wpAny_mono (h (by simp)) (fun a s' hq=>?_) fun a s' he=>?_
  ·refine wm hq fun zZ zZ zZ e zZ=>?_
   try clear hq; (injection e)
  ·refine ze he fun b' σ'' ρ' e h1 h2 h3=>?_
   try clear he; (injection e with c_1 c_2; subst c_1 c_2); exact (gc ρ' h1 h2 h3)
theorem Run.stepW {α β γ:Type} {t:Sem α} {R:Heap→List Addr→β→α→Prop} {m:M β} {f:β→M γ} {σ:S} {out:Res S γ} {ρ ρ₀:List Addr} {h₀:Heap} {s:Shared} {Q:α→Shared→Prop} {E:Value→Shared→Prop}
  (r:Run K F t R (m σ) ρ s) (x:Ext F.mine ρ₀ ρ h₀ s.heap) (hne:out≠.stuck) (e:(m >>= f) σ=out) (hE:∀ {v s'},EO K F out ρ₀ h₀ v s'→E v s')
  (k:∀ b σ' ρ' a s',f b σ'=out→Rel K F σ' ρ' s'→Ext F.mine ρ ρ' s.heap s'.heap→Ext F.mine ρ₀ ρ' h₀ s'.heap→R s'.heap ρ' b a→Q a s'):wpAny (model K.prog K.w) F.A t Q E s:=by
 subst e;rw [M.bind_def] at hne
 refine wpAny_mono (r.wp fun q=>hne (by rw [q])) (fun a s' hq=>?_) fun v s' hq=>hE ?_
 ·refine ze hq fun b σ' ρ' e rel y ra=>?_
  try clear hq
  exact k b σ' ρ' a s' (M.bind_ok e).symm rel y (x.trans y) ra
 ·refine ze hq fun b σ' ρ' e rel y ra=>?_
  try clear hq
  exact (zd b σ' ρ' (by rw [M.bind_def,e]) rel (x.trans y) (ra.up x))
theorem ybc {e:Value} {env env':Env} (h:env.frame=env'.frame):noteFrame e env=noteFrame e env':=by
 unfold noteFrame PySem.frameOf;rw [h]
theorem xp.fun_ {h:Heap} {l:List Env} (x:xp K h l):h.FunFrames K.base l:=by
 induction l with
 | nil=>trivial
 | cons env l ih=>
  refine jt (x env List.mem_cons_self) fun k L o es n f b g d=>?_
  exact ⟨k,⟨L,o,f,b,g,fun vs q=>by rw [d] at q; (injection q)⟩,ih fun e he=>x e (List.mem_cons_of_mem _ he)⟩
theorem xp.mem_frame {h:Heap} {l:List Env} (x:xp K h l) {b:Addr} (hb:b∈l.filterMap (·.frame)):K.base.get? b=none∧∃ o es n,h.get? b=some o∧o.data = .dict es n:=by
 refine ya (List.mem_filterMap.mp hb) fun env he f=>?_;refine jt (x env he) fun k L o es n f' bb g d=>?_;rw [f'] at f; cases f;exact ⟨bb,o,es,n,g,d⟩
noncomputable def FixT (o:Obj):Prop:=o.cls = .type "range" ∨ o.cls = .type "list_iterator" ∨ o.cls = .type "code" ∨ o.cls = .none
noncomputable def Hid0 (h:Heap) (b:Addr):Prop:= ∃ o vs,h.get? b=some o∧o.data = .fields vs∧¬ FixT o
structure Noted (K:Glo) (F:Frm) (X:List Addr) (h h':Heap):Prop where
 own:∀ b∈X,K.base.get? b=none∧b∉F.mine∧(h.get? b=none∨Hid0 h b)
 keep:∀ b o,b∉X→h.get? b=some o→∃ o',h'.get? b=some o'∧Like o o'∧(K.base.get? b≠none→o'=o)
 live:∀ b∈X,∃ o,h'.get? b=some o
theorem Noted.apart {X:List Addr} {h h':Heap} (x:Noted K F X h h') {b:Addr} {o:Obj} (g:h.get? b=some o) (hd:(∀ vs,o.data≠.fields vs)∨FixT o):b∉X:=fun hb=>by
 rcases (x.own b hb).2.2 with q | ⟨o',vs,q,d,c⟩
 ·rw [g] at q; (injection q)
 ·rw [g] at q; (injection q with c_1; subst c_1)
  rcases hd with hd | hd
  ·exact hd vs d
  ·exact c hd
theorem Noted.same {X:List Addr} {h h':Heap} (x:Noted K F X h h') {b:Addr} {o:Obj} (g:h.get? b=some o) (hd:(∀ vs,o.data≠.fields vs)∨FixT o) (hn:∀ es n,o.data≠.dict es n):h'.get? b=some o:=by
 refine yd (x.keep b o (x.apart g hd) g) fun o' g' l zZ=>?_;rw [g',l.same hn]
theorem Noted.froz {X:List Addr} {h h':Heap} (x:Noted K F X h h') (b:Addr) (o:Obj) (g:h.get? b=some o) (f:Froz o):h'.get? b=some o:=by
 rcases f with ⟨_,xs,n,d⟩ | ⟨c,vs,d⟩
 ·exact x.same g (.inl fun vs q=>by rw [d] at q; (injection q)) fun es n q=>by rw [d] at q; (injection q)
 ·exact x.same g (.inr (c.elim .inl fun c=>.inr (.inr (.inl c)))) fun es n q=>by rw [d] at q; (injection q)
theorem Noted.cell {X:List Addr} {h h':Heap} (x:Noted K F X h h') {c:Addr} {v:Option Value} (n:h.IsCell c v):h'.IsCell c v:=by
 refine ya n fun o g d=>?_
 try clear n
 exact (ja o (x.same g (.inl fun vs q=>by rw [d] at q; (injection q)) (fun es n q=>by rw [d] at q; (injection q))) d)
theorem Noted.base {X:List Addr} {h h':Heap} (x:Noted K F X h h') {b:Addr} {o:Obj} (hb:K.base.get? b=some o) (g:h.get? b=some o):h'.get? b=some o:=by
 have hn:b∉X:=fun q=>by have:=(x.own b q).1; rw [hb] at this; (injection this)
 refine yd (x.keep b o hn g) fun o' g' zZ q=>?_
 rw [g',q (by rw [hb]; exact fun q=>by (injection q))]
theorem GRel.noted {st:gb} {ρ:List Addr} {s s':Shared} {X:List Addr} (rel:GRel K st ρ s) (x:Noted K F X s.heap s'.heap) (hg:s'.gens=s.gens) (ho:s'.os=s.os):GRel K st ρ s' where
 gens:=hg.trans rel.gens
 os:=ho.trans rel.os
 base:=fun b o e=>x.base e (rel.base b o e)
 len:=rel.len
 cell:=fun l b c h1 h2=>by
  refine (rel.cell l b c h1 h2).mono (List.prefix_refl _) x.froz (fun o y hc=>x.same y ?_ fun es n q=>hc.dict q) fun zZ zZ n=>x.cell n
  rcases hc with ⟨_,_,_,d⟩ | ⟨_,_,_,_,d⟩ | ⟨c | c,_⟩ | ⟨_,_,d⟩ | ⟨_,d⟩
  ·exact .inl fun vs q=>by rw [d] at q; (injection q)
  ·exact .inl fun vs q=>by rw [d] at q; (injection q)
  ·exact .inr (.inr (.inl c))
  ·exact .inr (.inr (.inr (.inr c)))
  ·exact .inl fun vs q=>by rw [d] at q; (injection q)
  ·exact .inl fun vs q=>by rw [d] at q; (injection q)
 nodup:=rel.nodup
 above:=rel.above
 own:=fun a ha=>let ⟨o,e,r⟩:=rel.own a ha; ⟨o,x.froz a o e (.inl r),r⟩
theorem Ext.noted {ρ ρ₀ X:List Addr} {h h₀ h':Heap} (y:Ext F.mine ρ₀ ρ h₀ h) (x:Noted K F X h h') (hf:∀ b∈X,h₀.get? b=none):Ext F.mine ρ₀ ρ h₀ h' where
 pre:=y.pre
 alive:=fun b o e=>by
  refine qb (y.alive b o e) fun o' e'=>?_
  refine ya (x.keep b o' (fun q=>by rw [hf b q] at e; (injection e)) e') fun o2 e2 zZ=>?_
  exact ⟨o2,e2⟩
 new:=y.new
 keep:=fun b o e n1 n2=>by
  refine ya (y.keep b o e n1 n2) fun o' e' l=>?_
  refine yd (x.keep b o' (fun q=>by rw [hf b q] at e; (injection e)) e') fun o2 e2 l2 zZ=>?_
  exact (ja o2 e2 (l.trans l2))
 froz:=fun b o e f=>x.froz b o (y.froz b o e f) f
theorem Rel.noted {σ:S} {ρ:List Addr} {s s':Shared} {X:List Addr} (rel:Rel K F σ ρ s) (x:Noted K F X s.heap s'.heap) (hg:s'.gens=s.gens) (ho:s'.os=s.os):Rel K F σ ρ s':=by
 have hns:∀ {a:Addr} {m:Str→Option Value},s.heap.Ns a m→s'.heap.Ns a m:=by
  intro a m n;refine ze n fun o es ep g d k f=>?_
  try clear n
  refine yd (x.keep a o (x.apart g (.inl fun vs q=>by rw [d] at q; (injection q))) g) fun o' g' l zZ=>?_
  exact (zd o' es ep g' (l.data.1.trans d) k f)
 have hcell:∀ {c:Addr} {v:Option Value},s.heap.IsCell c v→s'.heap.IsCell c v:=x.cell;refine {toGRel:=rel.toGRel.noted x hg ho,vars:=?_,loc:=?_,cels:=?_,mineAbove:=?_,mineApart:=rel.mineApart,mineLoc:=rel.mineLoc,frs:=?_}
 ·intro y u e;refine ya (rel.vars y u e) fun w h1 h2=>?_;exact (ja w (h1.mono (fun m n=>hns n) (fun c u zZ n=>hcell n)) (Rep.mono' (List.prefix_refl _) x.froz h2))
 ·refine qb rel.loc fun m n=>?_; exact ⟨m,hns n⟩
 ·intro y c e; refine qb (rel.cels y c e) fun v n=>?_; exact ⟨v,hcell n⟩
 ·intro b hb;refine xl (rel.mineAbove b hb) fun h1 o h2=>?_;refine ya (x.keep b o (fun q=>(x.own b q).2.1 hb) h2) fun o' g' zZ=>?_;exact (qh h1 o' g')
 ·refine rel.frs.next fun b o es n g d=>?_
  refine yd (x.keep b o (x.apart g (.inl fun vs q=>by rw [d] at q; (injection q))) g) fun o' g' l zZ=>?_
  exact (gn o' es n g' (l.data.1.trans d))
theorem zcp {A:Around} {s:Shared} {env₀:Env} {outer:List Env} {L a:Addr} {oe:Obj} {vs:Array Value} {head:Value} {hadNext:Bool} {Q:Unit→Shared→Prop} {E:Value→Shared→Prop}
  (hfr:A.frames=some (env₀ :: outer)) (hl:xp K s.heap (env₀ :: outer)) (hf:env₀.frame=some L) (he:s.heap.get? a=some oe) (hd:oe.data = .fields vs) (hsz:1 < vs.size)
  (h:∀ h' T oT ts,s.heap.get? T=none→h'.get? T=some oT→oT.data = .fields ts→oT.cls = .type "traceback" → ts[3]?=some (rawInt L)→T≠a→h'.get? a=some (oe.mapFields (·.setIfInBounds 1 (.ref T)))→
   (∀ b o,b≠a→s.heap.get? b=some o→∃ o',h'.get? b=some o'∧Like o o'∧(K.base.get? b≠none→o'=o))→Q () {s with heap:=h'}) :
  wpAny (model K.prog K.w) A (do let f ← PySem.frameOf env₀; let pl ← entryPlaceOf L hadNext; let b ← EntryCells.newEntry head f .none (rawInt L) .none pl; setField (.ref a) 1 b) Q E s:=by
 have hane:a∉(env₀ :: outer).filterMap (·.frame):=fun hm=>by
  refine wrap fun G_ hG_=>?_;obtain ⟨_,o,es,n,ho,hdd⟩:=hl.mem_frame hm;refine hG_ ?_;clear hG_ G_
  rw [he] at ho; (injection ho with c_1; subst c_1); rw [hd] at hdd; (injection hdd)
 refine wpAny_bind (wpAny_frameOf_fun hfr hl.fun_ hf fun h₁ hs₁=>?_);refine wpAny_bind (wpAny_entryPlaceOf fun pl hpl=>?_);unfold EntryCells.newEntry newFields;refine wpAny_bind (wpAny_newObj_type ?_ (hpl.sizeOk5 _ _ _ _ _));have he₁:h₁.get? a=some oe:=(hs₁.2.1 a hane).trans he
 have he₂:=Heap.get?_push_of_some (h:=h₁) {cls:= .type "traceback",dict:=none,data:= .fields ([head,.ref L,.none,rawInt L,.none] ++ (if pl.isEmpty then List.replicate 6 Value.none else pl)).toArray} he₁
 refine wpAny_setField he₂ hd hsz ?_;have hTa:h₁.objs.size≠a:=Nat.ne_of_gt (Heap.lt_size he₁);have hd₃:=Obj.data_mapFields hd (·.setIfInBounds 1 (Value.ref h₁.objs.size))
 refine h _ h₁.objs.size _ _ (Heap.get?_none_of_le (by rw [hs₁.1]; exact Nat.le_refl _)) ((Heap.get?_update_other _ _ (Ne.symm hTa)).trans (Heap.get?_push_size h₁ rfl)) rfl rfl ?_ hTa (Heap.get?_update_self _ he₂ (Obj.isFreed_of_fields hd₃)) ?_
 ·first | (simp; done) | (rcases hpl with rfl | ⟨_,_,_,_,_,_,_,rfl⟩ <;> simp)
 ·intro b o hba g;refine qb (hs₁.2.2 b o g) fun sl g1=>?_
  refine (gc ({o with slots:=sl}) ?_ ?_ ?_)
  ·rw [Heap.get?_update_other _ _ (Ne.symm hba)];exact Heap.get?_push_of_some _ g1
  ·by_cases hm:b∈(env₀ :: outer).filterMap (·.frame)
   ·refine wrap fun G_ hG_=>?_;obtain ⟨_,o',es,n,ho,hdd⟩:=hl.mem_frame hm;refine hG_ ?_;clear hG_ G_
    rw [g] at ho; (injection ho with c_1; subst c_1)
    exact .inr (qh ⟨es,n,hdd⟩ sl rfl)
   ·have:=hs₁.2.1 b hm;rw [g1,g] at this;exact .inl (Option.some.inj this)
  ·intro hb;have hm:b∉(env₀ :: outer).filterMap (·.frame):=fun hm=>hb (hl.mem_frame hm).1;have:=hs₁.2.1 b hm;rw [g1,g] at this;exact Option.some.inj this
theorem js.noted {n:Bool} {e:Exc} {ρ ρ₀:List Addr} {h₀:Heap} {v:Value} {s:Shared} {σ:S} {Q:Unit→Shared→Prop} {E:Value→Shared→Prop} (x:js n K F e h₀ v s) (rel:Rel K F σ ρ s) (ext:Ext F.mine ρ₀ ρ h₀ s.heap)
  (h:∀ s',Rel K F σ ρ s'→Ext F.mine ρ₀ ρ h₀ s'.heap→xbs K F e h₀ v s'→Q () s'):wpAny (model K.prog K.w) F.A (noteFrame v F.env) Q E s:=by
 refine zf x fun X hfresh hX hcls a t tok oe vs o_13 haX ht ha hc hd h0 hst=>?_
 try clear x
 obtain rfl:=o_13;refine yc rel.frs fun env₀ outer hfr hfe hfok=>?_;refine jt (hfok env₀ List.mem_cons_self) fun hk0 L oL esL nL hL hLb hLg hLd=>?_
 have hFL:F.env.frame=some L:=by rw [← hfe]; exact hL
 have hidA:Hid0 s.heap a:=⟨oe,vs,ha,hd,by unfold FixT; rw [hc]; exact fun q=>q.elim (fun q=>hcls.1 (Value.type.inj q)) fun q=>q.elim (fun q=>hcls.2.1 (Value.type.inj q)) fun q=>q.elim (fun q=>hcls.2.2 (Value.type.inj q)) fun q=>nomatch q⟩
 have hsz:0 < vs.size:=(Array.getElem?_eq_some_iff.mp h0).1
 have fresh0:∀ b,s.heap.get? b=none→h₀.get? b=none∧K.base.get? b=none∧b∉F.mine:=by
  intro b hb;refine ⟨?_,?_,?_⟩
  ·cases q:h₀.get? b with
   | none=>rfl
   | some o=>obtain ⟨o',q'⟩:=ext.alive b o q; rw [hb] at q'; (injection q')
  ·cases q:K.base.get? b with
   | none=>rfl
   | some o=>have:=rel.base b o q; rw [hb] at this; (injection this)
  ·intro q;refine xl (rel.mineAbove b q) fun zZ o g=>?_;rw [hb] at g; (injection g)
 have htne:∀ {h':Heap},(∀ o,Froz o→s.heap.get? t=some o→h'.get? t=some o)→IsTup h' t #[.str e.msg tok]:=by
  intro h' hh;refine zv ht fun o g c n d=>?_
  try clear ht
  exact (ja8 o (hh o (.inl (j5 c _ n d)) g) c n d)
 rw [ybc (env':=env₀) hfe.symm]
 have fin:∀ (s₁:Shared) (X₁:List Addr) (vs1:vs.size > 1),s₁.gens=s.gens→s₁.os=s.os→(∀ b∈X₁,b∈X∧Hid0 s.heap b)→a∈X₁→s₁.heap.get? a=some oe→(∀ b∈X₁,∃ o,s₁.heap.get? b=some o)→(∀ b o,b∉X₁→s.heap.get? b=some o→s₁.heap.get? b=some o)→
   (∀ b,s.heap.get? b=none→s₁.heap.get? b=none)→(∀ b,s₁.heap.get? b=none→s.heap.get? b=none)→xp K s₁.heap (env₀ :: outer)→∀ (head:Value) (hadNext:Bool),
   wpAny (model K.prog K.w) F.A (do let f ← PySem.frameOf env₀; let pl ← entryPlaceOf L hadNext; let b ← EntryCells.newEntry head f .none (rawInt L) .none pl; setField (.ref a) 1 b) Q E s₁:=by
  intro s₁ X₁ hsz1 hg1 ho1 hX1 haX1 ha1 hlive1 hkeep1 hnone1 hnone2 hfr1 head hadNext;refine zcp hfr hfr1 hL ha1 hd hsz1 fun h' T oT ts hT hT' hTd hTc hT3 hTa ha' hkeep'=>?_;refine yt (fresh0 T (hnone2 T hT)) fun f1 f2 f3=>?_
  have hnoted:Noted K F (T :: X₁) s.heap h':=by
   refine ⟨fun b hb=>?_,fun b o hb g=>?_,fun b hb=>?_⟩
   ·rcases List.mem_cons.mp hb with rfl | hb
    ·exact ⟨f2,f3,.inl (hnone2 _ hT)⟩
    ·exact ⟨(hX b (hX1 b hb).1).1,(hX b (hX1 b hb).1).2,.inr (hX1 b hb).2⟩
   ·have hb1:b∉X₁:=fun q=>hb (List.mem_cons_of_mem _ q);have hba:b≠a:=fun q=>hb1 (q ▸ haX1);exact hkeep' b o hba (hkeep1 b o hb1 g)
   ·rcases List.mem_cons.mp hb with rfl | hb
    ·exact ⟨_,hT'⟩
    ·by_cases hba:b=a
     ·clear ha1;subst hba; exact ⟨_,ha'⟩
     ·refine qb (hlive1 b hb) fun o g=>?_;refine ya (hkeep' b o hba g) fun o' g' zZ=>?_;exact ⟨o',g'⟩
  have hfr0:∀ b∈T :: X₁,h₀.get? b=none:=by
   intro b hb
   rcases List.mem_cons.mp hb with rfl | hb
   ·exact f1
   ·exact hfresh b (hX1 b hb).1
  refine h {s₁ with heap:=h'} (rel.noted hnoted hg1 ho1) (ext.noted hnoted hfr0) ⟨T :: X₁,hfr0,fun b hb=>⟨(hnoted.own b hb).1,(hnoted.own b hb).2.1⟩,hcls,a,t,tok,_,_,rfl,List.mem_cons_of_mem _ haX1,htne fun o f g=>hnoted.froz t o g f,ha',(Obj.cls_mapFields ..).trans hc,Obj.data_mapFields hd _,?_,.inr (jn T oT ts (rawInt L) List.mem_cons_self hTa ?_ hT' hTd hTc hT3 (.inr (ja L hFL rfl)))⟩
  ·rw [Array.getElem?_setIfInBounds_ne (by decide)]; exact h0
  ·simp [hsz1]
 unfold noteFrame;simp only [hL]
 rcases hst with ⟨_,h1⟩ | ⟨T,oT,ts,fl,hTX,hTa,h1,hTg,hTd,hTc,hT3,hfl⟩
 ·have hsz1:1 < vs.size:=(Array.getElem?_eq_some_iff.mp h1).1;refine wpAny_bind (wpAny_field ha hd h1 ?_)
  rw [if_neg (by decide)]
  exact fin s [a] hsz1 rfl rfl (fun b hb=>by rw [List.mem_singleton.mp hb]; exact ⟨haX,hidA⟩) (by simp) ha (fun b hb=>by rw [List.mem_singleton.mp hb]; exact ⟨_,ha⟩) (fun zZ zZ zZ g=>g) (fun zZ g=>g) (fun zZ g=>g) hfok _ _
 ·have hsz1:1 < vs.size:=(Array.getElem?_eq_some_iff.mp h1).1;have hsz3:3 < ts.size:=(Array.getElem?_eq_some_iff.mp hT3).1;refine wpAny_bind (wpAny_field ha hd h1 ?_)
  rw [if_pos (show (Value.ref T != Value.none)=true from by simp)]
  refine wpAny_bind (wpAny_field hTg hTd hT3 ?_)
  rcases hfl with rfl | ⟨L',hL',rfl⟩
  ·rw [if_neg (show ¬ ((Value.none == rawInt L)=true) from by simp [rawInt])]
   refine wpAny_bind (wpAny_setField hTg hTd hsz3 ?_);have other:∀ b,b≠T→(s.heap.update T (Obj.mapFields (·.setIfInBounds 3 Value.none))).get? b=s.heap.get? b:=fun b hb=>Heap.get?_update_other _ _ (Ne.symm hb);have hTself:(s.heap.update T (Obj.mapFields (·.setIfInBounds 3 Value.none))).get? T=some (Obj.mapFields (·.setIfInBounds 3 Value.none) oT):=Heap.get?_update_self _ hTg (Obj.isFreed_of_fields (Obj.data_mapFields hTd _))
   have hidT:Hid0 s.heap T:=⟨oT,ts,hTg,hTd,by unfold FixT; rw [hTc]; decide⟩
   refine fin {s with heap:=s.heap.update T (Obj.mapFields (·.setIfInBounds 3 Value.none))} [a,T] hsz1 rfl rfl ?_ (by simp) ((other a (Ne.symm hTa)).trans ha) ?_ ?_ ?_ ?_ ?_ _ _
   ·intro b hb;simp only [List.mem_cons,List.not_mem_nil,or_false] at hb
    rcases hb with rfl | rfl
    ·exact ⟨haX,hidA⟩
    ·exact ⟨hTX,hidT⟩
   ·intro b hb;simp only [List.mem_cons,List.not_mem_nil,or_false] at hb
    rcases hb with rfl | rfl
    ·exact ⟨_,(other _ (Ne.symm hTa)).trans ha⟩
    ·exact ⟨_,hTself⟩
   ·intro b o hb g;simp only [List.mem_cons,List.not_mem_nil,or_false,not_or] at hb;exact (other b hb.2).trans g
   ·intro b hb
    have:b≠T:=fun q=>by rw [q,hTg] at hb; (injection hb)
    exact (other b this).trans hb
   ·intro b hb
    have:b≠T:=fun q=>by rw [q,hTself] at hb; (injection hb)
    exact (other b this).symm.trans hb
   ·refine hfok.next fun b o es n zZ g d=>(gn o es n ((other b fun q=>?_).trans g) d)
    rw [q,hTg] at g; (injection g with c_1; subst c_1); rw [hTd] at d; (injection d)
  ·rw [hFL] at hL'; (injection hL' with c_1; subst c_1)
   rw [if_pos (show (rawInt L == rawInt L)=true from by simp)]
   exact wpAny_pure (h s rel ext ⟨X,hfresh,hX,hcls,a,t,tok,oe,vs,rfl,haX,ht,ha,hc,hd,h0,.inr (jn T oT ts (rawInt L) hTX hTa h1 hTg hTd hTc hT3 (.inr (ja L hFL rfl)))⟩)
theorem js.flight {e:Exc} {ρ ρ₀:List Addr} {h₀:Heap} {v:Value} {s:Shared} {σ:S} {fr:Option Addr} {Q:Unit→Shared→Prop} {E:Value→Shared→Prop} (x:xbs K F e h₀ v s) (rel:Rel K F σ ρ s) (ext:Ext F.mine ρ₀ ρ h₀ s.heap) (hfl:fr=none∨fr=F.env.frame)
  (h:∀ s',Rel K F σ ρ s'→Ext F.mine ρ₀ ρ h₀ s'.heap→(∃ X,(∀ b∈X,h₀.get? b=none)∧(∀ b∈X,K.base.get? b=none∧b∉F.mine)∧XObj true (fun fl=>FlF F fl∧(fr=none→fl = .none)) e X v s'.heap)→Q () s'):wpAny (model K.prog K.w) F.A (setFlight v fr) Q E s:=by
 refine zf x fun X hfresh hX hcls a t tok oe vs o_14 haX ht ha hc hd h0 hst=>?_
 try clear x
 obtain rfl:=o_14
 rcases hst with ⟨q,_⟩ | ⟨T,oT,ts,fl,hTX,hTa,h1,hTg,hTd,hTc,hT3,_⟩
 ·(injection q)
 have hsz3:3 < ts.size:=(Array.getElem?_eq_some_iff.mp hT3).1;unfold setFlight;refine wpAny_bind (wpAny_field ha hd h1 ?_)
 rw [if_pos (show (Value.ref T != Value.none)=true from by simp)]
 refine wpAny_setField hTg hTd hsz3 ?_;have other:∀ b,b≠T→(s.heap.update T (Obj.mapFields (·.setIfInBounds 3 (fr.elim .none fun f=>rawInt f)))).get? b=s.heap.get? b:=fun b hb=>Heap.get?_update_other _ _ (Ne.symm hb);have hTself:(s.heap.update T (Obj.mapFields (·.setIfInBounds 3 (fr.elim .none fun f=>rawInt f)))).get? T=some (Obj.mapFields (·.setIfInBounds 3 (fr.elim .none fun f=>rawInt f)) oT):=Heap.get?_update_self _ hTg (Obj.isFreed_of_fields (Obj.data_mapFields hTd _))
 have hnoted:Noted K F [T] s.heap (s.heap.update T (Obj.mapFields (·.setIfInBounds 3 (fr.elim .none fun f=>rawInt f)))):=by
  refine ⟨fun b hb=>?_,fun b o hb g=>(gc o ((other b (by simpa using hb)).trans g) (.refl _) (fun zZ=>rfl)),fun b hb=>?_⟩
  ·rw [List.mem_singleton.mp hb]
   exact ⟨(hX T hTX).1,(hX T hTX).2,.inr (gk oT ts hTg hTd (by unfold FixT; rw [hTc]; decide))⟩
  ·rw [List.mem_singleton.mp hb]; exact ⟨_,hTself⟩
 have htt:IsTup (s.heap.update T (Obj.mapFields (·.setIfInBounds 3 (fr.elim .none fun f=>rawInt f)))) t #[.str e.msg tok]:=by
  refine zv ht fun o g c n d=>?_
  try clear ht
  exact (ja8 o (hnoted.froz t o g (.inl (j5 c _ n d))) c n d)
 refine h {s with heap:=_} (rel.noted hnoted rfl rfl) (ext.noted hnoted fun b hb=>by rw [List.mem_singleton.mp hb]; exact hfresh T hTX)
  ⟨X,hfresh,hX,hcls,a,t,tok,oe,vs,rfl,haX,htt,(other a (Ne.symm hTa)).trans ha,hc,hd,h0,.inr ⟨T,_,_,fr.elim .none (fun f=>rawInt f),hTX,hTa,h1,hTself,Obj.data_mapFields hTd _,(Obj.cls_mapFields ..).trans hTc,by simp [hsz3],?_,?_⟩⟩
 ·rcases hfl with rfl | rfl
  ·exact .inl rfl
  ·cases hq:F.env.frame with
   | none=>exact .inl rfl
   | some L=>exact .inr (ja L hq rfl)
 ·rintro rfl; rfl
noncomputable def EON {β:Type} (K:Glo) (F:Frm) (out:Res S β) (ρ:List Addr) (h:Heap):Value→Shared→Prop :=
 fun v s' => ∃ e σ' ρ',out = .exc e σ'∧Rel K F σ' ρ' s'∧Ext F.mine ρ ρ' h s'.heap∧xbs K F e h v s'
theorem EON.eo {β:Type} {out:Res S β} {ρ:List Addr} {h:Heap} {v:Value} {s':Shared} (x:EON K F out ρ h v s'):EO K F out ρ h v s':=by
 refine ze x ?_
 try clear x
 intro e σ' ρ' e1 rel ext x; exact (zd e σ' ρ' e1 rel ext x.x)
theorem EO.notedN {β:Type} {out:Res S β} {ρ:List Addr} {h:Heap} {v:Value} {s':Shared} {E:Value→Shared→Prop} (x:EO K F out ρ h v s') (hE:∀ v s'',EON K F out ρ h v s''→E v s'') :
  notedBy (model K.prog K.w) F.A F.env E v s':=by
 refine ze x ?_
 try clear x
 intro e σ' ρ' e1 rel ext x;exact x.noted rel ext fun s'' rel' ext' x'=>hE _ _ ⟨e,σ',ρ',e1,rel',ext',x'⟩
theorem EO.noted {β:Type} {out:Res S β} {ρ:List Addr} {h:Heap} {v:Value} {s':Shared} (x:EO K F out ρ h v s') :
  notedBy (model K.prog K.w) F.A F.env (EO K F out ρ h) v s':=x.notedN fun zZ zZ q=>q.eo
theorem EON.back {β:Type} {out:Res S β} {ρ:List Addr} {h:Heap} {v:Value} {s':Shared} (x:EON K F out ρ h v s') :
  cameBackBy (model K.prog K.w) F.A F.env (EO K F out ρ h) v s':=by
 refine ze x ?_
 try clear x
 intro e σ' ρ' e1 rel ext x;have x0:=x;refine zf x0 fun X hfresh hX hcls a t tok oe vs o_15 haX ht ha hc hd h0 hst=>?_
 try clear x0
 obtain rfl:=o_15
 rcases hst with ⟨q,_⟩ | ⟨T,oT,ts,fl,hTX,hTa,h1,hTg,hTd,hTc,hT3,_⟩
 ·(injection q)
 refine wpAny_bind (wpAny_field ha hd h1 ?_)
 rw [if_neg (show ¬ ((Value.ref T == Value.none)=true) from by simp)]
 refine (x.flight rel ext (.inr rfl) fun s'' rel' ext' x'=>?_);refine zf x' fun X' f' g' hc' a' t' tok' oe' vs' q1 q2 q3 q4 q5 q6 q7 q8=>?_
 try clear x'
 refine ⟨e,σ',ρ',e1,rel',ext',X',f',g',hc',a',t',tok',oe',vs',q1,q2,q3,q4,q5,q6,q7,?_⟩
 rcases q8 with ⟨q,_⟩ | ⟨T',oT',ts',fl',r1,r2,r3,r4,r5,r6,r7,r8⟩
 ·(injection q)
 ·exact .inr (jn T' oT' ts' fl' r1 r2 r3 r4 r5 r6 r7 r8.1)
noncomputable def qw (c:M Bool) (b:M Fl):Nat→M Fl
 | 0=>stuck
 | n + 1=>do
  if (← c)=true then
   match ← b with
   | .next=>qw c b n
   | .cont=>qw c b n
   | .brk=>pure .next
   | .ret v=>pure (.ret v)
  else pure .next
theorem jbc {test:Expr} {body:List Stmt} {mt:M Bool} {mb:M Fl} (pos:Pos) (n:Nat) (ht:SimB K F test mt) (hb:yj K F body mb):SimS K F (.While test body [] pos) (qw mt mb n):=by
 intro σ ρ s rel;refine Run.of_wp fun hne=>?_;refine wpAny_While ?_
 refine codeAny_whileLoop (R:=fun r s'=>match r with | .ok f=>QO K F (qs K) (qw mt mb n σ) ρ s.heap f s' | .error e=>cameBackBy (model K.prog K.w) F.A F.env (EO K F (qw mt mb n σ) ρ s.heap) e s')
  (fun k s' => ∃ σ₁ ρ₁,Rel K F σ₁ ρ₁ s'∧qw mt mb k σ₁=qw mt mb n σ∧Ext F.mine ρ ρ₁ s.heap s'.heap) ?_ n ⟨σ,ρ,rel,rfl,Ext.refl ..⟩
 generalize qw mt mb n σ=out at hne ⊢
 rintro k s₁ ⟨σ₁,ρ₁,rel₁,e₁,x₁⟩
 have note:∀ {v:Value} {s':Shared},EO K F out ρ s.heap v s'→notedBy (model K.prog K.w) F.A F.env (fun e s'=>cameBackBy (model K.prog K.w) F.A F.env (EO K F out ρ s.heap) e s') v s':=by
  intro v s' hx;exact hx.notedN fun zZ zZ q=>q.back
 cases k with
 | zero=>exact absurd e₁.symm hne
 | succ k=>
  refine (ht σ₁ ρ₁ s₁ rel₁).stepW x₁ hne e₁ note fun b σ₂ ρ₂ a s₂ e₂ rel₂ zZ x₂ rb=>?_;have:a=b:=rb;subst this
  cases a with
  | false=>exact wpAny_execs_nil ⟨.next,σ₂,ρ₂,e₂.symm,rel₂,x₂,rfl⟩
  | true=>
   refine (hb σ₂ ρ₂ s₂ rel₂).stepW x₂ hne e₂ note fun f σ₃ ρ₃ wf s₃ e₃ rel₃ zZ x₃ rf=>?_
   cases f with
   | next=>have:wf = .next:=rf; subst this; exact (kar k (Nat.lt_succ_self _) σ₃ ρ₃ rel₃ e₃ x₃)
   | cont=>have:wf = .cont:=rf; subst this; exact (kar k (Nat.lt_succ_self _) σ₃ ρ₃ rel₃ e₃ x₃)
   | brk=>have:wf = .brk:=rf; subst this; exact (zd .next σ₃ ρ₃ e₃.symm rel₃ x₃ rfl)
   | ret v=>obtain ⟨w,e,r⟩:=rf; subst e; exact ⟨.ret v,σ₃,ρ₃,e₃.symm,rel₃,x₃,w,rfl,r⟩
theorem jan {h h':Heap} (x:Heap.ExtBut h.objs.size h h'):∀ b o,h.get? b=some o→h'.get? b=some o :=
 fun b o e=>x b o (Nat.ne_of_lt (Heap.lt_size e)) e
noncomputable def ybt (K:Glo) (F:Frm) (es:List Expr) (m:List V→M Unit):Prop :=
 (∃ n,(assignEach es F.env).length=n∧n=es.length∧(assignEach es F.env).findIdx? (·.1)=none)∧
 ∀ σ ρ s vs ws,Rel K F σ ρ s→RepL K s.heap ρ vs ws→vs.length=es.length→Run K F (assignInOrder ((assignEach es F.env).map (·.2)) ws) URep (m vs σ) ρ s
theorem y6:ybt K F [] (fun zZ=>pure ()):=⟨⟨0,rfl,rfl,rfl⟩,fun zZ zZ zZ zZ zZ rel zZ zZ=>Run.pure rel trivial⟩
noncomputable def zt (m:V→M Unit) (ms:List V→M Unit):List V→M Unit
 | v :: vs=>do m v; ms vs
 | []=>stuck
theorem jj {e:Expr} {es:List Expr} {m:V→M Unit} {ms:List V→M Unit} (h:SimT K F e m) (hs:ybt K F es ms)
  (hst:assignEach (e :: es) F.env=(false,assign e F.env) :: assignEach es F.env:=by rfl):ybt K F (e :: es) (zt m ms):=by
 refine kd hs fun o_16 h4=>?_
 try clear hs
 refine yd o_16 fun n h1 h2 h3=>?_
 try clear o_16
 refine ⟨⟨n + 1,by rw [hst]; simp [h1],by simp [h2],by rw [hst,List.findIdx?_cons]; simp [h3]⟩,?_⟩
 intro σ ρ s vs ws rel r hl;rw [hst]
 cases vs with
 | nil=>exact Run.stuck
 | cons v vs=>
  refine yc (RepL.cons_iff.mp r) fun x ws' o_17 r1 r2=>?_;clear r;obtain rfl:=o_17
  show Run K F (do holding ws' (assign e F.env x); assignInOrder ((assignEach es F.env).map (·.2)) ws') URep ((do m v; ms vs) σ) ρ s
  refine Run.bind (Run.holding (h σ ρ s v x rel r1)) fun zZ σ₁ ρ₁ s₁ zZ zZ rel₁ x₁ zZ=>?_
  exact h4 σ₁ ρ₁ s₁ vs ws' rel₁ (r2.mono x₁) (by simpa using hl)
noncomputable def qm (n:Nat) (m:List V→M Unit):V→M Unit
 | .tup vs=>if vs.length=n then m vs else stuck
 | _=>stuck
theorem gz (fk:FOk F) {es:List Expr} {m:List V→M Unit} (k:Nat) (pos:Pos) (hs:ybt K F es m) (hnh:F.nh=true:=by rfl):SimT K F (.Tuple es k pos) (qm es.length m):=by
 refine kd hs fun o_18 h4=>?_
 try clear hs
 refine yd o_18 fun n h1 h2 h3=>?_
 try clear o_18
 intro σ ρ s v w rel r
 cases v with
 | tup vs=>
  unfold qm;dsimp only
  by_cases hl:vs.length=es.length
  ·rw [if_pos hl];refine qu r.tupOf fun zZ a ws o_19 ht rl=>?_;clear r;obtain rfl:=o_19;refine Run.of_wp fun hne=>?_
   refine wpAny_assign_Tuple (fk.hd hnh) (items:=ws.toArray) ht (by simp only [h1,h2,List.size_toArray,rl.length,hl]) h3 fun h' hx=>?_
   have hk:=jan hx
   have rel':Rel K F σ ρ {s with heap:=h'}:=rel.kept hk rfl rfl
   have x':Ext F.mine ρ ρ s.heap h':=Ext.kept hk
   refine wpAny_mono ((h4 σ ρ {s with heap:=h'} vs ws rel' (rl.mono x') hl).wp hne) ?_ ?_
   ·rintro b s'' ⟨b',σ'',ρ',e,q1,q2,q3⟩; exact (zd b' σ'' ρ' e q1 (x'.trans q2) q3)
   ·rintro b s'' ⟨b',σ'',ρ',e,q1,q2,q3⟩; exact (zd b' σ'' ρ' e q1 (x'.trans q2) (q3.up x'))
  ·rw [if_neg hl]; exact Run.stuck
 | _=>exact Run.stuck
end
section
variable {K:Glo} {F:Frm}
section
variable {σ:S} {ρ ρ₀:List Addr} {s s':Shared} {mine:List Addr} {h h₀ h':Heap} {a:Addr} {o:Obj}
noncomputable abbrev NF (c:Value):Prop:=c≠.type "range" ∧ c≠.type "code"
theorem Ext.but {vs:Array Value} (x:Ext mine ρ₀ ρ h₀ h) (h0:h₀.get? a=none) (ho:h.get? a=some o) (hd:o.data = .fields vs) (hc:NF o.cls) (hx:Heap.ExtBut a h h'):Ext mine ρ₀ ρ h₀ h' where
 pre:=x.pre
 alive:=fun b o' e=>by
  refine qb (x.alive b o' e) fun o1 e1=>?_
  exact ⟨o1,hx b o1 (by rintro rfl; rw [h0] at e; (injection e)) e1⟩
 new:=x.new
 keep:=fun b o' e n1 n2=>by
  refine ya (x.keep b o' e n1 n2) fun o1 e1 l1=>?_
  exact (ja o1 (hx b o1 (by rintro rfl; rw [h0] at e; (injection e)) e1) l1)
 froz:=fun b o' e f=>hx b o' (by rintro rfl; rw [h0] at e; (injection e)) (x.froz b o' e f)
theorem kj {vs:Array Value} {b:Addr} {o':Obj} (ho:h.get? a=some o) (hd:o.data = .fields vs) (hc:NF o.cls) (e:h.get? b=some o') (f:Froz o'):b≠a:=by
 rintro rfl
 rw [ho] at e; (injection e with c_1; subst c_1)
 rcases f with ⟨_,_,_,f⟩ | ⟨f | f,_⟩
 ·rw [hd] at f; (injection f)
 ·exact hc.1 f
 ·exact hc.2 f
theorem kak {vs:Array Value} {b:Addr} {m:Str→Option Value} (ho:h.get? a=some o) (hd:o.data = .fields vs) (e:h.Ns b m):b≠a:=by
 rintro rfl
 refine yk e fun o' es ep e' d zZ=>?_
 try clear e
 rw [ho] at e'; (injection e' with c_1; subst c_1); rw [hd] at d; (injection d)
theorem yx {vs:Array Value} {b:Addr} {v:Option Value} (ho:h.get? a=some o) (hd:o.data = .fields vs) (e:h.IsCell b v):b≠a:=by
 rintro rfl
 refine ya e fun o' e' d=>?_
 try clear e
 rw [ho] at e'; (injection e' with c_1; subst c_1); rw [hd] at d; (injection d)
theorem GRel.but {st:gb} {vs:Array Value} (rel:GRel K st ρ s) (hρ:a∉ρ) (hb:K.base.get? a=none) (ho:s.heap.get? a=some o) (hd:o.data = .fields vs) (hc:NF o.cls) (hx:Heap.ExtBut a s.heap s'.heap)
  (hg:s'.gens=s.gens) (hos:s'.os=s.os):GRel K st ρ s' where
 gens:=hg.trans rel.gens
 os:=hos.trans rel.os
 base:=fun b o' e=>hx b o' (by rintro rfl; rw [hb] at e; (injection e)) (rel.base b o' e)
 len:=rel.len
 cell:=fun l b c h1 h2=>by
  refine (rel.cell l b c h1 h2).mono (List.prefix_refl _) (fun d o' e f=>hx d o' (kj ho hd hc e f) e) (fun o e zZ=>hx b o (fun q=>hρ (q ▸ List.mem_of_getElem? h1)) e) fun c v n=>by
   have hne:=yx ho hd n;refine ya n fun o' e' r=>?_
   try clear n
   exact (ja o' (hx _ _ hne e') r)
 nodup:=rel.nodup
 above:=rel.above
 own:=fun b hb=>let ⟨o',e,r⟩:=rel.own b hb; ⟨o',hx b o' (kj ho hd hc e (.inl r)) e,r⟩
theorem Rel.but {vs:Array Value} (rel:Rel K F σ ρ s) (hρ:a∉ρ) (hb:K.base.get? a=none) (hm:a∉F.mine) (ho:s.heap.get? a=some o) (hd:o.data = .fields vs) (hc:NF o.cls) (hx:Heap.ExtBut a s.heap s'.heap)
  (hg:s'.gens=s.gens) (hos:s'.os=s.os):Rel K F σ ρ s' where
 toGRel:=rel.toGRel.but hρ hb ho hd hc hx hg hos
 vars:=fun y u e=>by
  refine ya (rel.vars y u e) fun w h1 h2=>?_;refine (ja w (h1.mono (fun m n=>?_) (fun c u zZ n=>?_)) (Rep.mono' (List.prefix_refl _) (fun d o' e f=>hx d o' (kj ho hd hc e f) e) h2))
  ·have hne:=kak ho hd n;refine wm n fun o' es ep e' r=>?_
   try clear n
   exact (gn o' es ep (hx _ _ hne e') r)
  ·have hne:=yx ho hd n;refine ya n fun o' e' r=>?_
   try clear n
   exact (ja o' (hx _ _ hne e') r)
 loc:=by
  refine qb rel.loc fun m n=>?_;have hne:=kak ho hd n;refine wm n fun o' es ep e' r=>?_
  try clear n
  exact (z6 m o' es ep (hx _ _ hne e') r)
 cels:=fun y c e=>by
  refine qb (rel.cels y c e) fun v n=>?_;have hne:=yx ho hd n;refine ya n fun o' e' r=>?_
  try clear n
  exact (yh v o' (hx _ _ hne e') r)
 mineAbove:=fun b hb'=>by
  refine xl (rel.mineAbove b hb') fun h1 o' h2=>?_
  exact (qh h1 o' (hx b o' (by rintro rfl; exact hm hb') h2))
 mineApart:=rel.mineApart
 mineLoc:=rel.mineLoc
 frs:=rel.frs.next fun b o' es n g d=>⟨o',es,n,hx b o' (by
  rintro rfl
  rw [ho] at g; (injection g with c_1; subst c_1); rw [hd] at d; (injection d)) g,d⟩
end
noncomputable def jaf:List String:=["enumerate", "zip", "dict_itemiterator", "dict_reverseitemiterator", "odict_iterator", "itertools.zip_longest", "itertools.pairwise"]
theorem yas {target:Expr} {I:Addr} {v:Value} {s:Shared} {o:Obj} {T:String} {Q:Unit→Shared→Prop} {E:Value→Shared→Prop} (ho:s.heap.get? I=some o) (hc:o.cls = .type T)
  (hT:jaf.contains T=false) (h:Q () s):wpAny (model K.prog K.w) F.A (letOwnedTupleGo target (.ref I) v) Q E s:=by
 have key:∀ {vs:Array Value} {a:Addr},o.data = .fields vs→(jaf.contains T && vs[0]? == some (rawInt a))=false:=by
  intro vs a _; rw [hT]; rfl
 have main:wpAny (model K.prog K.w) F.A (do
  let (.ref r,.ref a):=(Value.ref I,v) | return
  let o ← load r
  match o.cls,o.data with
  | .type n,.fields vs=>
   if jaf.contains n && vs[0]? == some (rawInt a) then
    rule "for.unpacks-the-owned-tuple"
    updateField r 0 .none
  | _,_=>pure ()) Q E s:=by
  cases v with
  | ref b=>
   refine wpAny_bind (wpAny_load ho ?_);rw [hc]
   cases hd:o.data <;> first | exact wpAny_pure h | skip
   rename_i vs;dsimp only;rw [hT];exact wpAny_pure h
  | _=>exact wpAny_pure h
 cases target <;> first | exact main | exact wpAny_pure h
noncomputable def forG (nxt:S→Nat→Option (Option V)) (t:V→M Unit) (b:M Fl):Nat→Nat→M Fl
 | 0,_=>stuck
 | n + 1,i=>fun σ=>match nxt σ i with
  | none=>.stuck
  | some none=>.ok .next σ
  | some (some v)=>(do
   t v
   match ← b with
   | .next=>forG nxt t b n (i + 1)
   | .cont=>forG nxt t b n (i + 1)
   | .brk=>pure .next
   | .ret v=>pure (.ret v)) σ
noncomputable def Iter (K:Glo) (F:Frm) (I:Addr) (Src:Nat→Obj→Prop) (nxt:S→Nat→Option (Option V)) (ρ₁:List Addr) (h₁:Heap):Prop :=
 (∀ i o,Src i o→∃ vs T,o.data = .fields vs∧o.cls = .type T∧jaf.contains T=false∧T ≠ "range" ∧ T ≠ "code")∧
 (∀ i o (s:Shared) (A:Around) (Q:Value→Shared→Prop) (E:Value→Shared→Prop),s.heap.get? I=some o→Src i o→Q (.ref I) s→wpAny (model K.prog K.w) A (pyIter (.ref I)) Q E s)∧
 ∀ σ ρ s i o,Rel K F σ ρ s→Ext F.mine ρ₁ ρ h₁ s.heap→s.heap.get? I=some o→Src i o→
  match nxt σ i with
  | none=>True
  | some none=>wpAny (model K.prog K.w) F.A (pyNext (.ref I)) (fun r s'=>r=none∧Heap.ExtBut I s.heap s'.heap∧s'.gens=s.gens∧s'.os=s.os) (fun _ _=>False) s
  | some (some v)=>wpAny (model K.prog K.w) F.A (pyNext (.ref I)) (fun r s' => ∃ w,r=some w∧Heap.ExtBut I s.heap s'.heap∧s'.gens=s.gens∧s'.os=s.os∧(∃ o',s'.heap.get? I=some o'∧Src (i + 1) o')∧Rep K s'.heap ρ v w) (fun _ _=>False) s
theorem kah {prog:Program} {w:World} {A:Around} {s:Shared} {R:Result→Shared→Prop} {target:Expr} {it:Value} {body:List Stmt} {env:Env} (RQ:Flow→Shared→Prop) (N:Value→Shared→Prop) (hR:∀ f s',RQ f s'→R (.ok f) s')
  (hN:∀ v s',N v s'→notedBy (model prog w) A env (fun e s'=>R (.error e) s') v s') (I:Nat→Shared→Prop)
  (turn:∀ n s,I n s→wpAny (model prog w) A (pyNext it) (fun r s₁=>match r with
   | none=>RQ .next s₁
   | some v=>wpAny (model prog w) A (letOwnedTupleGo target it v) (fun zZ s₁'=>wpAny (model prog w) A (assign target env v) (fun zZ s₂=>wpAny (model prog w) A (execs body env) (fun f s₃=>match f with
     | .next | .cont => ∃ m,m < n∧I m s₃
     | .brk=>RQ .next s₃
     | .ret v=>RQ (.ret v) s₃) N s₂) N s₁') N s₁) N s)
  (n:Nat) (h:I n s):codeAny (model prog w) A (.forLoop target it body [] env) R s:=by
 refine codeAny_loop' rfl I (fun n s hI=>?_) n h
 show wpAny _ _ ((forTurn target it body [] env).onRaise (fun x=>do noteFrame x env; theTreesLotGoes x)) _ _ s
 refine wpAny_noted (wpAny_mono (E:=N) ?_ (fun zZ zZ q=>q) hN);unfold forTurn;refine wpAny_bind (wpAny_standAt (wpAny_bind (wpAny_onRaise (wpAny_mono (turn n s hI) (fun r s₁ h₁=>?_) fun zZ zZ h'=>wpAny_standAt h'))))
 cases r with
 | none=>exact wpAny_pure (.inr ⟨rfl,codeAny_block (wpAny_execs_nil (hR _ _ h₁))⟩)
 | some v=>
  refine wpAny_bind (wpAny_mono h₁ (fun zZ s₁' h₁'=>?_) fun zZ zZ h'=>h');refine wpAny_bind (wpAny_mono h₁' (fun zZ s₂ h₂=>wpAny_bind (wpAny_mono h₂ (fun f s₃ h₃=>?_) fun zZ zZ h'=>h')) fun zZ zZ h'=>h')
  cases f with
  | next=>exact wpAny_pure (.inl ⟨rfl,h₃⟩)
  | cont=>exact wpAny_pure (.inl ⟨rfl,h₃⟩)
  | brk=>exact wpAny_pure (hR _ _ h₃)
  | ret v=>exact wpAny_pure (hR _ _ h₃)
theorem kch (nxt:S→Nat→Option (Option V)) (t:V→M Unit) (b:M Fl) (n i:Nat) (σ:S):forG nxt t b (n + 1) i σ=(match nxt σ i with
  | none=>.stuck
  | some none=>.ok .next σ
  | some (some v)=>match t v σ with
   | .stuck=>.stuck
   | .exc e σ₂=>.exc e σ₂
   | .ok _ σ₂=>match b σ₂ with
    | .ok .next σ₃=>forG nxt t b n (i + 1) σ₃
    | .ok .cont σ₃=>forG nxt t b n (i + 1) σ₃
    | .ok .brk σ₃=>.ok .next σ₃
    | .ok (.ret v) σ₃=>.ok (.ret v) σ₃
    | .exc e σ₃=>.exc e σ₃
    | .stuck=>.stuck):=by
 rw [forG];dsimp only
 cases nxt σ i with
 | none=>rfl
 | some x=>
  cases x with
  | none=>rfl
  | some v=>
   dsimp only;rw [M.bind_def]
   cases t v σ with
   | stuck=>rfl
   | exc e y=>rfl
   | ok u y=>
    dsimp only;rw [M.bind_def]
    cases b y with
    | stuck=>rfl
    | exc e z=>rfl
    | ok f z=>cases f <;> rfl
noncomputable def forK (g:M Fl):Fl→M Fl
 | .next=>g
 | .cont=>g
 | .brk=>pure .next
 | .ret v=>pure (.ret v)
theorem xch (nxt:S→Nat→Option (Option V)) (t:V→M Unit) (b:M Fl) (n i:Nat) (σ:S):forG nxt t b (n + 1) i σ=(match nxt σ i with
  | none=>.stuck
  | some none=>.ok .next σ
  | some (some v)=>(t v >>= fun zZ=>b >>= forK (forG nxt t b n (i + 1))) σ):=by
 have e:forK (forG nxt t b n (i + 1))=fun f=>(match f with
   | .next=>forG nxt t b n (i + 1)
   | .cont=>forG nxt t b n (i + 1)
   | .brk=>pure .next
   | .ret v=>pure (.ret v)):=by funext f; cases f <;> rfl
 simp only [e,forG]
theorem jab {target:Expr} {body:List Stmt} {t:V→M Unit} {b:M Fl} (ht:SimT K F target t) (hb:yj K F body b) {I:Addr} {Src:Nat→Obj→Prop} {nxt:S→Nat→Option (Option V)}
  {σ:S} {ρ ρ₀:List Addr} {s:Shared} {h₀:Heap} {o:Obj} (hI:Iter K F I Src nxt ρ₀ h₀) (rel:Rel K F σ ρ s) (x₀:Ext F.mine ρ₀ ρ h₀ s.heap) (h0:h₀.get? I=none) (hbase:K.base.get? I=none)
  (hmi:I∉F.mine) (hρ:I∉ρ) (ho:s.heap.get? I=some o) (hs:Src 0 o) (n:Nat) (hne:forG nxt t b n 0 σ≠.stuck) :
  wpAny (model K.prog K.w) F.A (runOwn (.forLoop target (.ref I) body [] F.env) F.env) (QO K F (qs K) (forG nxt t b n 0 σ) ρ₀ h₀) (EO K F (forG nxt t b n 0 σ) ρ₀ h₀) s:=by
 refine wpAny_runOwn ?_
 refine kah (R:=fun r s'=>match r with | .ok f=>QO K F (qs K) (forG nxt t b n 0 σ) ρ₀ h₀ f s' | .error e=>cameBackBy (model K.prog K.w) F.A F.env (EO K F (forG nxt t b n 0 σ) ρ₀ h₀) e s')
  (QO K F (qs K) (forG nxt t b n 0 σ) ρ₀ h₀) (EO K F (forG nxt t b n 0 σ) ρ₀ h₀) (fun zZ zZ q=>q) (fun zZ zZ hx=>hx.notedN fun zZ zZ q=>q.back)
  (fun k s' => ∃ σ₁ ρ' i o,Rel K F σ₁ ρ' s'∧forG nxt t b k i σ₁=forG nxt t b n 0 σ∧Ext F.mine ρ₀ ρ' h₀ s'.heap∧I∉ρ'∧s'.heap.get? I=some o∧Src i o) ?_ n
  ⟨σ,ρ,0,o,rel,rfl,x₀,hρ,ho,hs⟩
 generalize forG nxt t b n 0 σ=out at hne ⊢
 rintro k s₁ ⟨σ₁,ρ',i,o₁,rel₁,e₁,x₁,hρ₁,ho₁,hs₁⟩
 cases k with
 | zero=>exact absurd e₁.symm hne
 | succ k=>
  refine ym (hI.1 i o₁ hs₁) fun vs₁ T₁ hd₁ hc₁ hT₁ hr₁=>?_
  have hc₁':NF o₁.cls:=by rw [hc₁]; exact ⟨fun e=>hr₁.1 (by cases e; rfl),fun e=>hr₁.2 (by cases e; rfl)⟩
  have hstep:=hI.2.2 σ₁ ρ' s₁ i o₁ rel₁ x₁ ho₁ hs₁
  have e₀:(match nxt σ₁ i with
   | none=>.stuck
   | some none=>.ok .next σ₁
   | some (some v)=>(t v >>= fun zZ=>b >>= forK (forG nxt t b k (i + 1))) σ₁:Res S Fl)=out:=e₁ ▸ (xch ..).symm
  clear e₁;refine z7 fun Qx Ex hQ hE=>?_
  cases en:nxt σ₁ i with
  | none=>rw [en] at e₀; exact absurd e₀.symm hne
  | some ov=>
   rw [en] at hstep e₀
   cases ov with
   | none=>
    refine wpAny_mono hstep (fun r s₂ h=>?_) fun zZ zZ h=>h.elim;refine xj h fun o_20 hx hg hos=>?_
    try clear h
    obtain rfl:=o_20;exact hQ _ _ ⟨.next,σ₁,ρ',e₀.symm,rel₁.but hρ₁ hbase hmi ho₁ hd₁ hc₁' hx hg hos,x₁.but h0 ho₁ hd₁ hc₁' hx,rfl⟩
   | some v=>
    have hold:∀ {ρ₂ ρ₃:List Addr} {g g':Heap} {oo:Obj},Ext F.mine ρ₂ ρ₃ g g'→I∉ρ₂→g.get? I=some oo→(∃ vs,oo.data = .fields vs)→g'.get? I=some oo∧I∉ρ₃:=by
     intro ρ₂ ρ₃ g g' oo x hn e ⟨vs,d⟩;refine ya (x.keep I oo e hn hmi) fun o' e' l=>?_
     refine ⟨by rw [e',l.same (fun es n q=>by rw [d] at q; (injection q))],fun hin=>?_⟩
     rcases x.new I hin with q | q
     ·exact hn q
     ·rw [e] at q; (injection q)
    refine wpAny_mono hstep (fun r s₂ h=>?_) fun zZ zZ h=>h.elim;refine wrap fun G_ hG_=>?_;obtain ⟨w,o_21,hx,hg,hos,o_22,rv⟩:=h;refine hG_ ?_;clear hG_ G_;obtain rfl:=o_21;refine ya o_22 fun o₂ ho₂ hs₂=>?_
    try clear o_22
    refine ym (hI.1 (i + 1) o₂ hs₂) fun vs₂ T₂ hd₂ hc₂ hT₂ hr₂=>?_;refine hQ _ _ (yas ho₂ hc₂ hT₂ (z7 fun Qy Ey hQ2 hE2=>?_));refine (ht σ₁ ρ' s₂ v w (rel₁.but hρ₁ hbase hmi ho₁ hd₁ hc₁' hx hg hos) rv).stepW (x₁.but h0 ho₁ hd₁ hc₁' hx) hne e₀ (fun q=>hE2 _ _ q) fun zZ σ₃ ρ₃ zZ s₃ e₃ rel₃ y₃ x₃ zZ=>?_;refine kd (hold y₃ hρ₁ ho₂ ⟨_,hd₂⟩) fun ho₃ hρ₃=>?_;refine hQ2 _ _ (z7 fun Qz Ez hQ3 hE3=>?_);refine (hb σ₃ ρ₃ s₃ rel₃).stepW x₃ hne e₃ (fun q=>hE3 _ _ q) fun f σ₄ ρ₄ wf s₄ e₄ rel₄ y₄ x₄ rf=>?_;refine kd (hold y₄ hρ₃ ho₃ ⟨_,hd₂⟩) fun ho₄ hρ₄=>?_
    cases f with
    | next=>have:wf = .next:=rf; subst this; exact hQ3 _ _ ⟨k,Nat.lt_succ_self _,σ₄,ρ₄,i + 1,o₂,rel₄,e₄,x₄,hρ₄,ho₄,hs₂⟩
    | cont=>have:wf = .cont:=rf; subst this; exact hQ3 _ _ ⟨k,Nat.lt_succ_self _,σ₄,ρ₄,i + 1,o₂,rel₄,e₄,x₄,hρ₄,ho₄,hs₂⟩
    | brk=>have:wf = .brk:=rf; subst this; exact hQ3 _ _ ⟨.next,σ₄,ρ₄,e₄.symm,rel₄,x₄,rfl⟩
    | ret v=>obtain ⟨w,e,r⟩:=rf; subst e; exact hQ3 _ _ ⟨.ret v,σ₄,ρ₄,e₄.symm,rel₄,x₄,w,rfl,r⟩
end
section
variable {K:Glo} {F:Frm}
theorem QO.up {α β:Type} {R:Heap→List Addr→β→α→Prop} {out:Res S β} {ρ ρ':List Addr} {h h':Heap} {a:α} {s:Shared} (x:Ext F.mine ρ ρ' h h') (q:QO K F R out ρ' h' a s):QO K F R out ρ h a s:=by
 refine ze q fun b σ ρ'' e r1 r2 r3=>?_
 try clear q; exact (zd b σ ρ'' e r1 (x.trans r2) r3)
theorem EO.up {β:Type} {out:Res S β} {ρ ρ':List Addr} {h h':Heap} {a:Value} {s:Shared} (x:Ext F.mine ρ ρ' h h') (q:EO K F out ρ' h' a s):EO K F out ρ h a s:=by
 refine ze q fun b σ ρ'' e r1 r2 r3=>?_
 try clear q; exact (zd b σ ρ'' e r1 (x.trans r2) (r3.up x))
theorem Run.bindWp {α β δ:Type} {t:Sem α} {R:Heap→List Addr→β→α→Prop} {m:M β} {k:β→M δ} {σ:S} {ρ:List Addr} {s:Shared} {P:α→Shared→Prop}
  (h1:Run K F t R (m σ) ρ s) (hne:(m >>= k) σ≠.stuck)
  (h2:∀ b σ' ρ' s' a,m σ = .ok b σ'→(m >>= k) σ=k b σ'→Rel K F σ' ρ' s'→Ext F.mine ρ ρ' s.heap s'.heap→R s'.heap ρ' b a→P a s') :
  wpAny (model K.prog K.w) F.A t P (EO K F ((m >>= k) σ) ρ s.heap) s:=by
 cases e:m σ with
 | stuck=>exact absurd (by rw [M.bind_def,e]) hne
 | ok b σ'=>
  rw [e] at h1;have e2:(m >>= k) σ=k b σ':=M.bind_ok e;exact wpAny_mono h1 (fun a s' ⟨ρ',r1,r2,r3⟩=>h2 b σ' ρ' s' a e e2 r1 r2 r3) fun zZ zZ h=>h.elim
 | exc x σ'=>
  rw [e] at h1
  have e2:(m >>= k) σ = .exc x σ':=by rw [M.bind_def,e]
  exact wpAny_mono h1 (fun zZ zZ h=>h.elim) fun v s' ⟨ρ',r1,r2,r3⟩=>(zd x σ' ρ' e2 r1 r2 r3)
noncomputable def Room (A:Around) (n:Nat):Prop:=A.handled=none∧A.depth + n < recursionLimit∧A.units + 1000 + 10 * n < cLine
theorem Room.deeper {A:Around} {n:Nat} (r:Room A (n + 1)) (env:Env):Room (A.deeper env) n:=by
 refine yt r fun h1 h2 h3=>?_
 try clear r
 refine ⟨h1,?_,?_⟩
 ·show A.depth + 1 + n < _; exact nL4 h2
 ·show A.units + 3 + 1000 + 10 * n < _; exact nL5 h3
theorem Room.le {A:Around} {n k:Nat} (r:Room A n) (h:k≤n):Room A k:=⟨r.1,by have:=r.2.1; exact nL6 this h,by have:=r.2.2; exact nL7 this h⟩
noncomputable abbrev Fun:=List V→gb→Res gb V
noncomputable def XOut (K:Glo) (e:Exc) (h₀:Heap) (v:Value) (s:Shared):Prop:= ∃ X,(∀ b∈X,h₀.get? b=none)∧(∀ b∈X,K.base.get? b=none)∧XObj true (fun fl=>fl = .none) e X v s.heap
noncomputable def FrA (K:Glo) (A:Around) (h:Heap):Prop:= ∃ l,A.frames=some l∧xp K h l
noncomputable def wb7 (K:Glo) (A:Around) (out:Res gb V) (ρ:List Addr) (h:Heap):Result→Shared→Prop:=fun r s'=>
 (∃ v st' w ρ',out = .ok v st'∧r = .ok (.ret w)∧GRel K st' ρ' s'∧Ext [] ρ ρ' h s'.heap∧Rep K s'.heap ρ' v w)∨
 (∃ e st' w ρ',out = .exc e st'∧r = .error w∧GRel K st' ρ' s'∧Ext [] ρ ρ' h s'.heap∧XOut K e h w s')
noncomputable def jbt (K:Glo) (lvl:Nat) (f:Value) (P:Args→List Value→Prop) (g:Fun):Prop :=
 ∀ A,Room A lvl→∀ st ρ s,GRel K st ρ s→FrA K A s.heap→∀ args vs ws,P args ws→RepL K s.heap ρ vs ws→g vs st≠.stuck→
  codeAny (model K.prog K.w) A (.call f args) (wb7 K A (g vs st) ρ s.heap) s
noncomputable def PosA (args:Args) (ws:List Value):Prop:=args=⟨ws,[]⟩
noncomputable abbrev SimF (K:Glo) (lvl:Nat) (f:Value) (g:Fun):Prop:=jbt K lvl f PosA g
noncomputable def xh (g:Fun) (vs:List V):M V:=fun σ=>match g vs σ.st with
 | .ok v st=>.ok v {σ with st:=st}
 | .exc e st=>.exc e {σ with st:=st}
 | .stuck=>.stuck
theorem z0 {mine ρ ρ':List Addr} {h h':Heap} (x:Ext [] ρ ρ' h h'):Ext mine ρ ρ' h h':=⟨x.pre,x.alive,x.new,fun b o e n1 zZ=>x.keep b o e n1 (by simp),x.froz⟩
theorem Rel.called {σ:S} {ρ ρ':List Addr} {s s':Shared} {st':gb} (rel:Rel K F σ ρ s) (g:GRel K st' ρ' s') (x:Ext [] ρ ρ' s.heap s'.heap) (fk:FOk F):Rel K F {σ with st:=st'} ρ' s':=by
 have hns:∀ {a:Addr} {m:Str→Option Value},s.heap.Ns a m→a∉ρ→s'.heap.Ns a m:=by
  intro a m n hn;refine ze n fun o es ep e d k f=>?_
  try clear n
  refine ya (x.keep a o e hn (by simp)) fun o' e' l=>?_
  exact (zd o' es ep e' (l.data.1.trans d) k f)
 have hnl:F.env.locals∉ρ:=rel.mineApart _ rel.mineLoc
 have hcell:∀ {c:Addr} {v:Option Value},s.heap.IsCell c v→s'.heap.IsCell c v:=by
  intro c v n
  have hn:c∉ρ:=fun hc=>by
   exact zab (rel.toGRel.alive hc) n rfl
  refine ya n fun o e d=>?_
  try clear n
  refine ya (x.keep c o e hn (by simp)) fun o' e' l=>?_
  exact (ja o' e' (l.data.1.trans d))
 refine {toGRel:=g,vars:=?_,loc:=?_,cels:=?_,mineAbove:=?_,mineApart:=?_,mineLoc:=rel.mineLoc,frs:=rel.frs.next fun b o es n q d=>?_}
 ·intro y v e;refine ya (rel.vars y v e) fun w h1 h2=>?_;exact (ja w (h1.mono (fun m n=>hns n hnl) (fun c u zZ n=>hcell n)) (h2.mono x))
 ·refine qb rel.loc fun m n=>?_; exact ⟨m,hns n hnl⟩
 ·intro y c e;refine qb (rel.cels y c e) fun v n=>?_; exact ⟨v,hcell n⟩
 ·intro a ha;refine xl (rel.mineAbove a ha) fun h1 o h2=>?_;refine qb (x.alive a o h2) fun o' h3=>?_;exact (qh h1 o' h3)
 ·intro a ha hb
  rcases x.new a hb with h1 | h1
  ·exact rel.mineApart a ha h1
  ·refine xl (rel.mineAbove a ha) fun zZ o h2=>?_;rw [h1] at h2; (injection h2)
 ·have hb:b∉ρ:=fun hb=>by
   refine ya (rel.toGRel.alive hb) fun o' e c=>?_
   rw [q] at e; (injection e with c_1; subst c_1); exact c.dict d
  refine ya (x.keep b o q hb (by simp)) fun o' e' l=>?_
  exact (gn o' es n e' (l.data.1.trans d))
theorem XOut.toX {e:Exc} {h₀:Heap} {v:Value} {s:Shared} (x:XOut K e h₀ v s) (hm:∀ a∈F.mine,∃ o,h₀.get? a=some o):XRep K F e h₀ v s:=by
 refine zf x fun X f g hc' a' t' tok' oe' vs' q1 q2 q3 q4 q5 q6 q7 q8=>?_
 try clear x
 refine (kl X f (fun b hb=>⟨g b hb,fun q=>?_⟩) hc' a' t' tok' oe' vs' q1 q2 q3 q4 q5 q6 q7 ?_)
 ·refine qb (hm b q) fun o e=>?_;rw [f b hb] at e; (injection e)
 ·rcases q8 with ⟨q,_⟩ | ⟨T',oT',ts',fl',r1,r2,r3,r4,r5,r6,r7,r8⟩
  ·(injection q)
  ·exact .inr (jn T' oT' ts' fl' r1 r2 r3 r4 r5 r6 r7 (.inl r8))
theorem Rel.frA {σ:S} {ρ:List Addr} {s:Shared} (rel:Rel K F σ ρ s):FrA K F.A s.heap:=by
 refine yc rel.frs fun e l a1 a2 a3=>?_;exact (ja _ a1 a3)
theorem zbm (fk:FOk F) {f:Value} {P:Args→List Value→Prop} {g:Fun} {lvl:Nat} (hf:jbt K lvl f P g) (hr:Room F.A lvl) {σ:S} {ρ:List Addr} {s:Shared} {vs:List V} {ws pos:List Value} {kw:List (Str×Value)} (rel:Rel K F σ ρ s) (r:RepL K s.heap ρ vs ws) (hP:P ⟨pos,kw⟩ ws) :
  Run K F (PySem.call f pos kw) (Rep K) (xh g vs σ) ρ s:=by
 refine Run.of_wp fun hne=>?_
 have hne':g vs σ.st≠.stuck:=by
  intro e; apply hne; unfold xh; rw [e]
 refine wpAny_call (codeAny_mono (hf F.A hr σ.st ρ s rel.toGRel rel.frA _ vs ws hP r hne') fun r s' h=>?_)
 rcases h with ⟨v,st',w,ρ',e,rfl,gr,x,rv⟩ | ⟨e,st',w,ρ',e1,rfl,gr,x,rv⟩
 ·exact (zd v ({σ with st:=st'}) ρ' (by unfold xh; rw [e]) (rel.called gr x fk) (z0 x) rv)
 ·exact (zd e ({σ with st:=st'}) ρ' (by unfold xh; rw [e1]) (rel.called gr x fk) (z0 x) (rv.toX fun a ha=>(rel.mineAbove a ha).2))
theorem kbu (fk:FOk F) {f:Value} {g:Fun} {lvl:Nat} (hf:SimF K lvl f g) (hr:Room F.A lvl) {σ:S} {ρ:List Addr} {s:Shared} {vs:List V} {ws:List Value} (rel:Rel K F σ ρ s) (r:RepL K s.heap ρ vs ws) :
  Run K F (PySem.call f ws) (Rep K) (xh g vs σ) ρ s:=zbm fk hf hr rel r rfl
noncomputable def ke:List String→List V→String→Option V
 | x :: xs,v :: vs=>fun y=>if y=x then some v else ke xs vs y
 | _,_=>fun _=>none
noncomputable def funM (params:List String) (body:M Fl):Fun:=fun vs st=>
 if vs.length=params.length then
  match body ⟨st,ke params vs⟩ with
  | .ok (.ret v) σ'=>.ok v σ'.st
  | .ok _ σ'=>.ok .none σ'.st
  | .exc e σ'=>.exc e σ'.st
  | .stuck=>.stuck
 else .stuck
theorem xak {kindOf:Str→Option NameKind}:∀ (binds:List (Str×Value)) (m:Str→Option Value) {x:Str} {w:Value},(binds.map (·.1)).Nodup→kindOf x=some .local→
  ((x,w)∈binds→bindL kindOf binds m x=some w)∧(x∉binds.map (·.1)→bindL kindOf binds m x=m x)
 | [],m,x,w,_,_=>⟨fun h=>by simp at h,fun zZ=>rfl⟩
 | (n,v) :: r,m,x,w,hn,hk=>by
  refine kd (List.nodup_cons.mp hn) fun n1 n2=>?_;refine ⟨fun h=>?_,fun h=>?_⟩
  ·rcases List.mem_cons.mp h with h | h
   ·cases h
    unfold bindL;rw [(xak r _ (w:=v) n2 hk).2 n1,if_pos hk]; simp
   ·unfold bindL;exact (xak r _ n2 hk).1 h
  ·have h1:x≠n:=fun e=>h (by simp [e])
   have h2:x∉r.map (·.1):=fun e=>h (List.mem_cons_of_mem _ e);unfold bindL;rw [(xak r _ (w:=w) n2 hk).2 h2]
   split
   ·exact if_neg h1
   ·rfl
theorem gak {kindOf:Str→Option NameKind}:∀ (binds:List (Str×Value)) (m:Str→Option Value) {x:Str} {w:Value},(binds.map (·.1)).Nodup→kindOf x≠some .local→
  ((x,w)∈binds→bindC kindOf binds m x=some w)∧(x∉binds.map (·.1)→bindC kindOf binds m x=m x)
 | [],m,x,w,_,_=>⟨fun h=>by simp at h,fun zZ=>rfl⟩
 | (n,v) :: r,m,x,w,hn,hk=>by
  refine kd (List.nodup_cons.mp hn) fun n1 n2=>?_;refine ⟨fun h=>?_,fun h=>?_⟩
  ·rcases List.mem_cons.mp h with h | h
   ·cases h
    unfold bindC;rw [(gak r _ (w:=v) n2 hk).2 n1,if_neg hk]; simp
   ·unfold bindC;exact (gak r _ n2 hk).1 h
  ·have h1:x≠n:=fun e=>h (by simp [e])
   have h2:x∉r.map (·.1):=fun e=>h (List.mem_cons_of_mem _ e);unfold bindC;rw [(gak r _ (w:=w) n2 hk).2 h2]
   split
   ·rfl
   ·exact if_neg h1
theorem ybm:∀ {ps:List String} {vs:List V} {ws:List Value} {h:Heap} {ρ:List Addr} {x:String} {v:V},RepL K h ρ vs ws→ke ps vs x=some v→
  ∃ w,(Str.ofString x,w)∈(ps.map Str.ofString).zip ws∧Rep K h ρ v w
 | [],vs,ws,h,ρ,x,v,_,e=>by simp [ke] at e
 | p :: ps,[],ws,h,ρ,x,v,_,e=>by simp [ke] at e
 | p :: ps,u :: vs,ws,h,ρ,x,v,r,e=>by
  refine yc (RepL.cons_iff.mp r) fun w ws' o_23 r1 r2=>?_;clear r;obtain rfl:=o_23;unfold ke at e
  by_cases hx:x=p
  ·rw [if_pos hx] at e; (injection e with c_1; subst c_1); subst hx
   exact (ja w (by simp) r1)
  ·rw [if_neg hx] at e;refine ya (ybm r2 e) fun w' h1 h2=>?_
   exact (ja w' (by simp only [List.map_cons,List.zip_cons_cons]; exact List.mem_cons_of_mem _ h1) h2)
structure DefAt (K:Glo) (fa:Addr) (fd:FuncData) (body:List Stmt):Prop where
 obj:∃ o,K.base.get? fa=some o∧o.data = .func fd
 code:K.base.CodeRec fd.code fd.qualname
 body:fd.body = .stmts body
 clo:fd.closure=[]
 glob:fd.globals=mainGlobals
 blt:fd.builtins=builtinsNs
 co:fd.scope.isCoroutine=false
 gen:fd.scope.isGenerator=false
 kind:fd.scope.kind = .function
theorem qb7 {e:Exc} {ρ ρ₀:List Addr} {h₀:Heap} {v:Value} {s:Shared} {σ:S} {Q:Unit→Shared→Prop} {E:Value→Shared→Prop} (x:XRep K F e h₀ v s) (rel:Rel K F σ ρ s) (ext:Ext F.mine ρ₀ ρ h₀ s.heap)
  (h:∀ s',Rel K F σ ρ s'→Ext F.mine ρ₀ ρ h₀ s'.heap→XOut K e h₀ v s'→Q () s'):wpAny (model K.prog K.w) F.A (leaving F.env v) Q E s:=by
 unfold leaving;refine wpAny_bind (x.noted rel ext fun s₁ rel₁ ext₁ x₁=>?_);refine x₁.flight rel₁ ext₁ (.inl rfl) fun s₂ rel₂ ext₂ x₂=>h s₂ rel₂ ext₂ ?_;refine zf x₂ fun X' f' g' hc' a' t' tok' oe' vs' q1 q2 q3 q4 q5 q6 q7 q8=>?_
 try clear x₂
 refine (kl X' f' (fun b hb=>(g' b hb).1) hc' a' t' tok' oe' vs' q1 q2 q3 q4 q5 q6 q7 ?_)
 rcases q8 with ⟨q,_⟩ | ⟨T',oT',ts',fl',r1,r2,r3,r4,r5,r6,r7,r8⟩
 ·(exfalso; exact nomatch q)
 ·exact .inr (jn T' oT' ts' fl' r1 r2 r3 r4 r5 r6 r7 (r8.2 rfl))
noncomputable def xaw (cells:List (Str×Addr)):List Addr:=cells.filterMap fun x=>cells.lookup x.1
theorem ybp {cells:List (Str×Addr)} {c:Addr} (h:c∈xaw cells):∃ n,cells.lookup n=some c:=by
 refine ya (List.mem_filterMap.mp h) fun x zZ e=>?_; exact ⟨x.1,e⟩
theorem xbu {cells:List (Str×Addr)} {x:Str} {c:Addr} (h:cells.lookup x=some c):c∈xaw cells :=
 List.mem_filterMap.mpr (ja (x,c) (mem_of_lookup h) h)
theorem xal:∀ (names:List (Str×NameKind)) (n:Nat) (acc:List (Str×Addr)),(acc.Pairwise fun x y=>x.2≠y.2)→(∀ p∈acc,p.2 < n)→((cellsFrom n names acc).Pairwise fun x y=>x.2≠y.2)
 | [],n,acc,h,_=>h
 | (nm,k) :: r,n,acc,h,hlt=>by
  unfold cellsFrom
  split
  ·refine xal r (n + 1) _ (List.pairwise_cons.mpr ⟨fun p hp=>?_,h⟩) ?_
   ·exact fun e=>absurd (hlt p hp) (by rw [← e]; exact Nat.lt_irrefl _)
   ·intro p hp
    rcases List.mem_cons.mp hp with rfl | hp
    ·exact Nat.lt_succ_self _
    ·exact Nat.lt_succ_of_lt (hlt p hp)
  ·exact xal r n acc h hlt
theorem ycp {names:List (Str×NameKind)} {n:Nat} {x:Str} {c:Addr} (h:(cellsFrom n names []).lookup x=some c):∀ y,(cellsFrom n names []).lookup y=some c→y=x :=
 fun y hy=>name_of_addr (xal names n [] List.Pairwise.nil (by simp)) (mem_of_lookup hy) (mem_of_lookup h)
noncomputable def xah (fd:FuncData) (L fa:Addr) (A:Around):Frm:=⟨callEnvC fd L fa,A,L :: xaw (cellsFrom (L + 1) fd.scope.names []),true⟩
theorem kav {prog:Program} {w:World} {A:Around} {s:Shared} {R:Result→Shared→Prop} {a:Addr} {o:Obj} {fd:FuncData} {body:List Stmt} {args:Args} {binds:List (Str×Value)}
  (hroom:A.depth < recursionLimit) (ho:s.heap.get? a=some o) (hdata:o.data = .func fd) (hlim:s.heap.NoLimit) (hcd:s.heap.CodeRec fd.code fd.qualname)
  (hbody:fd.body = .stmts body) (hbind:BindsTo s fd args binds) (hclo:fd.closure=[])
  (hkind:∀ x∈binds,fd.scope.names.lookup x.1=some .local∨(fd.scope.names.lookup x.1=some .cell∧((cellsFrom (s.heap.objs.size + 1) fd.scope.names []).lookup x.1).isSome=true))
  (h:∀ s₁,InCallC s (callEnvC fd s.heap.objs.size a).locals (bindL (callEnvC fd s.heap.objs.size a).kindOf binds fun zZ=>none) (callEnvC fd s.heap.objs.size a).cells
    (bindC (callEnvC fd s.heap.objs.size a).kindOf binds fun zZ=>none) s₁→
   wpAny (model prog w) (A.deeper (callEnvC fd s.heap.objs.size a)) (execs body (callEnvC fd s.heap.objs.size a)) (fun f s'=>R (.ok (.ret (match f with | .ret v=>v | _=>.none))) s')
    (fun e s'=>wpAny (model prog w) (A.deeper (callEnvC fd s.heap.objs.size a)) (leaving (callEnvC fd s.heap.objs.size a) e) (fun zZ s''=>R (.error e) s'') (fun e' s''=>R (.error e') s'') s') s₁)
  (hco:fd.scope.isCoroutine=false) (hgen:fd.scope.isGenerator=false) (hk:fd.scope.kind = .function) :
  codeAny (model prog w) A (.call (.ref a) args) R s:=by
 refine codeAny_call_function hroom ho hdata hco hgen hbody hcd (hbind _ _ _ _ ?_);rw [hclo];refine wpAny_newFunctionEnv_cells hk hkind fun env he s' x=>?_;subst he;exact ⟨hlim.keeps x.toInCall.keep,codeAny_func (h s' x)⟩
theorem jbm {lvl:Nat} {fa:Addr} {fd:FuncData} {body:List Stmt} {params:List String} {P:Args→List Value→Prop} {mb:M Fl} (hd:DefAt K fa fd body)
  (hnd:params.Nodup)
  (hbind:∀ args (ws:List Value) (s:Shared),(∀ b o,K.base.get? b=some o→s.heap.get? b=some o)→P args ws→ws.length=params.length→BindsTo s fd args ((params.map Str.ofString).zip ws))
  (hkind:∀ n,∀ x∈params,fd.scope.names.lookup (Str.ofString x)=some .local∨(fd.scope.names.lookup (Str.ofString x)=some .cell∧((cellsFrom n fd.scope.names []).lookup (Str.ofString x)).isSome=true))
  (hb:∀ L A,Room A lvl→yj K (xah fd L fa A) body mb):jbt K (lvl + 1) (.ref fa) P (funM params mb):=by
 intro A hroom st ρ s g hfa args vs ws hP r hne
 have hl:vs.length=params.length:=by
  by_cases h:vs.length=params.length
  ·exact h
  ·exact absurd (by unfold funM; rw [if_neg h]) hne
 have hwl:ws.length=params.length:=r.length.trans hl;refine ya hd.obj fun o ho hdat=>?_
 have hmem:∀ x∈(params.map Str.ofString).zip ws,∃ p∈params,x.1=Str.ofString p:=by
  intro x hx;have:=(List.of_mem_zip (a:=x.1) (b:=x.2) hx).1;refine ya (List.mem_map.mp this) fun p hp e=>?_;exact (ja p hp e.symm)
 have hnd':(((params.map Str.ofString).zip ws).map (·.1)).Nodup:=by
  rw [List.map_fst_zip (by simp [hwl])]
  have inj:∀ l:List String,l.Nodup→(l.map Str.ofString).Nodup:=by
   intro l
   induction l with
   | nil=>intro _; exact List.nodup_nil
   | cons a l ih=>
    intro hn;refine kd (List.nodup_cons.mp hn) fun a1 a2=>?_;refine List.nodup_cons.mpr ⟨fun hm=>?_,ih a2⟩;refine ya (List.mem_map.mp hm) fun b hb e=>?_;exact a1 (y7 e ▸ hb)
  exact inj params hnd
 refine kav (fd:=fd) (binds:=(params.map Str.ofString).zip ws) (by have:=hroom.2.1; exact nL8 this) (g.base fa o ho) hdat (K.top.nolimit.keeps g.base) (hd.code.keeps g.base) hd.body (hbind args ws s g.base hP hwl) hd.clo ?_ ?_ hd.co hd.gen hd.kind
 ·intro x hx;refine ya (hmem x hx) fun p hp e=>?_;rw [e]; exact hkind _ p hp
 ·intro s₁ X;have hkeep:=X.toInCall.keep;refine jm X.done fun h₁ tk o_24 zZ=>?_;obtain rfl:=o_24;have hLfresh:=X.toInCall.fresh;have fresh:∀ {a:Addr},s.heap.objs.size≤a→s.heap.get? a=none:=fun ha=>Heap.get?_none_of_le ha
  have fbase:∀ {a:Addr},s.heap.get? a=none→K.base.get? a=none:=by
   intro a ha
   cases e:K.base.get? a with
   | none=>rfl
   | some o'=>have:=g.base a o' e; rw [ha] at this; (injection this)
  have hmineFresh:∀ a∈(xah fd s.heap.objs.size fa (A.deeper (callEnvC fd s.heap.objs.size fa))).mine,s.heap.get? a=none∧∃ o',h₁.get? a=some o':=by
   intro a ha
   rcases List.mem_cons.mp ha with rfl | ha
   ·refine wm X.toInCall.ns fun o' zZ zZ e zZ=>?_;exact (qh (fresh hLfresh) o' e)
   ·refine qb (ybp ha) fun n hn=>?_;have h1:=X.above n a (mem_of_lookup hn);refine ya (X.cell n a hn) fun o' e zZ=>?_;exact (qh (fresh (Nat.le_of_lt (Nat.lt_of_le_of_lt hLfresh h1))) o' e)
  have rel:Rel K (xah fd s.heap.objs.size fa (A.deeper (callEnvC fd s.heap.objs.size fa))) ⟨st,ke params vs⟩ ρ {s with heap:=h₁,toks:=tk}:=by
   refine {toGRel:=g.kept hkeep rfl rfl,vars:=?_,loc:=⟨_,X.toInCall.ns⟩,cels:=fun x c e=>⟨_,X.cell x c e⟩,mineAbove:=?_,mineApart:=?_,mineLoc:=List.mem_cons_self,frs:=?_}
   ·intro x v e;refine ya (ybm r e) fun w h1 h2=>?_;refine (ja w ?_ (Rep.mono' (List.prefix_refl _) (zl hkeep) h2));refine ya (hmem _ h1) fun p hp ep=>?_;have hx:x=p:=y7 ep;subst hx
    rcases hkind (s.heap.objs.size + 1) x hp with hk | ⟨hk,hk2⟩
    ·exact .inl (jp hk _ X.toInCall.ns ((xak _ _ hnd' hk).1 h1))
    ·refine qb (Option.isSome_iff_exists.mp hk2) fun c hc=>?_;refine .inr (jp (.inl hk) c hc ?_)
     have hnl:(callEnvC fd s.heap.objs.size fa).kindOf (Str.ofString x)≠some .local:=by
      show fd.scope.names.lookup (Str.ofString x)≠some .local;rw [hk]; decide
     have:=X.cell _ c hc;rw [(gak _ _ hnd' hnl).1 h1] at this;exact this
   ·intro a ha;refine kd (hmineFresh a ha) fun h1 h2=>?_;exact ⟨fbase h1,h2⟩
   ·intro a ha hb;refine kd (hmineFresh a ha) fun h1 zZ=>?_;refine ya (g.alive hb) fun o' e zZ=>?_;rw [h1] at e; (injection e)
   ·refine ya hfa fun l hl1 hl2=>?_
    try clear hfa
    refine (gk (callEnvC fd s.heap.objs.size fa) l (by show A.frames.map _=_; rw [hl1]; rfl) rfl ?_)
    intro env he
    rcases List.mem_cons.mp he with rfl | he
    ·refine yk X.toInCall.ns fun o' es ep e1 d1 zZ=>?_
     exact (yy (by show fd.scope.kind≠_; rw [hd.kind]; decide) s.heap.objs.size o' _ _ rfl (fbase (fresh (Nat.le_refl _))) e1 d1)
    ·exact hl2.next (fun b o es n zZ q d=>(gn o es n (hkeep b o q) d)) env he
  have hrun:=hb s.heap.objs.size (A.deeper (callEnvC fd s.heap.objs.size fa)) (hroom.deeper _) _ ρ _ rel
  have up:∀ {ρ':List Addr} {h':Heap},Ext (xah fd s.heap.objs.size fa (A.deeper (callEnvC fd s.heap.objs.size fa))).mine ρ ρ' h₁ h'→Ext [] ρ ρ' s.heap h':=by
   intro ρ' h' x;refine ⟨x.pre,fun b o' e=>x.alive b o' (hkeep b o' e),fun a ha=>?_,fun b o' e n1 zZ=>x.keep b o' (hkeep b o' e) n1 (fun hm=>?_),fun b o' e f=>x.froz b o' (hkeep b o' e) f⟩
   ·rcases x.new a ha with h1 | h1
    ·exact .inl h1
    ·refine .inr ?_
     cases e:s.heap.get? a with
     | none=>rfl
     | some o'=>have:=hkeep a o' e; rw [h1] at this; (injection this)
   ·have:=(hmineFresh b hm).1;rw [e] at this; (injection this)
  have hout:funM params mb vs st=(match mb ⟨st,ke params vs⟩ with
   | .ok (.ret v) σ'=>.ok v σ'.st
   | .ok _ σ'=>.ok .none σ'.st
   | .exc e σ'=>.exc e σ'.st
   | .stuck=>.stuck):=by unfold funM; rw [if_pos hl]
  cases em:mb ⟨st,ke params vs⟩ with
  | stuck=>rw [em] at hout; exact absurd hout hne
  | exc e σ'=>
   rw [em] at hrun;rw [em] at hout;refine wpAny_mono hrun (fun zZ zZ h=>h.elim) fun v s' ⟨ρ',rel',x',xr⟩=>?_;refine qb7 (K:=K) (F:=xah fd s.heap.objs.size fa (A.deeper (callEnvC fd s.heap.objs.size fa))) (σ:=σ') xr rel' x' fun s₂ rel₂ x₂ xo=>?_;refine ya xo fun X' f' g'=>?_
   try clear xo
   have f2:∀ b∈X',s.heap.get? b=none:=by
    intro b hb
    cases q:s.heap.get? b with
    | none=>rfl
    | some o'=>have:=hkeep b o' q; rw [f' b hb] at this; (injection this)
   exact .inr ⟨e,σ'.st,v,ρ',hout,rfl,rel₂.toGRel,up x₂,X',f2,g'⟩
  | ok f σ'=>
   rw [em] at hrun hout;refine wpAny_mono hrun (fun wf s' ⟨ρ',rel',x',rf⟩=>?_) fun zZ zZ h=>h.elim
   cases f with
   | ret v=>
    refine ya rf fun w o_25 rw'=>?_
    try clear rf
    obtain rfl:=o_25;exact .inl (jk v σ'.st w ρ' hout rfl rel'.toGRel (up x') rw')
   | next=>have:wf = .next:=rf; subst this; exact .inl (jk .none σ'.st .none ρ' hout rfl rel'.toGRel (up x') Rep.none)
   | brk=>have:wf = .brk:=rf; subst this; exact .inl (jk .none σ'.st .none ρ' hout rfl rel'.toGRel (up x') Rep.none)
   | cont=>have:wf = .cont:=rf; subst this; exact .inl (jk .none σ'.st .none ρ' hout rfl rel'.toGRel (up x') Rep.none)
theorem gbu {lvl:Nat} {fa:Addr} {fd:FuncData} {body:List Stmt} {params:List String} {mb:M Fl} (hd:DefAt K fa fd body)
  (hnd:params.Nodup)
  (hbind:∀ ws:List Value,ws.length=params.length→bindArgs fd ⟨ws,[]⟩=pure ((params.map Str.ofString).zip ws))
  (hkind:∀ n,∀ x∈params,fd.scope.names.lookup (Str.ofString x)=some .local∨(fd.scope.names.lookup (Str.ofString x)=some .cell∧((cellsFrom n fd.scope.names []).lookup (Str.ofString x)).isSome=true))
  (hb:∀ L A,Room A lvl→yj K (xah fd L fa A) body mb):SimF K (lvl + 1) (.ref fa) (funM params mb) :=
 jbm hd hnd (fun args ws s zZ hP hw=>by rw [show args=_ from hP]; exact .of_eq (hbind ws hw)) hkind hb
end
section
variable {K:Glo} {F:Frm}
theorem gaw {A:Around} {s:Shared} {σ:S} {ρ:List Addr} {x:Str} {pos:Pos} {v:Value} {Q:Value→Shared→Prop} {E:Value→Shared→Prop} (fk:FOk F) (rel:Rel K F σ ρ s) (hx:F.env.kindOf x=some .globalImplicit)
  (hg:K.mg x=some v) (h:Q v s) (hd:(x == ("__debug__" : Str))=false:=by decide):wpAny (model K.prog K.w) A (eval (.Name x pos) F.env) Q E s :=
 Calls.Name_function_global fk.kind hx (Calls.loadGlobal_global (mg:=K.mg) (by rw [fk.glob]; exact K.top.g.keeps rel.base) hg h) hd
theorem yv {A:Around} {s:Shared} {σ:S} {ρ:List Addr} {x:Str} {pos:Pos} {v:Value} {Q:Value→Shared→Prop} {E:Value→Shared→Prop} (fk:FOk F) (rel:Rel K F σ ρ s) (hx:F.env.kindOf x=some .globalImplicit)
  (hm:K.mg x=none) (hb:bootBuiltins x=some v) (h:Q v s) (hn:x ≠ "__name__" :=by decide) (hd:(x == ("__debug__" : Str))=false:=by decide):wpAny (model K.prog K.w) A (eval (.Name x pos) F.env) Q E s :=
 Calls.Name_function_global fk.kind hx (Calls.loadGlobal_builtin (mg:=K.mg) (mb:=K.mb) (by rw [fk.glob]; exact K.top.g.keeps rel.base) hm (by rw [fk.blt]; exact K.top.b.keeps rel.base) ((K.top.builtins x hn).trans hb) h) hd
theorem kq (pos:Pos) (l:List (Bool×Sem Value)):(backTo pos l).any (·.1)=l.any (·.1):=by
 unfold backTo; rw [List.any_map]; rfl
theorem j1 {A:Around} {M:Model} {E:Value→Shared→Prop} {s:Shared} {f:Value} {args:List (Bool×Sem Value)} {Q:Args→Shared→Prop} (hpl:args.any (·.1)=false)
  (h:wpAny M A (spliced args) (fun vs s'=>Q ⟨vs,[]⟩ s') E s):wpAny M A (evalArgs f true args []) Q E s:=by
 cases args with
 | nil=>
  unfold evalArgs;show wpAny M A (spliced [] >>= _) Q E s;refine wpAny_bind (wpAny_mono h (fun vs s' h'=>wpAny_bind (wpAny_pure (wpAny_holding ?_))) fun zZ zZ e=>e);exact wpAny_bind (wpAny_pure (wpAny_bind (wpAny_pure (wpAny_pure h'))))
 | cons a r=>
  obtain ⟨b,x⟩:=a
  have:b=false:=by
   rw [List.any_cons] at hpl
   cases b <;> simp_all
  clear hpl;subst this;exact Calls.evalArgs_plain h
theorem jq (x:Str) (np pos:Pos) (args:List Expr) (env:Env):eval (.Call (.Name x np) args [] pos) env=(do callWith pos (← eval (.Name x np) env) [] (backTo pos (starEach args env)) []):=rfl
theorem zbv (fk:FOk F) {x:String} {np pos:Pos} {args:List Expr} {ms:M (List V)} {fa:Addr} {fd:FuncData} {body:List Stmt} {g:Fun} {lvl:Nat}
  (hx:F.env.kindOf (Str.ofString x)=some .globalImplicit) (hg:K.mg (Str.ofString x)=some (.ref fa)) (hd:DefAt K fa fd body) (hf:SimF K lvl (.ref fa) g) (hr:Room F.A lvl) (hs:yab K F args ms)
  (hpl:(starEach args F.env).any (·.1)=false:=by rfl) (hdb:(Str.ofString x == ("__debug__" : Str))=false:=by decide) :
  SimE K F (.Call (.Name (Str.ofString x) np) args [] pos) (do let vs ← ms; xh g vs):=by
 intro σ ρ s rel;refine Run.of_wp fun hne=>?_;simp only [jq];refine wpAny_bind (gaw fk rel hx hg ?_ hdb);refine ya hd.obj fun o ho hdat=>?_
 refine Calls.callWith_function (o:=o) (fd:=fd) (j1 (by rw [kq]; exact hpl) ?_)
 refine Run.bindWp (hs pos σ ρ s rel) hne fun vs σ' ρ' s' ws e1 e2 rel' x' rv=>⟨⟨rel'.base _ _ ho,hdat⟩,?_⟩;rw [e2] at hne ⊢;exact wpAny_mono ((kbu fk hf hr rel' rv).wp hne) (fun zZ zZ q=>q.up x') fun zZ zZ q=>q.up x'
noncomputable def wt (K:Glo) (f:Value) (g:List V→M V):Prop :=
 ∀ F:Frm,FOk F→F.nh=true→∀ σ ρ s vs ws,Rel K F σ ρ s→RepL K s.heap ρ vs ws→Run K F (PySem.call f ws) (Rep K) (g vs σ) ρ s
noncomputable def isBT:Value→Bool
 | .builtin _=>true
 | .type _=>true
 | _=>false
theorem gal {A:Around} {M:Model} {E:Value→Shared→Prop} {s:Shared} {pos:Pos} {f:Value} {first:List Value} {args:List (Bool×Sem Value)} {Q:Value→Shared→Prop} (hf:isBT f=true) (hpl:args.any (·.1)=false)
  (h:wpAny M A (spliced args) (fun vs s₁=>wpAny M A (PySem.call f (first ++ vs)) Q E s₁) E s):wpAny M A (callWith pos f first args []) Q E s:=by
 cases f with
 | builtin id=>exact Calls.callWith_builtin hpl (j1 hpl h)
 | type T=>exact PyProof.Rows.callWith_type hpl (j1 hpl h)
 | _=>(injection hf)
theorem kc (fk:FOk F) {x:String} {np pos:Pos} {args:List Expr} {ms:M (List V)} {f:Value} {g:List V→M V} (hf:isBT f=true)
  (hx:F.env.kindOf (Str.ofString x)=some .globalImplicit) (hm:K.mg (Str.ofString x)=none) (hb:bootBuiltins (Str.ofString x)=some f) (ho:wt K f g) (hs:yab K F args ms)
  (hpl:(starEach args F.env).any (·.1)=false:=by rfl) (hn:Str.ofString x ≠ "__name__" :=by decide) (hdb:(Str.ofString x == ("__debug__" : Str))=false:=by decide) (hnh:F.nh=true:=by rfl) :
  SimE K F (.Call (.Name (Str.ofString x) np) args [] pos) (do let vs ← ms; g vs):=by
 intro σ ρ s rel;refine Run.of_wp fun hne=>?_;simp only [jq];refine wpAny_bind (yv fk rel hx hm hb ?_ hn hdb)
 refine gal hf (by rw [kq]; exact hpl) ?_
 refine Run.bindWp (hs pos σ ρ s rel) hne fun vs σ' ρ' s' ws e1 e2 rel' x' rv=>?_;rw [e2] at hne ⊢;exact wpAny_mono ((ho F fk hnh σ' ρ' s' vs ws rel' rv).wp hne) (fun zZ zZ q=>q.up x') fun zZ zZ q=>q.up x'
noncomputable def chkL:V→M Unit
 | .obj l=>fun σ=>match σ.st[l]? with
  | some (.lst _)=>.ok () σ
  | _=>.stuck
 | _=>fun _=>.stuck
theorem wan {σ:S} {l:Nat} {us:List V} (h:σ.st[l]?=some (.lst us)):chkL (.obj l) σ = .ok () σ:=by
 show (match σ.st[l]? with | some (.lst _)=>Res.ok () σ | _=>.stuck)=_
 rw [h]
theorem zax {σ σ':S} {l:Nat} {u:Unit} (h:chkL (.obj l) σ = .ok u σ'):∃ us,σ.st[l]?=some (.lst us):=by
 unfold chkL at h;dsimp only at h
 cases e:σ.st[l]? with
 | none=>rw [e] at h; (injection h)
 | some c=>
  rw [e] at h
  cases c with
  | lst us=>exact ⟨us,rfl⟩
  | set _=>(injection h)
  | itr _ _ _=>(injection h)
  | opq=>(injection h)
  | tab=>(injection h)
  | clo _ _=>(injection h)
noncomputable def yc9 (K:Glo) (id:String) (g:V→List V→M V):Prop :=
 ∀ F:Frm,FOk F→F.nh=true→∀ σ ρ s o wo vs ws,Rel K F σ ρ s→Rep K s.heap ρ o wo→RepL K s.heap ρ vs ws→Run K F (PySem.call (.builtin id) (wo :: ws)) (Rep K) (g o vs σ) ρ s
theorem Rel.list {σ:S} {ρ:List Addr} {s:Shared} {l:Nat} {w:Value} {vs:List V} (rel:Rel K F σ ρ s) (hr:Rep K s.heap ρ (.obj l) w) (hs:σ.st[l]?=some (.lst vs)) :
  ∃ a ws n,w = .ref a∧ρ[l]?=some a∧IsL s.heap a ws.toArray n∧RepL K s.heap ρ vs ws∧vs.length≤1000000:=by
 refine ya (Rep.obj_iff.mp hr) fun a e o_26=>?_;clear hr;obtain rfl:=o_26;refine jy (rel.cell l a _ e hs) fun h0 ws n h1 h2=>?_;exact ⟨a,ws,n,rfl,e,h1,h2,h0⟩
end
section
variable {K:Glo} {F:Frm}
noncomputable def y0 (h:Heap) (cls:String) (msg:Str) (tk:Tok):Heap:=(h.push {cls:= .type "tuple",data:= .seq #[.str msg tk]}).push {cls:= .type cls,data:= .fields #[.ref h.objs.size,.none,.none,.none,.bool false,.none]}
theorem yax {h:Heap} {cls:String} {msg:Str} {tk:Tok}:∀ b o,h.get? b=some o→(y0 h cls msg tk).get? b=some o:=fun b o e=>Heap.get?_push_of_some _ (Heap.get?_push_of_some _ e)
section
variable {M:Model} {A:Around} {E:Value→Shared→Prop} {s:Shared}
theorem gcd {α:Type} {cls msg:String} {Q:α→Shared→Prop} (hp:PlainExc cls) (hh:A.handled=none) (hm:(Str.ofString msg).length≤sizeLine)
  (h:E (.ref (s.heap.objs.size + 1)) {s with heap:=y0 s.heap cls (Str.ofString msg) s.toks,toks:=s.toks + 1}):wpAny M A (raiseErrorMade cls msg:Sem α) Q E s:=by
 unfold raiseErrorMade;refine wpAny_bind (wpAny_mkStr (wpAny_bind ?_) hm);unfold newExc newTuple;refine wpAny_bind (wpAny_newObj_type ?_)
 refine wpAny_bind (m:=firstArgMember _ _) (wpAny_of_eq (a:=Value.none) (by simp only [firstArgMember,hp.first]; rfl) ?_)
 rw [hp.own];refine wpAny_newObj_type ?_;unfold raiseNew;refine wpAny_bind (wpAny_handled ?_);rw [hh]
 first
  | refine wpAny_throw ?_
  | refine wpAny_bind (wpAny_pure (wpAny_throw ?_))
 have:(s.heap.push {cls:= .type "tuple",data:= .seq #[Value.str (Str.ofString msg) s.toks]}).objs.size=s.heap.objs.size + 1:=Heap.size_push ..
 rw [← this] at h;exact h
end
theorem ybv {σ:S} {ρ:List Addr} {s:Shared} {cls:String} {msg:Str} {tk:Tok} {n:Nat} (rel:Rel K F σ ρ s) (hc:cls ≠ "range" ∧ cls ≠ "list_iterator" ∧ cls ≠ "code") :
  ∃ ρ',Rel K F σ ρ' {s with heap:=y0 s.heap cls msg tk,toks:=n}∧Ext F.mine ρ ρ' s.heap (y0 s.heap cls msg tk)∧XRep K F ⟨cls,msg⟩ s.heap (.ref (s.heap.objs.size + 1)) {s with heap:=y0 s.heap cls msg tk,toks:=n}:=by
 have h1:(s.heap.push {cls:= .type "tuple",data:= .seq #[Value.str msg tk]}).objs.size=s.heap.objs.size + 1:=Heap.size_push ..
 have hnew:s.heap.get? (s.heap.objs.size + 1)=none:=Heap.get?_none_of_le (Nat.le_succ _)
 have hg:(y0 s.heap cls msg tk).get? (s.heap.objs.size + 1)=some {cls:= .type cls,data:= .fields #[.ref s.heap.objs.size,.none,.none,.none,.bool false,.none]}:=by
  unfold y0
  have:=Heap.get?_push_size (s.heap.push {cls:= .type "tuple",data:= .seq #[Value.str msg tk]}) (o:={cls:= .type cls,data:= .fields #[.ref s.heap.objs.size,.none,.none,.none,.bool false,.none]}) rfl
  rw [h1] at this; exact this
 have ht:IsTup (y0 s.heap cls msg tk) s.heap.objs.size #[.str msg tk]:=⟨_,Heap.get?_push_of_some _ (Heap.get?_push_size _ rfl),rfl,0,rfl⟩
 refine ⟨ρ,rel.kept yax rfl rfl,Ext.kept yax,[s.heap.objs.size + 1],fun b hb=>by rw [List.mem_singleton.mp hb]; exact hnew,fun b hb=>?_,hc,_,_,tk,_,_,rfl,by simp,ht,hg,rfl,rfl,rfl,.inl ⟨rfl,rfl⟩⟩
 rw [List.mem_singleton.mp hb];refine ⟨?_,fun q=>?_⟩
 ·cases e:K.base.get? (s.heap.objs.size + 1) with
  | none=>rfl
  | some o=>have:=rel.base _ _ e; rw [hnew] at this; (injection this)
 ·refine xl (rel.mineAbove _ q) fun zZ o e=>?_;rw [hnew] at e; (injection e)
open PySem.SeqAt PySem.MeetsSeq PySem.MeetsSeq3 in
section
variable {A:Around} {E:Value→Shared→Prop} {s:Shared}
end
end
section
variable {K:Glo} {F:Frm}
noncomputable def ix (n:Nat) (k:Int):Option Nat:=if 0≤k then (if k.toNat < n then some k.toNat else none) else (if -(n:Int)≤k then some (k + n).toNat else none)
theorem gch {n j:Nat} {k:Int} (h:ix n k=some j):seqIndex? k n=some j:=by
 unfold ix at h;unfold seqIndex?
 split at h
 ·split at h
  ·(injection h with c_1; subst c_1)
   have h1:¬ k < 0:=by omega
   simp only [h1,if_false]
   rw [if_pos (by simp only [Bool.and_eq_true,decide_eq_true_eq]; omega)]
  ·(injection h)
 ·split at h
  ·(injection h with c_1; subst c_1)
   have h1:k < 0:=by exact nL11 (by assumption)
   simp only [h1,if_true]
   rw [if_pos (by simp only [Bool.and_eq_true,decide_eq_true_eq]; lia)]
  ·(injection h)
theorem qa8 {n j:Nat} {k:Int} (h:ix n k=some j) (hn:n≤1000000) : -1000000≤k∧k < 1000000:=by
 unfold ix at h
 split at h
 ·split at h
  ·lia
  ·(injection h)
 ·split at h
  ·lia
  ·(injection h)
noncomputable def getI:V→V→M V
 | .obj l,.int k=>fun σ=>match σ.st[l]? with
  | some (.lst vs)=>match ix vs.length k with
   | some j=>match vs[j]? with
    | some v=>.ok v σ
    | none=>.stuck
   | none=>.stuck
  | _=>.stuck
 | .tup vs,.int k=>fun σ=>match ix vs.length k with
  | some j=>match vs[j]? with
   | some v=>.ok v σ
   | none=>.stuck
  | none=>.stuck
 | _,_=>fun _=>.stuck
theorem zal {A:Around} {s:Shared} {a:Addr} {ws:List Value} {k:Int} {t:Tok} {j:Nat} {x:Value} {Q:Value→Shared→Prop} {E:Value→Shared→Prop} (hl:s.heap.IsList a ws.toArray) (hn:ws.length≤1000000)
  (hk:ix ws.length k=some j) (hx:ws[j]?=some x) (h:Q x s):wpAny (model K.prog K.w) A (getItem (.ref a) (.int k t)) Q E s:=by
 have hr:=qa8 hk hn
 by_cases h0:0≤k
 ·refine wpAny_getItem_list hl h0 (by exact nL15 hr) ?_ h
  unfold ix at hk;rw [if_pos h0] at hk
  split at hk
  ·(injection hk with c_1; subst c_1); simpa using hx
  ·(injection hk)
 ·unfold ix at hk;rw [if_neg h0] at hk
  split at hk
  ·(injection hk with c_1; subst c_1)
   refine wpAny_getItem_list_neg hl (by exact nL11 h0) (by simpa using ‹_›) (by exact nL16 hr) ?_ h
   simpa using hx
  ·(injection hk)
theorem xb4 (fk:FOk F) {σ:S} {ρ:List Addr} {s:Shared} {a b:V} {wa wb:Value} (rel:Rel K F σ ρ s) (ra:Rep K s.heap ρ a wa) (rb:Rep K s.heap ρ b wb) {value slice:Expr}
  (hs:∀ o i,subscripted slice false o i=PySem.operate [o,i] (getItem o i)):Run K F (subscriptTail value slice wa wb) (Rep K) (getI a b σ) ρ s:=by
 cases a with
 | obj l=>
  cases b with
  | int k=>
   refine qb (Rep.int_iff.mp rb) fun t o_29=>?_;obtain rfl:=o_29;unfold getI;dsimp only
   cases hc:σ.st[l]? with
   | none=>exact Run.stuck
   | some c=>
    cases c with
    | set _=>exact Run.stuck
    | itr _ _ _=>exact Run.stuck
    | opq=>exact Run.stuck
    | tab=>exact Run.stuck
    | clo _ _=>exact Run.stuck
    | lst vs=>
     dsimp only;refine zh (rel.list ra hc) fun ad ws n o_30 hρ hL hr hn=>?_;obtain rfl:=o_30
     cases hi:ix vs.length k with
     | none=>exact Run.stuck
     | some j=>
      dsimp only
      cases hv:vs[j]? with
      | none=>exact Run.stuck
      | some v=>
       refine ya (hr.get? hv) fun w hw rw'=>?_
       refine Run.ok (tail_any hL.isList.typeIs slot_list_getitem.lookup (zal hL.isList (by rw [hr.length]; exact hn) (by rw [hr.length]; exact hi) hw ?_) (hs _ _))
       exact (gc ρ rel (Ext.refl ..) rw')
  | _=>exact Run.stuck
 | tup vs=>
  cases b with
  | int k=>
   refine qb (Rep.int_iff.mp rb) fun t o_31=>?_;clear rb;obtain rfl:=o_31;refine qu ra.tupOf fun hn ad ws o_32 ht hr=>?_;clear ra;obtain rfl:=o_32;unfold getI;dsimp only
   cases hi:ix vs.length k with
   | none=>exact Run.stuck
   | some j=>
    dsimp only
    cases hv:vs[j]? with
    | none=>exact Run.stuck
    | some v=>
     refine ya (hr.get? hv) fun w hw rw'=>?_;have hrg:=qa8 hi hn
     refine Run.ok (tail_any ht.typeIs slot_tuple_getitem.lookup (PyProof.Rows.getItem_tuple ht (by exact nL16 hrg) (by exact nL15 hrg) (j:=j) (by rw [List.size_toArray,hr.length]; exact gch hi) (by simpa using hw) ?_) (hs _ _))
     exact (gc ρ rel (Ext.refl ..) rw')
  | _=>exact Run.stuck
 | _=>cases b <;> exact Run.stuck
theorem gf (fk:FOk F) {value slice:Expr} {mv mi:M V} (pos:Pos) (hv:SimE K F value mv) (hi:SimE K F slice mi)
  (hs:∀ o i,subscripted slice false o i=PySem.operate [o,i] (getItem o i):=by intro _ _; rfl) :
  SimE K F (.Subscript value slice pos) (do let o ← mv; let i ← mi; getI o i):=by
 intro σ ρ s rel;simp only [eval_Subscript];refine Run.bind (hv σ ρ s rel) fun a σ₁ ρ₁ s₁ wa zZ rel₁ x₁ ra=>?_;refine Run.bind (Run.holding (hi σ₁ ρ₁ s₁ rel₁)) fun b σ₂ ρ₂ s₂ wb zZ rel₂ x₂ rb=>?_;exact Run.standAt (xb4 fk rel₂ (ra.mono x₂) rb hs)
theorem wbc {A:Around} {s:Shared} {a:Addr} {items:Array Value} {n:Nat} {k:Int} {t:Tok} {v:Value} {Q:Unit→Shared→Prop} {E:Value→Shared→Prop} (hl:IsL s.heap a items n)
  (h0:0≤k) (hfit:k < 2 ^ 63) (hn:k < items.size)
  (hQ:Q () {s with heap:=s.heap.update a (Obj.mapSeq (·.setIfInBounds k.toNat v))}) :
  wpAny (model K.prog K.w) A (setItem (.ref a) (.int k t) v) Q E s:=by
 have hT:s.TypeIs (.ref a) "list" :=⟨_,hl,rfl⟩
 unfold setItem
 try with_reducible refine wpAny_holding ?_
 first | refine wpAny_bind (wpAny_pure ?_) | skip
 refine wpAny_bind (wpAny_sequenceKey hT (by decide) ?_)
 refine wpAny_bind (wpAny_callSpecial?_slot (name:=Str.ofString "__setitem__") hT slot_list_setitem
  (wpAny_call_entry slot_list_setitem hT entry_list_setitem ?_ (args_list_setitem _ _ _)))
 show wpAny _ _ (Builtin.List.listSubscript? (.int k t) >>= _) _ _ s;refine wpAny_bind (wpAny_listSubscript_int (fitsIndex_of h0 hfit) ?_);clear hfit;refine qb (Int.eq_ofNat_of_zero_le h0) fun j o_35=>?_;clear h0;obtain rfl:=o_35
 have hj:j < items.size:=by exact nL17 hn
 have hx':items[j]?=some items[j]:=Array.getElem?_eq_getElem hj;show wpAny _ _ ((seqItemAt a j >>= fun r=>pure (r.map (j,·))) >>= _) _ _ s;refine wpAny_bind (wpAny_bind (wpAny_seqItemAt hl rfl (wpAny_pure ?_)));rw [hx'];show wpAny _ _ (setSeqItemAt a j v >>= _) _ _ s;refine wpAny_bind (wpAny_setSeqItemAt hl rfl ?_)
 first
  | exact wpAny_bind (wpAny_pure (wpAny_pure (ja .none rfl (wpAny_pure hQ))))
  | exact wpAny_pure ⟨.none,rfl,wpAny_pure hQ⟩
noncomputable def setI:V→V→V→M Unit
 | .obj l,.int k,v=>fun σ=>match σ.st[l]? with
  | some (.lst vs)=>if l≠0∧0≤k∧k.toNat < vs.length then .ok () {σ with st:=σ.st.set l (.lst (vs.set k.toNat v))} else .stuck
  | _=>.stuck
 | _,_,_=>fun _=>.stuck
theorem ja5 (fk:FOk F) {σ:S} {ρ:List Addr} {s:Shared} {a b v:V} {wa wb wv:Value} (rel:Rel K F σ ρ s) (ra:Rep K s.heap ρ a wa) (rb:Rep K s.heap ρ b wb) (rv:Rep K s.heap ρ v wv) :
  Run K F (setItem wa wb wv) URep (setI a b v σ) ρ s:=by
 cases a with
 | obj l=>
  cases b with
  | int k=>
   refine qb (Rep.int_iff.mp rb) fun t o_36=>?_;obtain rfl:=o_36;unfold setI;dsimp only
   cases hc:σ.st[l]? with
   | none=>exact Run.stuck
   | some c=>
    cases c with
    | set _=>exact Run.stuck
    | itr _ _ _=>exact Run.stuck
    | opq=>exact Run.stuck
    | tab=>exact Run.stuck
    | clo _ _=>exact Run.stuck
    | lst vs=>
     dsimp only;refine zh (rel.list ra hc) fun ad ws n o_37 hρ hL hr hn=>?_;clear ra;obtain rfl:=o_37
     by_cases hk:l≠0∧0≤k∧k.toNat < vs.length
     ·rw [if_pos hk];refine qb (Int.eq_ofNat_of_zero_le hk.2.1) fun j o_38=>?_;clear rb;obtain rfl:=o_38
      have hj:j < vs.length:=by simpa using hk.2.2
      refine Run.ok (wbc hL hk.2.1 (by lia) (by rw [List.size_toArray,hr.length]; exact nL19 hj) ?_)
      obtain ⟨rel',x'⟩:=rel.upd (s':={s with heap:=s.heap.update ad (Obj.mapSeq (·.setIfInBounds j wv))}) (vs:=vs.set j v) (ws:=ws.set j wv) (n:=n) hρ hk.1 (Heap.SameBut.update ..) (by
       have:=hL.update (·.setIfInBounds j wv)
       simpa using this) (hr.set j rv) (by simpa using hn) rfl rfl
      exact (gc ρ rel' x' trivial)
     ·rw [if_neg hk]; exact Run.stuck
  | _=>exact Run.stuck
 | _=>exact Run.stuck
theorem zce (o i:Expr) (pos:Pos) (env:Env) (w:Value):assign (.Subscript o i pos) env w=(do
  let ov ← holding [w] (eval o env)
  let iv ← holding [w,ov] (eval i env)
  standAt pos
  holding [w,ov,iv] (setItem ov iv w)
  release (match i with | .Slice _ _ none _=>[iv,w,ov] | _=>[w,ov,iv]) []):=rfl
theorem g8 (fk:FOk F) {o i:Expr} {mo mi:M V} (pos:Pos) (ho:SimE K F o mo) (hi:SimE K F i mi):SimT K F (.Subscript o i pos) (fun v=>do let a ← mo; let b ← mi; setI a b v):=by
 intro σ ρ s v w rel rv;rw [zce];refine Run.bind (Run.holding (ho σ ρ s rel)) fun a σ₁ ρ₁ s₁ wa zZ rel₁ x₁ ra=>?_;refine Run.bind (Run.holding (hi σ₁ ρ₁ s₁ rel₁)) fun b σ₂ ρ₂ s₂ wb zZ rel₂ x₂ rb=>?_;refine Run.standAt ?_;have key:=ja5 fk rel₂ (ra.mono x₂) rb ((rv.mono x₁).mono x₂)
 have e:setI a b v σ₂=(setI a b v >>= fun u=>(pure u:M Unit)) σ₂:=by
  rw [M.bind_def]; cases setI a b v σ₂ <;> rfl
 rw [e];refine Run.bind (Run.holding key) fun u σ₃ ρ₃ s₃ zZ zZ rel₃ x₃ zZ=>?_;exact Run.ok (wpAny_release ⟨ρ₃,rel₃,Ext.refl ..,trivial⟩)
end
section
variable {K:Glo} {F:Frm}
noncomputable def mapO {α β:Type} (f:α→Option β):List α→Option (List β)
 | []=>some []
 | a :: r=>match f a,mapO f r with
  | some b,some bs=>some (b :: bs)
  | _,_=>none
noncomputable def toD (st:gb):Nat→V→Option PyData
 | 0,_=>none
 | n + 1,v=>match v with
  | .none=>some .none
  | .bool b=>some (.bool b)
  | .int i=>some (.int i)
  | .str x=>if PySem.PyData.strOk x then some (.str x) else none
  | .tup vs=>(mapO (toD st n) vs).map .tuple
  | .obj l=>match st[l]? with
   | some (.lst vs)=>(mapO (toD st n) vs).map .list
   | _=>none
  | _=>none
theorem jax {α β:Type} {f:α→Option β} {a:α} {r:List α} {l:List β} (h:mapO f (a :: r)=some l):∃ b bs,f a=some b∧mapO f r=some bs∧l=b :: bs:=by
 unfold mapO at h
 cases h1:f a with
 | none=>rw [h1] at h; (injection h)
 | some b=>
  cases h2:mapO f r with
  | none=>rw [h1,h2] at h; (injection h)
  | some bs=>rw [h1,h2] at h; (injection h with c_1; subst c_1); exact (gk b bs rfl rfl rfl)
theorem wax {h:Heap} {ρ:List Addr} {f:V→Option PyData} {n:Nat}
  (hf:∀ v w d,f v=some d→Rep K h ρ v w→∃ as,Reads h w d as∧d.canLay0=true∧d.depth≤n):∀ (vs:List V) (ws:List Value) (ds:List PyData),mapO f vs=some ds→RepL K h ρ vs ws→
  ∃ as,ReadsAll h ws ds as∧PyData.canLayAll0 ds=true∧PyData.depthAll ds≤n
 | [],ws,ds,e,r=>by
  unfold mapO at e; (injection e with c_1; subst c_1)
  rw [RepL.nil_iff.mp r];exact (gc ([]) .nil rfl (Nat.zero_le _))
 | v :: vs,ws,ds,e,r=>by
  refine yc (jax e) fun b bs e1 e2 o_39=>?_;clear e;obtain rfl:=o_39;refine yc (RepL.cons_iff.mp r) fun w ws' o_40 r1 r2=>?_;clear r;obtain rfl:=o_40;refine yd (hf v w b e1 r1) fun as q1 q2 q3=>?_;refine yd (wax hf vs ws' bs e2 r2) fun as' p1 p2 p3=>?_;refine (gc (as ++ as') (.cons q1 p1) ?_ ?_)
  ·simp [PyData.canLayAll0,q2,p2]
  ·simp [PyData.depthAll]; exact nL20 q3 p3
theorem yn {st:gb} {ρ:List Addr} {s:Shared} (g:GRel K st ρ s):∀ (n:Nat) (v:V) (w:Value) (d:PyData),toD st n v=some d→Rep K s.heap ρ v w→
  ∃ as,Reads s.heap w d as∧d.canLay0=true∧d.depth≤n
 | 0,v,w,d,e,_=>by (injection e)
 | n + 1,v,w,d,e,r=>by
  cases v with
  | none=>(injection e with c_1; subst c_1); rw [Rep.none_iff.mp r]; exact (gc ([]) .none rfl (Nat.zero_le _))
  | bool b=>(injection e with c_1; subst c_1); rw [Rep.bool_iff.mp r]; exact (gc ([]) (.bool b) rfl (Nat.zero_le _))
  | int i=>(injection e with c_1; subst c_1); refine qb (Rep.int_iff.mp r) fun t o_41=>?_; obtain rfl:=o_41; exact (gc ([]) (.int i t) rfl (Nat.zero_le _))
  | str x=>
   have e:(if PyData.strOk x=true then some (PyData.str x) else none)=some d:=e
   by_cases hx:PyData.strOk x=true
   ·rw [if_pos hx] at e; (injection e with c_1; subst c_1); refine qb (Rep.str_iff.mp r) fun t o_42=>?_; obtain rfl:=o_42; exact (gc ([]) (.str x t) hx (Nat.zero_le _))
   ·rw [if_neg hx] at e; (injection e)
  | tup vs=>
   have e:(mapO (toD st n) vs).map PyData.tuple=some d:=e
   cases em:mapO (toD st n) vs with
   | none=>rw [em] at e; (injection e)
   | some ds=>
    rw [em] at e; (injection e with c_1; subst c_1)
    refine qu r.tupOf fun zZ a ws o_43 o_44 rl=>?_;obtain rfl:=o_43;refine zv o_44 fun o h1 h2 k h3=>?_
    try clear o_44
    refine yd (wax (K:=K) (n:=n) (fun v w d e r=>yn g n v w d e r) vs ws ds em rl) fun as q1 q2 q3=>?_
    exact (gc as (.tuple h1 h2 h3 (by simpa using q1)) q2 (by simp [PyData.depth]; exact q3))
  | obj l=>
   have e:(match st[l]? with | some (.lst vs)=>(mapO (toD st n) vs).map PyData.list | _=>none)=some d:=e
   cases hc:st[l]? with
   | none=>rw [hc] at e; (injection e)
   | some c=>
    cases c with
    | set _=>rw [hc] at e; (injection e)
    | itr _ _ _=>rw [hc] at e; (injection e)
    | opq=>rw [hc] at e; (injection e)
    | tab=>rw [hc] at e; (injection e)
    | clo _ _=>rw [hc] at e; (injection e)
    | lst vs=>
     rw [hc] at e;dsimp only at e
     cases em:mapO (toD st n) vs with
     | none=>rw [em] at e; (injection e)
     | some ds=>
      rw [em] at e; (injection e with c_1; subst c_1)
      refine ya (Rep.obj_iff.mp r) fun a hρ o_45=>?_;obtain rfl:=o_45;refine jy (g.cell l a _ hρ hc) fun zZ ws k hL rl=>?_;refine yd (wax (K:=K) (n:=n) (fun v w d e r=>yn g n v w d e r) vs ws ds em rl) fun as q1 q2 q3=>?_
      exact (gc (a :: as) (.list hL rfl rfl (by simpa using q1)) q2 (by simp [PyData.depth]; exact q3))
  | fn x=>simp [toD] at e
  | rng a b c=>simp [toD] at e
noncomputable def eqV (a b:V):M V:=fun σ=>match toD σ.st 6 a,toD σ.st 6 b with
 | some d,some d'=>.ok (.bool (PyData.eqv d d')) σ
 | _,_=>.stuck
noncomputable def neV (a b:V):M V:=fun σ=>match toD σ.st 6 a,toD σ.st 6 b with
 | some d,some d'=>.ok (.bool (!PyData.eqv d d')) σ
 | _,_=>.stuck
theorem jbv:zas K .Eq eqV:=by
 intro F fk σ ρ s a b wa wb rel ra rb;unfold eqV
 cases e1:toD σ.st 6 a with
 | none=>exact Run.stuck
 | some d=>
  cases e2:toD σ.st 6 b with
  | none=>exact Run.stuck
  | some d'=>
   refine yd (yn rel.toGRel 6 a wa d e1 ra) fun as r1 c1 p1=>?_;refine yd (yn rel.toGRel 6 b wb d' e2 rb) fun bs r2 c2 p2=>?_
   exact Run.ok (SeqAt.compareEq_reads r1 r2 c1 c2 (by have:=fk.units; exact nL22 this p2) ⟨ρ,rel,Ext.refl ..,Rep.bool _⟩)
theorem wbv:zas K .NotEq neV:=by
 intro F fk σ ρ s a b wa wb rel ra rb;unfold neV
 cases e1:toD σ.st 6 a with
 | none=>exact Run.stuck
 | some d=>
  cases e2:toD σ.st 6 b with
  | none=>exact Run.stuck
  | some d'=>
   refine yd (yn rel.toGRel 6 a wa d e1 ra) fun as r1 c1 p1=>?_;refine yd (yn rel.toGRel 6 b wb d' e2 rb) fun bs r2 c2 p2=>?_
   exact Run.ok (SeqAt.compareNe_reads r1 r2 c1 c2 (by have:=fk.units; exact nL22 this p2) ⟨ρ,rel,Ext.refl ..,Rep.bool _⟩)
noncomputable def V.isNone:V→Bool
 | .none=>true
 | _=>false
noncomputable def isV:V→V→M V
 | v,.none=>fun σ=>.ok (.bool v.isNone) σ
 | .int _,.obj _=>fun σ=>.ok (.bool false) σ
 | .obj l,.obj k=>fun σ=>.ok (.bool (decide (l=k))) σ
 | _,_=>fun _=>.stuck
theorem qbv {h:Heap} {ρ:List Addr} {v:V} {w:Value} (r:Rep K h ρ v w):(w == Value.none)=v.isNone:=by
 cases v with
 | none=>rw [Rep.none_iff.mp r]; rfl
 | bool b=>rw [Rep.bool_iff.mp r]; rfl
 | int i=>obtain ⟨t,rfl⟩:=Rep.int_iff.mp r; rfl
 | str x=>obtain ⟨t,rfl⟩:=Rep.str_iff.mp r; rfl
 | tup vs=>obtain ⟨_,a,ws,rfl,_⟩:=r.tupOf; rfl
 | obj l=>obtain ⟨a,_,rfl⟩:=Rep.obj_iff.mp r; rfl
 | fn x=>simp only [Rep] at r; refine xl r fun zZ a o_46=>?_; try clear r; obtain rfl:=o_46; rfl
 | rng a b c=>obtain ⟨a,_,_,_,rfl,_⟩:=Rep.rng_iff.mp r; rfl
theorem ww.noTuple {o:Obj} (c:ww o):o.cls≠.type "tuple" :=by
 rcases c with ⟨c,_⟩ | ⟨c,_⟩ | ⟨c | c,_⟩ | ⟨c,_⟩ | ⟨c,_⟩ <;> rw [c] <;> decide
theorem zci:zas K .Is isV:=by
 intro F fk σ ρ s a b wa wb rel ra rb
 cases b with
 | none=>
  rw [Rep.none_iff.mp rb]
  have e:isV a .none σ = .ok (.bool a.isNone) σ:=by cases a <;> rfl
  rw [e];refine Run.ok (is_none ⟨ρ,rel,Ext.refl ..,?_⟩);rw [qbv ra]; exact Rep.bool _
 | obj k=>
  cases a with
  | obj l=>
   refine ya (Rep.obj_iff.mp ra) fun x hx o_47=>?_;obtain rfl:=o_47;refine ya (Rep.obj_iff.mp rb) fun y hy o_48=>?_;obtain rfl:=o_48;show Run K F _ (Rep K) (.ok (V.bool (decide (l=k))) σ) ρ s
   by_cases hlk:l=k
   ·subst hlk
    rw [hx] at hy; (injection hy with c_1; subst c_1)
    refine Run.ok (wpAny_is_ref_self ⟨ρ,rel,Ext.refl ..,?_⟩);rw [decide_eq_true rfl]; exact Rep.bool _
   ·have hne:x≠y:=fun e=>hlk (jaw rel.nodup (e ▸ hx) hy);refine ya (rel.toGRel.alive (List.mem_of_getElem? hx)) fun ox ex cx=>?_;refine ya (rel.toGRel.alive (List.mem_of_getElem? hy)) fun oy ey cy=>?_;refine Run.ok (wpAny_is_ref_other hne ex ey cx.noTuple ⟨ρ,rel,Ext.refl ..,?_⟩);rw [decide_eq_false hlk]; exact Rep.bool _
  | int i=>
   refine qb (Rep.int_iff.mp ra) fun t o_49=>?_;clear ra;obtain rfl:=o_49;refine ya (Rep.obj_iff.mp rb) fun y hy o_50=>?_;clear rb;obtain rfl:=o_50
   show Run K F (do return .bool (← isSame (.int i t) (.ref y))) (Rep K) _ ρ s
   exact Run.ok (wpAny_bind (wpAny_pure (wpAny_pure (gc ρ rel (Ext.refl ..) (Rep.bool _)))))
  | _=>exact Run.stuck
 | _=>cases a <;> exact Run.stuck
noncomputable def lt0:PyData→PyData→Option Bool
 | .int i,y=>match y with
  | .int j=>some (decide (i < j))
  | _=>none
 | _,_=>none
noncomputable def ga2:List PyData→List PyData→Option Bool
 | [],ys=>some (decide (0 < ys.length))
 | x :: xs,ys=>match ys with
  | []=>some false
  | y :: ys=>if PyData.eqv x y then ga2 xs ys else lt0 x y
noncomputable def ltD:PyData→PyData→Option Bool
 | .tuple xs,y=>match y with
  | .tuple ys=>ga2 xs ys
  | _=>none
 | x,y=>lt0 x y
end
section
variable {K:Glo} {F:Frm}
open PySem.SeqAt PySem.MeetsSeq PySem.MeetsSeq3
noncomputable def LtAt (A:Around) (s:Shared) (y x:Value) (b:Bool):Prop :=
 ∀ (prog:Program) (w:World) (E:Value→Shared→Prop) (Q:Value→Shared→Prop),Q (.bool b) s→wpAny (model prog w) A (richCompare .Lt y x) Q E s
noncomputable def qbc (A:Around) (s:Shared) (fin:Bool):List (Value×Value)→Bool→Prop
 | [],r=>r=fin
 | (x,y) :: rest,r => ∃ e,EqAt A s x y e∧(if e=true then qbc A s fin rest r else LtAt A s x y r)
theorem yce (l b:Addr) (items items2:Array Value) (n n2:Nat) (dd dd2:Option Addr) (sl sl2:Array (Option Value)) (r:Bool) :
  Meets (Builtin.«tuple.__lt__» ⟨[.ref l,.ref b],[]⟩)
   (fun A R s=>s.heap.get? l=some {cls:= .type "tuple",dict:=dd,data:= .seq items n,slots:=sl}∧s.heap.get? b=some {cls:= .type "tuple",dict:=dd2,data:= .seq items2 n2,slots:=sl2}∧
    qbc A.in1 s (decide (items.size < items2.size)) (items.toList.zip items2.toList) r∧R (.ok (.ret (.bool r))) s) :=
 .of_wp fun prog w A R s h=>by
  obtain ⟨hp,g,d,tk,os⟩:=s; refine xj h ?_; try clear h; intro hl hb he h
  have f2:=AutoSeq1.sub_tuple_tuple
  wp_walk using wpAny_loadPart' hl,wpAny_loadPart' hb,wpAny_forIn_list _ (fun rest b s'=>b.1=none∧s'=⟨hp,g,d,tk,os⟩∧qbc A.in1 ⟨hp,g,d,tk,os⟩ (decide (items.size < items2.size)) rest r) _
  case turn=>
   rintro ⟨y,x⟩ rest b s' ⟨hb',rfl,e,he1,he2⟩
   refine wpAny_bind (he1 prog w _ _ ?_)
   cases e with
   | true=>
    simp only [if_true] at he2
    wp_walk
    exact ⟨rfl,rfl,he2⟩
   | false=>
    simp only [Bool.false_eq_true,if_false] at he2;simp only [Bool.not_false,if_true];refine wpAny_bind (wpAny_rule (wpAny_bind (he2 prog w _ _ ?_)))
    wp_walk
    exact (ja _ rfl h)
  case fin=>
   rintro ⟨b1,b2⟩ s' ⟨hb',rfl,he'⟩
   simp only at hb';subst hb'
   wp_walk
   have:r=decide (items.size < items2.size):=he';refine (ja _ rfl ?_);rw [this] at h;exact h
  case h=>exact ⟨rfl,rfl,he⟩
theorem LtAt.tuples {A:Around} {s:Shared} {l b:Addr} {items items2:Array Value} {r:Bool} (hl:s.heap.IsTuple l items) (hb:s.heap.IsTuple b items2) (hu:A.units < cLine)
  (he:qbc A.in1 s (decide (items.size < items2.size)) (items.toList.zip items2.toList) r):LtAt A s (.ref l) (.ref b) r:=fun prog w E Q h=>by
 refine zv (id hl) fun o_53 ho hc n hd=>?_;refine wrap fun G_ hG_=>?_;obtain ⟨cls,dd,data,sl⟩:=o_53;refine hG_ ?_;clear hG_ G_;refine zv (id hb) fun o_54 ho2 hc2 n2 hd2=>?_;refine wrap fun G_ hG_=>?_;obtain ⟨cls2,dd2,data2,sl2⟩:=o_54;refine hG_ ?_;clear hG_ G_;simp only at hc hd hc2 hd2;subst hc hd hc2 hd2
 exact richCompare_meets_room (op:= .Lt) ⟨_,ho,rfl⟩ ⟨_,ho2,rfl⟩ PySem.F.slot_tuple_lt PySem.F.entry_tuple_lt (PySem.F.args_tuple_lt_2 _ _) (yce l b items items2 n n2 dd dd2 sl sl2 r)
  ⟨ho,ho2,he,show Value.bool r≠Value.notImplemented∧Q (.bool r) s from ⟨(fun x=>nomatch x),h⟩⟩ hu
theorem qax {da db:PyData} {A:Around} {s:Shared} {a b:Value} {as bs:List Addr} {r:Bool} (ra:Reads s.heap a da as) (rb:Reads s.heap b db bs) (e:lt0 da db=some r):LtAt A s a b r:=by
 cases ra with
 | int i t=>
  cases rb with
  | int j u=>cases e; exact fun prog w E Q h=>lt_int h
  | _=>cases e
 | _=>cases e
theorem jc5 {A:Around} {s:Shared} {r fin:Bool}:∀ (xs ys:List PyData) (vs ws:List Value) (as bs:List Addr),ReadsAll s.heap vs xs as→ReadsAll s.heap ws ys bs→PyData.canLayAll0 xs=true→PyData.canLayAll0 ys=true→
  A.units + min (PyData.depthAll xs) (PyData.depthAll ys) < cLine→ga2 xs ys=some r→fin=decide (xs.length < ys.length)→qbc A s fin (vs.zip ws) r:=by
 intro xs
 induction xs with
 | nil=>
  intro ys vs ws as bs ra rb ha hb hu e hf
  cases ra
  subst hf
  cases e
  exact rfl
 | cons x xs ih=>
  intro ys vs ws as bs ra rb ha hb hu e hf
  cases ra with
  | cons ra1 ra2=>
   cases rb with
   | nil=>cases e; rw [hf,List.zip_nil_right]; exact (decide_eq_false (Nat.not_lt_zero _)).symm
   | @cons _ ws' y ys _ _ rb1 rb2=>
    simp only [PyData.canLayAll0,Bool.and_eq_true] at ha hb
    refine ⟨PyData.eqv x y,eqAt_reads x y A s _ _ _ _ ra1 rb1 ha.1 hb.1 (room_head (by simpa [PyData.depthAll] using hu)),?_⟩
    have e:(if PyData.eqv x y=true then ga2 xs ys else lt0 x y)=some r:=e
    cases he:PyData.eqv x y with
    | true=>
     rw [he,if_pos rfl] at e;rw [if_pos rfl]
     exact ih _ _ _ _ _ ra2 rb2 ha.2 hb.2 (room_tail (by simpa [PyData.depthAll] using hu)) e (by rw [hf]; simp)
    | false=>
     rw [he,if_neg (by decide)] at e
     rw [if_neg (by decide)]
     exact qax ra1 rb1 e
theorem jc9 (da db:PyData) (A:Around) (s:Shared) (a b:Value) (as bs:List Addr) (r:Bool) (ra:Reads s.heap a da as) (rb:Reads s.heap b db bs) (ha:da.canLay0=true) (hb:db.canLay0=true)
  (hu:A.units + min da.depth db.depth < cLine) (e:ltD da db=some r):LtAt A s a b r:=by
 cases ra with
 | tuple h1 h2 h3 h4=>
  cases rb with
  | tuple k1 k2 k3 k4=>
   refine LtAt.tuples ⟨_,h1,h2,_,h3⟩ ⟨_,k1,k2,_,k3⟩ (room_here hu) ?_;refine jc5 _ _ _ _ _ _ h4 k4 ha hb (room_in hu) e ?_;rw [← Array.length_toList,← Array.length_toList,ReadsAll.length _ _ _ h4,ReadsAll.length _ _ _ k4]
  | _=>cases e
 | int i t=>exact qax (.int i t) rb e
 | _=>cases e
noncomputable def ltV (a b:V):M V:=fun σ=>match toD σ.st 6 a,toD σ.st 6 b with
 | some d,some d'=>match ltD d d' with
  | some r=>.ok (.bool r) σ
  | none=>.stuck
 | _,_=>.stuck
theorem gac:zas K .Lt ltV:=by
 intro F fk σ ρ s a b wa wb rel ra rb;unfold ltV
 cases e1:toD σ.st 6 a with
 | none=>exact Run.stuck
 | some d=>
  cases e2:toD σ.st 6 b with
  | none=>exact Run.stuck
  | some d'=>
   refine yd (yn rel.toGRel 6 a wa d e1 ra) fun as r1 c1 p1=>?_;refine yd (yn rel.toGRel 6 b wb d' e2 rb) fun bs r2 c2 p2=>?_;have hu:=fk.units;dsimp only
   cases e3:ltD d d' with
   | none=>exact Run.stuck
   | some r=>exact Run.ok (jc9 d d' F.A s wa wb as bs r r1 r2 c1 c2 (by exact nL22 hu p2) e3 K.prog K.w _ _ ⟨ρ,rel,Ext.refl ..,Rep.bool _⟩)
end
section
variable {K:Glo} {F:Frm}
noncomputable def addV:V→V→M V
 | .int a,.int b=>fun σ=>.ok (.int (a + b)) σ
 | .obj l,.obj k=>fun σ=>match σ.st[l]?,σ.st[k]? with
  | some (.lst xs),some (.lst ys)=>newL (xs ++ ys) σ
  | _,_=>.stuck
 | _,_=>fun _=>.stuck
noncomputable def subV:V→V→M V
 | .int a,.int b=>fun σ=>.ok (.int (a - b)) σ
 | _,_=>fun _=>.stuck
noncomputable def mulV:V→V→M V
 | .int a,.int b=>fun σ=>if -1000000000 < a∧a < 1000000000 then .ok (.int (a * b)) σ else .stuck
 | _,_=>fun _=>.stuck
noncomputable def yal:V→V→M V
 | .int a,.int b=>fun σ=>if 0 < b∧b < 1000000000 then .ok (.int (a / b)) σ else .stuck
 | _,_=>fun _=>.stuck
noncomputable def wab:V→V→M V
 | .int a,.int b=>fun σ=>if 0 < b∧b < 1000000000 then .ok (.int (a % b)) σ else .stuck
 | _,_=>fun _=>.stuck
noncomputable def shrV:V→V→M V
 | .int a,.int 1=>fun σ=>if 0≤a then .ok (.int (a / 2)) σ else .stuck
 | _,_=>fun _=>.stuck
theorem jx:qak K .Add addV:=by
 intro F fk σ ρ s a b wa wb rel ra rb
 cases a with
 | int i=>
  cases b with
  | int j=>
   refine qb (Rep.int_iff.mp ra) fun t o_55=>?_;obtain rfl:=o_55;refine qb (Rep.int_iff.mp rb) fun u o_56=>?_;obtain rfl:=o_56;exact Run.ok (add_int ⟨ρ,rel.tok _,Ext.refl ..,Rep.int ..⟩)
  | _=>exact Run.stuck
 | obj l=>
  cases b with
  | obj k=>
   unfold addV;dsimp only
   cases hl:σ.st[l]? with
   | none=>exact Run.stuck
   | some c=>
    cases c with
    | set _=>exact Run.stuck
    | itr _ _ _=>exact Run.stuck
    | opq=>exact Run.stuck
    | tab=>exact Run.stuck
    | clo _ _=>exact Run.stuck
    | lst xs=>
     cases hk:σ.st[k]? with
     | none=>exact Run.stuck
     | some c'=>
      cases c' with
      | set _=>exact Run.stuck
      | itr _ _ _=>exact Run.stuck
      | opq=>exact Run.stuck
      | tab=>exact Run.stuck
      | clo _ _=>exact Run.stuck
      | lst ys=>
       dsimp only;refine zh (rel.list ra hl) fun x ws n o_57 hρ hL hr hn=>?_;clear ra;obtain rfl:=o_57;refine zh (rel.list rb hk) fun y us n' o_58 hρ' hL' hr' hn'=>?_;clear rb;obtain rfl:=o_58;unfold newL
       by_cases hz:(xs ++ ys).length≤1000000
       ·rw [if_pos hz]
        refine kd (rel.newList (o:={cls:= .type "list",data:= .seq (ws ++ us).toArray}) rfl (hr.append hr') hz s.toks) fun rel' x'=>?_
        refine Run.ok (P.add_list hL hL' ?_ (zx (by simp only [List.size_toArray,hr.length,hr'.length]; simpa using hz)))
        rw [List.append_toArray];refine (gc _ rel' x' (Rep.obj_iff.mpr (ja _ ?_ rfl)));simp only [← rel.len,List.getElem?_concat_length]
       ·rw [if_neg hz]; exact Run.stuck
  | _=>exact Run.stuck
 | _=>exact Run.stuck
theorem za3:qak K .Sub subV:=by
 intro F fk σ ρ s a b wa wb rel ra rb
 cases a with
 | int i=>
  cases b with
  | int j=>
   refine qb (Rep.int_iff.mp ra) fun t o_59=>?_;clear ra;obtain rfl:=o_59;refine qb (Rep.int_iff.mp rb) fun u o_60=>?_;clear rb;obtain rfl:=o_60;exact Run.ok (sub_int ⟨ρ,rel.tok _,Ext.refl ..,Rep.int ..⟩)
  | _=>exact Run.stuck
 | _=>exact Run.stuck
theorem ya3:qak K .Mult mulV:=by
 intro F fk σ ρ s a b wa wb rel ra rb
 cases a with
 | int i=>
  cases b with
  | int j=>
   refine qb (Rep.int_iff.mp ra) fun t o_61=>?_;clear ra;obtain rfl:=o_61;refine qb (Rep.int_iff.mp rb) fun u o_62=>?_;clear rb;obtain rfl:=o_62;unfold mulV;dsimp only
   by_cases h : -1000000000 < i∧i < 1000000000
   ·rw [if_pos h]
    exact Run.ok (mul_int ⟨ρ,rel.tok _,Ext.refl ..,Rep.int ..⟩ (IntMulOk.of_left (intBits_le_64 (by omega) (by omega))))
   ·rw [if_neg h]; exact Run.stuck
  | _=>exact Run.stuck
 | _=>exact Run.stuck
theorem jcp {a b:Int} (h:0 < b):a.fdiv b=a / b:=Int.fdiv_eq_ediv_of_nonneg _ (Int.le_of_lt h)
theorem wcp {a b:Int} (h:0 < b):a.fmod b=a % b:=Int.fmod_eq_emod_of_nonneg _ (Int.le_of_lt h)
theorem ka8:qak K .FloorDiv yal:=by
 intro F fk σ ρ s a b wa wb rel ra rb
 cases a with
 | int i=>
  cases b with
  | int j=>
   refine qb (Rep.int_iff.mp ra) fun t o_63=>?_;clear ra;obtain rfl:=o_63;refine qb (Rep.int_iff.mp rb) fun u o_64=>?_;clear rb;obtain rfl:=o_64;unfold yal;dsimp only
   by_cases h:0 < j∧j < 1000000000
   ·rw [if_pos h]
    refine Run.ok (floordiv_int (Int.ne_of_gt h.1) ⟨ρ,rel.tok _,Ext.refl ..,?_⟩ (Or.inl (PyProof.noPylong_small (by (first | lia | omega)))))
    rw [jcp h.1]; exact Rep.int ..
   ·rw [if_neg h]; exact Run.stuck
  | _=>exact Run.stuck
 | _=>exact Run.stuck
theorem gah:qak K .Mod wab:=by
 intro F fk σ ρ s a b wa wb rel ra rb
 cases a with
 | int i=>
  cases b with
  | int j=>
   refine qb (Rep.int_iff.mp ra) fun t o_65=>?_;clear ra;obtain rfl:=o_65;refine qb (Rep.int_iff.mp rb) fun u o_66=>?_;clear rb;obtain rfl:=o_66;unfold wab;dsimp only
   by_cases h:0 < j∧j < 1000000000
   ·rw [if_pos h];refine Run.ok (mod_int' (Int.ne_of_gt h.1) ⟨ρ,rel.tok _,Ext.refl ..,?_⟩);rw [wcp h.1]; exact Rep.int ..
   ·rw [if_neg h]; exact Run.stuck
  | _=>exact Run.stuck
 | _=>exact Run.stuck
theorem wc5:qak K .RShift shrV:=by
 intro F fk σ ρ s a b wa wb rel ra rb
 cases a with
 | int i=>
  cases b with
  | int j=>
   by_cases hj:j=1
   ·subst hj;refine qb (Rep.int_iff.mp ra) fun t o_67=>?_;clear ra;obtain rfl:=o_67;refine qb (Rep.int_iff.mp rb) fun u o_68=>?_;clear rb;obtain rfl:=o_68
    show Run K F _ (Rep K) (if 0≤i then .ok (V.int (i / 2)) σ else .stuck) ρ s
    by_cases h:0≤i
    ·rw [if_pos h];exact Run.ok (wpAny_rshift1_int h ⟨ρ,rel.tok _,Ext.refl ..,Rep.int ..⟩)
    ·rw [if_neg h]; exact Run.stuck
   ·have:shrV (.int i) (.int j)=fun zZ=>.stuck:=by
     funext σ
     show shrV (.int i) (.int j) σ=_
     match j,hj with
     | 0,_=>rfl
     | 1,h=>exact absurd rfl h
     | (n + 2:Nat),_=>rfl
     | Int.negSucc n,_=>rfl
    rw [this]; exact Run.stuck
  | _=>exact Run.stuck
 | _=>exact Run.stuck
noncomputable def negV:V→M V
 | .int a=>fun σ=>.ok (.int (-a)) σ
 | _=>fun _=>.stuck
theorem qan:UnOk K .USub negV:=by
 intro F fk σ ρ s a wa rel ra
 cases a with
 | int i=>obtain ⟨t,rfl⟩:=Rep.int_iff.mp ra; exact Run.ok (neg_int ⟨ρ,rel.tok _,Ext.refl ..,Rep.int ..⟩)
 | _=>exact Run.stuck
noncomputable def leV:V→V→M V
 | .int a,.int b=>fun σ=>.ok (.bool (decide (a≤b))) σ
 | _,_=>fun _=>.stuck
noncomputable def gtV:V→V→M V
 | .int a,.int b=>fun σ=>.ok (.bool (decide (b < a))) σ
 | _,_=>fun _=>.stuck
noncomputable def geV:V→V→M V
 | .int a,.int b=>fun σ=>.ok (.bool (decide (b≤a))) σ
 | _,_=>fun _=>.stuck
theorem kbv:zas K .Gt gtV:=by
 intro F fk σ ρ s a b wa wb rel ra rb
 cases a with
 | int i=>
  cases b with
  | int j=>
   refine qb (Rep.int_iff.mp ra) fun t o_71=>?_;clear ra;obtain rfl:=o_71;refine qb (Rep.int_iff.mp rb) fun u o_72=>?_;clear rb;obtain rfl:=o_72;exact Run.ok (gt_int ⟨ρ,rel,Ext.refl ..,Rep.bool _⟩)
  | _=>exact Run.stuck
 | _=>exact Run.stuck
theorem wc9:zas K .GtE geV:=by
 intro F fk σ ρ s a b wa wb rel ra rb
 cases a with
 | int i=>
  cases b with
  | int j=>
   refine qb (Rep.int_iff.mp ra) fun t o_73=>?_;clear ra;obtain rfl:=o_73;refine qb (Rep.int_iff.mp rb) fun u o_74=>?_;clear rb;obtain rfl:=o_74;exact Run.ok (ge_int ⟨ρ,rel,Ext.refl ..,Rep.bool _⟩)
  | _=>exact Run.stuck
 | _=>exact Run.stuck
noncomputable def truV:V→M Bool
 | .bool b=>fun σ=>.ok b σ
 | .obj l=>fun σ=>match σ.st[l]? with
  | some (.lst vs)=>.ok (!vs.isEmpty) σ
  | _=>.stuck
 | _=>fun _=>.stuck
theorem ki:gbs K truV:=by
 intro F fk σ ρ s a wa rel ra
 cases a with
 | bool b=>rw [Rep.bool_iff.mp ra]; exact Run.ok (wpAny_truthy_bool ⟨ρ,rel,Ext.refl ..,rfl⟩)
 | obj l=>
  unfold truV;dsimp only
  cases hl:σ.st[l]? with
  | none=>exact Run.stuck
  | some c=>
   cases c with
   | set _=>exact Run.stuck
   | itr _ _ _=>exact Run.stuck
   | opq=>exact Run.stuck
   | tab=>exact Run.stuck
   | clo _ _=>exact Run.stuck
   | lst xs=>
    refine zh (rel.list ra hl) fun x ws n o_75 hρ hL hr hn=>?_;clear ra;obtain rfl:=o_75
    refine Run.ok (wpAny_truthy_list hL.isList (by rw [List.size_toArray,hr.length]; exact nL28 hn) ⟨ρ,rel.tok _,Ext.refl ..,?_⟩)
    show (!ws.toArray.isEmpty) = !xs.isEmpty;have:=hr.length
    cases ws <;> cases xs <;> simp_all
 | _=>exact Run.stuck
noncomputable def lenB:List V→M V
 | [.obj l]=>fun σ=>match σ.st[l]? with
  | some (.lst vs)=>.ok (.int vs.length) σ
  | _=>.stuck
 | _=>fun _=>.stuck
theorem gi:wt K (.builtin "len") lenB:=by
 intro F fk hnh σ ρ s vs ws rel r
 rcases (show lenB vs σ = .stuck∨∃ x,vs=[.obj x] by
  rcases vs with _ | ⟨v,_ | ⟨u,r⟩⟩
  ·exact .inl rfl
  ·cases v <;> first | exact .inl rfl | exact .inr ⟨_,rfl⟩
  ·cases v <;> exact .inl rfl) with h | ⟨l,rfl⟩
 ·rw [h]; exact Run.stuck
 unfold lenB;dsimp only
 ·refine yc (RepL.cons_iff.mp r) fun w ws' o_76 r1 r2=>?_;obtain rfl:=o_76;rw [RepL.nil_iff.mp r2]
  cases hl:σ.st[l]? with
  | none=>exact Run.stuck
  | some c=>
   cases c with
   | set _=>exact Run.stuck
   | itr _ _ _=>exact Run.stuck
   | opq=>exact Run.stuck
   | tab=>exact Run.stuck
   | clo _ _=>exact Run.stuck
   | lst xs=>
    refine zh (rel.list r1 hl) fun x ws n o_77 hρ hL hr hn=>?_;clear r1 r;obtain rfl:=o_77
    refine Run.ok (PySem.Calls.call_len_list hL.isList (by rw [List.size_toArray,hr.length]; exact nL28 hn) ⟨ρ,rel.tok _,Ext.refl ..,?_⟩)
    rw [List.size_toArray,hr.length]; exact Rep.int ..
end
section
variable {K:Glo} {F:Frm}
noncomputable def SimO (K:Glo) (F:Frm) (e:Option Expr) (m:M V):Prop:= ∀ σ ρ s,Rel K F σ ρ s→Run K F (valueOrNone (evalOpt e F.env)) (Rep K) (m σ) ρ s
theorem yp:SimO K F none (pure .none):=fun zZ zZ zZ rel=>Run.pure rel Rep.none
theorem zad {e:Expr} {m:M V} (h:SimE K F e m):SimO K F (some e) m:=h
noncomputable def wd5 (K:Glo) (h:Heap) (ρ:List Addr) (p:V×V×V) (w:Value):Prop:= ∃ ad va vb vc,w = .ref ad∧h.IsSliceOf ad va vb vc∧Rep K h ρ p.1 va∧Rep K h ρ p.2.1 vb∧Rep K h ρ p.2.2 vc
theorem yci {lo hi st:Option Expr} {ml mh ms:M V} (p:Pos) (h1:SimO K F lo ml) (h2:SimO K F hi mh) (h3:SimO K F st ms) {σ:S} {ρ:List Addr} {s:Shared} (rel:Rel K F σ ρ s) :
  Run K F (eval (.Slice lo hi st p) F.env) (wd5 K) ((do let a ← ml; let b ← mh; let c ← ms; pure (a,b,c):M (V×V×V)) σ) ρ s:=by
 show Run K F (do
  let l ← valueOrNone (evalOpt lo F.env)
  let u ← holding [l] (valueOrNone (evalOpt hi F.env))
  let s ← holding [l,u] (valueOrNone (evalOpt st F.env))
  newFields "slice" [l,u,s]) _ _ ρ s
 refine Run.bind (h1 σ ρ s rel) fun a σ₁ ρ₁ s₁ wa zZ rel₁ x₁ ra=>?_;refine Run.bind (Run.holding (h2 σ₁ ρ₁ s₁ rel₁)) fun b σ₂ ρ₂ s₂ wb zZ rel₂ x₂ rb=>?_;refine Run.bind (Run.holding (h3 σ₂ ρ₂ s₂ rel₂)) fun c σ₃ ρ₃ s₃ wc zZ rel₃ x₃ rc=>?_
 have x':Ext F.mine ρ₃ ρ₃ s₃.heap (s₃.heap.push {cls:= .type "slice",data:= .fields #[wa,wb,wc]}):=Ext.push _
 refine Run.ok (wpAny_newObj_type ⟨ρ₃,rel₃.push _ s₃.toks,x',?_⟩);exact (jk _ wa wb wc rfl (Heap.IsSliceOf.new ..) (((ra.mono x₂).mono x₃).mono x') ((rb.mono x₃).mono x') (rc.mono x'))
noncomputable def jv:V→Option (Option Int)
 | .none=>some none
 | .int i=>some (some i)
 | _=>none
theorem xa8 {h:Heap} {ρ:List Addr} {v:V} {w:Value} {k:Option Int} (r:Rep K h ρ v w) (e:jv v=some k):IsPart w k:=by
 cases v with
 | none=>rw [Rep.none_iff.mp r]; (injection e with c_1; subst c_1); exact .none
 | int i=>obtain ⟨t,rfl⟩:=Rep.int_iff.mp r; (injection e with c_1; subst c_1); exact .int i t
 | _=>(injection e)
noncomputable def waf {α:Type} (vs:List α) (lo hi st:Option Int):List α :=
 (sliceRange (sliceBounds lo hi st vs.length).1 (sliceBounds lo hi st vs.length).2.1 (sliceBounds lo hi st vs.length).2.2).filterMap (vs[·]?)
theorem jas {h:Heap} {ρ:List Addr} {vs:List V} {ws:List Value} (r:RepL K h ρ vs ws):∀ (is:List Nat),RepL K h ρ (is.filterMap (vs[·]?)) (is.filterMap (ws[·]?))
 | []=>RepL.nil
 | i :: is=>by
  simp only [List.filterMap_cons,List.filterMap_cons]
  cases e:vs[i]? with
  | none=>
   have:ws[i]?=none:=by
    simp only [List.getElem?_eq_none_iff] at e ⊢;rw [r.length]; exact e
   rw [this];exact jas r is
  | some v=>
   refine ya (r.get? e) fun w hw q=>?_;rw [hw];exact RepL.cons q (jas r is)
theorem xbv {vs:List V} {ws:List Value} {h:Heap} {ρ:List Addr} (r:RepL K h ρ vs ws) (lo hi st:Option Int):(waf vs lo hi st).length≤vs.length:=by
 have h1:=slicePick_size_le ws.toArray lo hi st
 have h2:(waf vs lo hi st).length=(slicePick ws.toArray lo hi st).size:=by
  unfold slicePick;rw [List.size_toArray];have:=(jas (K:=K) r (sliceRange (sliceBounds lo hi st vs.length).1 (sliceBounds lo hi st vs.length).2.1 (sliceBounds lo hi st vs.length).2.2)).length;rw [List.size_toArray,r.length];unfold waf;simp only [List.getElem?_toArray];exact this.symm
 rw [h2];refine Nat.le_trans h1 ?_;rw [List.size_toArray,r.length]; exact Nat.le_refl _
noncomputable def qt:V→V×V×V→M V
 | .obj l,(a,b,c)=>fun σ=>match σ.st[l]?,jv a,jv b,jv c with
  | some (.lst vs),some lo,some hi,some st=>if st=some 0 then .stuck else .ok (.obj σ.st.length) {σ with st:=σ.st ++ [.lst (waf vs lo hi st)]}
  | _,_,_,_=>.stuck
 | _,_=>fun _=>.stuck
theorem j7 (fk:FOk F) {value:Expr} {lo hi st:Option Expr} {mv ml mh ms:M V} (p pos:Pos) (hv:SimE K F value mv) (h1:SimO K F lo ml) (h2:SimO K F hi mh) (h3:SimO K F st ms) {ops:Value→Value→List Value}
  (hs:∀ o i,subscripted (.Slice lo hi st p) false o i=PySem.operate (ops o i) (getItem o i):=by intro _ _; rfl) :
  SimE K F (.Subscript value (.Slice lo hi st p) pos) (do let o ← mv; let i ← (do let a ← ml; let b ← mh; let c ← ms; pure (a,b,c)); qt o i):=by
 intro σ ρ s rel;simp only [eval_Subscript];refine Run.bind (hv σ ρ s rel) fun a σ₁ ρ₁ s₁ wa zZ rel₁ x₁ ra=>?_;refine Run.bind (Run.holding (yci p h1 h2 h3 rel₁)) fun b σ₂ ρ₂ s₂ wb zZ rel₂ x₂ rb=>?_;refine Run.standAt ?_;show Run K F (subscriptTail value (.Slice lo hi st p) wa wb) (Rep K) (qt a b σ₂) ρ₂ s₂;refine wrap fun G_ hG_=>?_;obtain ⟨b1,b2,b3⟩:=b;obtain ⟨ad,va,vb,vc,o_80,hsl,r1,r2,r3⟩:=rb;refine hG_ ?_;clear hG_ G_;obtain rfl:=o_80
 cases a with
 | obj l=>
  unfold qt;dsimp only
  cases hl:σ₂.st[l]? with
  | none=>exact Run.stuck
  | some c=>
   cases c with
   | set _=>exact Run.stuck
   | itr _ _ _=>exact Run.stuck
   | opq=>exact Run.stuck
   | tab=>exact Run.stuck
   | clo _ _=>exact Run.stuck
   | lst vs=>
    cases e1:jv b1 with
    | none=>exact Run.stuck
    | some o1=>
     cases e2:jv b2 with
     | none=>exact Run.stuck
     | some o2=>
      cases e3:jv b3 with
      | none=>exact Run.stuck
      | some o3=>
       dsimp only
       by_cases h0:o3=some 0
       ·rw [if_pos h0]; exact Run.stuck
       ·rw [if_neg h0];refine zh (rel₂.list (ra.mono x₂) hl) fun x ws n o_81 hρ hL hr hn=>?_;clear ra;obtain rfl:=o_81;have hlen:=xbv hr o1 o2 o3
        have e:(slicePick ws.toArray o1 o2 o3)=((sliceRange (sliceBounds o1 o2 o3 vs.length).1 (sliceBounds o1 o2 o3 vs.length).2.1 (sliceBounds o1 o2 o3 vs.length).2.2).filterMap (ws[·]?)).toArray:=by
         unfold slicePick;rw [List.size_toArray,hr.length];simp only [List.getElem?_toArray]
        refine kd (rel₂.newList (o:={cls:= .type "list",data:= .seq (slicePick ws.toArray o1 o2 o3)}) (vs:=waf vs o1 o2 o3) (by rw [e]) (jas hr _) (Nat.le_trans hlen hn) s₂.toks) fun rel' x'=>?_
        refine Run.ok (tail_any hL.isList.typeIs slot_list_getitem.lookup (wpAny_getItem_list_slice hL.isList hsl (xa8 r1 e1) (xa8 r2 e2) (xa8 r3 e3) h0 ?_ (zx (by rw [List.size_toArray,hr.length]; exact hn))) (hs _ _))
        refine (gc _ rel' x' (Rep.obj_iff.mpr (ja _ ?_ rfl)));simp only [← rel₂.len,List.getElem?_concat_length]
 | _=>exact Run.stuck
noncomputable def xag:V→List V→M V
 | .obj l,[v]=>fun σ=>match σ.st[l]? with
  | some (.lst vs)=>if l≠0∧vs.length < 1000000 then .ok .none {σ with st:=σ.st.set l (.lst (vs ++ [v]))} else .stuck
  | _=>.stuck
 | _,_=>fun _=>.stuck
theorem gb4:yc9 K "list.append" xag:=by
 intro F fk hnh σ ρ s o wo vs ws rel ro r
 rcases (show xag o vs σ = .stuck∨∃ x v,o = .obj x∧vs=[v] by
  rcases vs with _ | ⟨v,_ | ⟨u,r⟩⟩
  ·cases o <;> exact .inl rfl
  ·cases o <;> first | exact .inl rfl | exact .inr (yh _ _ rfl rfl)
  ·cases o <;> exact .inl rfl) with h | ⟨l,v,rfl,rfl⟩
 ·rw [h]; exact Run.stuck
 unfold xag;dsimp only
 ·refine yc (RepL.cons_iff.mp r) fun w ws' o_82 r1 r2=>?_;clear r;obtain rfl:=o_82;rw [RepL.nil_iff.mp r2]
  cases hl:σ.st[l]? with
  | none=>exact Run.stuck
  | some c=>
   cases c with
   | set _=>exact Run.stuck
   | itr _ _ _=>exact Run.stuck
   | opq=>exact Run.stuck
   | tab=>exact Run.stuck
   | clo _ _=>exact Run.stuck
   | lst xs=>
    dsimp only;refine zh (rel.list ro hl) fun x us n o_83 hρ hL hr hn=>?_;clear ro;obtain rfl:=o_83
    by_cases hz:l≠0∧xs.length < 1000000
    ·rw [if_pos hz]
     refine Run.ok (call_meets PySem.F.slot_list_append ⟨_,hL,rfl⟩ PySem.F.entry_list_append (PySem.F.args_list_append_2 _ _) (list_append x us.toArray n w (zx (by rw [List.size_toArray,hr.length]; exact hn))) ⟨hL,?_⟩)
     obtain ⟨rel',x'⟩:=rel.upd (s':={s with heap:=s.heap.update x (Obj.mapSeq fun y=>y.push w)}) (vs:=xs ++ [v]) (ws:=us ++ [w]) hρ hz.1 (Heap.SameBut.update ..) (by
      have:=hL.update (fun y=>y.push w);rw [List.push_toArray] at this
      exact this) (hr.append (RepL.cons r1 RepL.nil)) (by have:=hz.2; simp; exact nL29 this) rfl rfl
     exact (gc ρ rel' x' Rep.none)
    ·rw [if_neg hz]; exact Run.stuck
end
section
variable {K:Glo} {F:Frm}
noncomputable def qj (a b c:Int):Nat:=(Builtin.Range.rangeSize a b c).toNat
noncomputable def yf:V→S→Nat→Option (Option V)
 | .obj l=>fun σ i=>match σ.st[l]? with
  | some (.lst vs)=>some vs[i]?
  | _=>none
 | .tup vs=>fun _ i=>some vs[i]?
 | .rng a b c=>fun _ i=>some (if i < qj a b c then some (.int (a + i * c)) else none)
 | _=>fun _ _=>none
noncomputable def jf:V→M Unit
 | .obj l=>chkL (.obj l)
 | .tup _=>fun σ=>.ok () σ
 | .rng a b c=>fun σ=>if Builtin.Range.small a b c=true then .ok () σ else .stuck
 | _=>fun _=>.stuck
theorem zai (a b c:Int):0≤Builtin.Range.rangeSize a b c:=by
 unfold Builtin.Range.rangeSize
 split
 ·split
  ·have:=Int.ediv_nonneg (a:=b - a - 1) (b:=c) (by exact nL30 (by assumption)) (by omega); exact nL32 this
  ·exact kc2
 ·split
  ·have:=Int.ediv_nonneg (a:=a - b - 1) (b:= -c) (by lia) (by lia); exact nL32 this
  ·exact kc2
theorem qy (a b c:Int):((qj a b c:Nat):Int)=Builtin.Range.rangeSize a b c:=Int.toNat_of_nonneg (zai a b c)
theorem wbm {ρ₀:List Addr} {h₀:Heap} {I a:Addr} {l:Nat} (fk:FOk F) (hnh:F.nh=true) (hρ:ρ₀[l]?=some a) :
  Iter K F I (fun i o=>o.cls = .type "list_iterator" ∧ o.data = .fields #[.ref a,.int i 0]) (yf (.obj l)) ρ₀ h₀:=by
 refine ⟨fun i o h=>(zn _ _ h.2 h.1 (by decide) (by decide)),fun i o s A Q E e h q=>wpAny_pyIter_listiter ⟨o,e,h.1,h.2⟩ q,?_⟩
 intro σ ρ s i o rel x ho hs;have hρ':=getElem?_prefix x.pre hρ;unfold yf;dsimp only
 cases hl:σ.st[l]? with
 | none=>trivial
 | some c=>
  cases c with
  | set _=>trivial
  | itr _ _ _=>trivial
  | opq=>trivial
  | tab=>trivial
  | clo _ _=>trivial
  | lst vs=>
   dsimp only;refine jy (rel.cell l a _ hρ' hl) fun zZ ws n hL hr=>?_
   cases hv:vs[i]? with
   | none=>
    have hw:ws.toArray[i]?=none:=by
     have:ws[i]?=none:=by simp only [List.getElem?_eq_none_iff] at hv ⊢; rw [hr.length]; exact hv
     simpa using this
    exact wpAny_pyNext_list_end (fk.hd hnh) ⟨o,ho,hs.1,hs.2⟩ hL.isList hw fun h' hx=>⟨rfl,hx,rfl,rfl⟩
   | some v=>
    refine ya (hr.get? hv) fun w hw q=>?_
    refine wpAny_pyNext_list_item ⟨o,ho,hs.1,hs.2⟩ hL.isList (by simpa using hw) fun h' hit hsb=>(qar w rfl hsb.extBut rfl rfl ?_ ?_)
    ·refine yd hit fun o' e c d=>?_
     try clear hit; exact (gc o' e c d)
    ·refine Rep.mono' (List.prefix_refl _) (fun b o' e f=>hsb.extBut b o' ?_ e) q
     exact kj ho hs.2 (by rw [hs.1]; decide) e f
theorem was {ρ₀:List Addr} {h₀:Heap} {I:Addr} {a b c:Int} (fk:FOk F) (hnh:F.nh=true) :
  Iter K F I (fun i o=>i≤qj a b c∧o={cls:= .type "range_iterator",dict:=none,data:= .fields #[rawInt (a + i * c),rawInt ((qj a b c:Int) - i),rawInt c],slots:= #[]}) (yf (.rng a b c)) ρ₀ h₀:=by
 refine ⟨fun i o h=>by refine kd h fun zZ o_88=>?_; try clear h; obtain rfl:=o_88; exact (zn _ _ rfl rfl (by decide) (by decide)),fun i o s A Q E e h q=>by refine kd h fun zZ o_89=>?_; try clear h; obtain rfl:=o_89; exact wpAny_pyIter_rangeiter e q,?_⟩
 intro σ ρ s i o rel x ho hs;refine kd hs fun hi o_90=>?_
 try clear hs
 obtain rfl:=o_90;unfold yf;dsimp only
 by_cases hlt:i < qj a b c
 ·rw [if_pos hlt];dsimp only
  refine wpAny_pyNext_range_item ho (by exact nL35 hlt) fun h' hit hsb=>(qar _ rfl hsb.extBut rfl rfl ⟨_,hit,by exact nL36 hlt,?_⟩ (Rep.int ..))
  have e1:a + ((i + 1:Nat):Int) * c=a + (i:Int) * c + c:=by simp only [Int.natCast_add,Int.add_mul]; simp [Int.add_assoc]
  have e2:((qj a b c:Nat):Int) - ((i + 1:Nat):Int)=(qj a b c:Int) - (i:Int) - 1:=by exact nL37
  rw [e1,e2]
 ·rw [if_neg hlt];dsimp only
  exact wpAny_pyNext_range_end (fk.hd hnh) ho (by exact nL38 hlt) fun h' hx=>⟨rfl,hx,rfl,rfl⟩
theorem kbc {ρ₀:List Addr} {h₀:Heap} {I a:Addr} {vs:List V} {ws:List Value} (fk:FOk F) (hnh:F.nh=true) (ht:IsTup h₀ a ws.toArray) (hr:RepL K h₀ ρ₀ vs ws) :
  Iter K F I (fun i o=>o.cls = .type "tuple_iterator" ∧ o.data = .fields #[.ref a,.int i 0]) (yf (.tup vs)) ρ₀ h₀:=by
 refine ⟨fun i o h=>(zn _ _ h.2 h.1 (by decide) (by decide)),fun i o s A Q E e h q=>wpAny_pyIter_tupleiter ⟨o,e,h.1,h.2⟩ q,?_⟩
 intro σ ρ s i o rel x ho hs
 have ht':s.heap.IsTuple a ws.toArray:=by
  refine zv ht fun o' e c n d=>?_
  try clear ht
  exact (ja8 o' (x.froz a o' e (.inl (j5 c _ n d))) c n d)
 have hr':=hr.mono x;unfold yf;dsimp only
 cases hv:vs[i]? with
 | none=>
  have hw:ws.toArray[i]?=none:=by
   have:ws[i]?=none:=by simp only [List.getElem?_eq_none_iff] at hv ⊢; rw [hr.length]; exact hv
   simpa using this
  exact wpAny_pyNext_tuple_end (fk.hd hnh) ⟨o,ho,hs.1,hs.2⟩ ht' hw fun h' hx=>⟨rfl,hx,rfl,rfl⟩
 | some v=>
  refine ya (hr'.get? hv) fun w hw q=>?_
  refine wpAny_pyNext_tuple_item ⟨o,ho,hs.1,hs.2⟩ ht' (by simpa using hw) fun h' hit hsb=>(qar w rfl hsb.extBut rfl rfl ?_ ?_)
  ·refine yd hit fun o' e c d=>?_
   try clear hit; exact (gc o' e c d)
  ·refine Rep.mono' (List.prefix_refl _) (fun b o' e f=>hsb.extBut b o' ?_ e) q
   exact kj ho hs.2 (by rw [hs.1]; decide) e f
theorem j2 {σ:S} {ρ:List Addr} {s:Shared} (rel:Rel K F σ ρ s):s.heap.get? s.heap.objs.size=none∧K.base.get? s.heap.objs.size=none∧s.heap.objs.size∉F.mine∧s.heap.objs.size∉ρ:=by
 have h0:s.heap.get? s.heap.objs.size=none:=Heap.get?_none_of_le (Nat.le_refl _);refine ⟨h0,?_,?_,?_⟩
 ·cases e:K.base.get? s.heap.objs.size with
  | none=>rfl
  | some o=>have:=rel.base _ _ e; rw [h0] at this; (injection this)
 ·intro h;refine xl (rel.mineAbove _ h) fun zZ o e=>?_;rw [h0] at e; (injection e)
 ·intro h;refine ya (rel.toGRel.alive h) fun o e zZ=>?_;rw [h0] at e; (injection e)
theorem z9 (fk:FOk F) {target iter:Expr} {body:List Stmt} {mi:M V} {t:V→M Unit} {b:M Fl} (pos:Pos) (n:Nat) (hi:SimE K F iter mi) (ht:SimT K F target t) (hb:yj K F body b)
  (hs:∀ x,foldedSetIterable iter F.env x=pure x:=by intro _; rfl) (hnh:F.nh=true:=by rfl) :
  SimS K F (.For target iter body [] pos) (do let v ← mi; jf v; forG (yf v) t b n 0):=by
 intro σ ρ s rel;simp only [exec_For];refine Run.standAt (Run.bind (hi σ ρ s rel) fun v σ₁ ρ₁ s₁ w zZ rel₁ x₁ rv=>?_);rw [hs w,w4];refine Run.standAt ?_;refine Run.of_wp fun hne=>?_;refine xj (j2 rel₁) fun f0 f1 f2 f3=>?_
 have hok:jf v σ₁ = .ok () σ₁∧(jf v >>= fun zZ=>forG (yf v) t b n 0) σ₁=forG (yf v) t b n 0 σ₁:=by
  have:jf v σ₁ = .ok () σ₁:=by
   cases v with
   | obj l=>
    show chkL (.obj l) σ₁=_
    cases hc:σ₁.st[l]? with
    | none=>exact absurd (by rw [M.bind_def]; simp only [jf,chkL,hc]) hne
    | some c=>
     cases c with
     | lst us=>exact wan hc
     | set _=>exact absurd (by rw [M.bind_def]; simp only [jf,chkL,hc]) hne
     | itr _ _ _=>exact absurd (by rw [M.bind_def]; simp only [jf,chkL,hc]) hne
     | opq=>exact absurd (by rw [M.bind_def]; simp only [jf,chkL,hc]) hne
     | tab=>exact absurd (by rw [M.bind_def]; simp only [jf,chkL,hc]) hne
     | clo _ _=>exact absurd (by rw [M.bind_def]; simp only [jf,chkL,hc]) hne
   | tup vs=>rfl
   | rng a b' c=>
    unfold jf
    by_cases hsm:Builtin.Range.small a b' c=true
    ·simp only [hsm,if_true]
    ·exact absurd (by rw [M.bind_def]; simp only [jf,hsm]; rfl) hne
   | _=>exact absurd (by rw [M.bind_def]; rfl) hne
  exact ⟨this,M.bind_ok this⟩
 rw [hok.2] at hne ⊢
 cases v with
 | obj l=>
  refine ya (Rep.obj_iff.mp rv) fun a hρ o_91=>?_;obtain rfl:=o_91;refine qb (zax hok.1) fun us hus=>?_;refine jy (rel₁.cell l a _ hρ hus) fun zZ ws n' hL' zZ=>?_;have hL:=hL'.isList;refine wpAny_bind (wpAny_holding (wpAny_pyIter_list hL ?_));exact jab ht hb (wbm fk hnh hρ) (rel₁.push _ s₁.toks) (Ext.push _) f0 f1 f2 f3 (Heap.get?_push_size _ rfl) ⟨rfl,rfl⟩ n hne
 | tup vs=>
  refine qu rv.tupOf fun zZ a ws o_92 htp hr=>?_;obtain rfl:=o_92;refine wpAny_bind (wpAny_holding (wpAny_pyIter_tuple htp ?_));exact jab ht hb (kbc fk hnh htp hr) (rel₁.push _ s₁.toks) (Ext.push _) f0 f1 f2 f3 (Heap.get?_push_size _ rfl) ⟨rfl,rfl⟩ n hne
 | rng a b' c=>
  refine ku (Rep.rng_iff.mp rv) fun r t' u v' o_93 hR=>?_;clear rv;obtain rfl:=o_93
  have hsm:Builtin.Range.small a b' c=true:=by
   by_cases h:Builtin.Range.small a b' c=true
   ·exact h
   ·have:=hok.1; simp only [jf,h] at this; (injection this)
  refine wpAny_bind (wpAny_holding (wpAny_pyIter_range hR hsm ?_));refine jab ht hb (was (a:=a) (b:=b') (c:=c) fk hnh) (rel₁.push _ s₁.toks) (Ext.push _) f0 f1 f2 f3 (Heap.get?_push_size _ rfl) ⟨Nat.zero_le _,?_⟩ n hne;rw [qy]; simp
 | _=>cases hok.1
end
section
variable {K:Glo} {F:Frm}
theorem qbm {σ:S} {ρ:List Addr} {s:Shared} {v:V} {w:Value} (rel:Rel K F σ ρ s) (rv:Rep K s.heap ρ v w) (hok:jf v σ = .ok () σ) :
  ∃ (obj:Obj) (Src:Nat→Obj→Prop),Src 0 obj∧obj.isFreed=false∧(∀ F':Frm,FOk F'→F'.nh=true→Iter K F' s.heap.objs.size Src (yf v) ρ s.heap)∧
   ∀ (A:Around) (Q:Value→Shared→Prop) (E:Value→Shared→Prop),Q (.ref s.heap.objs.size) {s with heap:=s.heap.push obj}→wpAny (model K.prog K.w) A (pyIter w) Q E s:=by
 cases v with
 | obj l=>
  refine ya (Rep.obj_iff.mp rv) fun a hρ o_94=>?_;obtain rfl:=o_94;refine qb (zax hok) fun us hus=>?_;refine jy (rel.cell l a _ hρ hus) fun zZ ws n' hL' zZ=>?_;have hL:=hL'.isList;exact (zn _ _ ⟨rfl,rfl⟩ rfl (fun F' fk hnh=>wbm fk hnh hρ) (fun A Q E q=>wpAny_pyIter_list hL q))
 | tup vs=>
  refine qu rv.tupOf fun zZ a ws o_95 htp hr=>?_;obtain rfl:=o_95;exact (zn _ _ ⟨rfl,rfl⟩ rfl (fun F' fk hnh=>kbc fk hnh htp hr) (fun A Q E q=>wpAny_pyIter_tuple htp q))
 | rng a b c=>
  refine ku (Rep.rng_iff.mp rv) fun r t' u v' o_96 hR=>?_;clear rv;obtain rfl:=o_96
  have hsm:Builtin.Range.small a b c=true:=by
   by_cases h:Builtin.Range.small a b c=true
   ·exact h
   ·simp only [jf,h] at hok; (injection hok)
  refine (zn _ _ ⟨Nat.zero_le _,?_⟩ rfl (fun F' fk hnh=>was (a:=a) (b:=b) (c:=c) fk hnh) (fun A Q E q=>wpAny_pyIter_range hR hsm q));rw [qy]; simp
 | _=>(injection hok)
noncomputable def qbh (env:Env):Option Expr→Sem Bool
 | none=>pure true
 | some c=>isTrue c env (eval c env)
noncomputable def kan (e:Expr) (d:Nat) (env:Env) (acc:Value) (target:Expr) (test:Option Expr) (inner:Sem Unit):Prop :=
 ∀ (M:Model) (A:Around) (Q:PySem.Fin→Shared→Prop) (E:Value→Shared→Prop) (s:Shared) (it:Value),
  wpAny M A (pyNext it) (fun r s₁=>match r with
   | none=>Q (.done .next) s₁
   | some v=>wpAny M A (letOwnedTupleGo target it v) (fun _ s₂=>wpAny M A (assign target env v) (fun _ s₃=>wpAny M A (qbh env test) (fun ok s₄=>
     if ok=true then wpAny M A inner (fun _ s₅=>Q (.again (.compLoop e d it acc env)) s₅) E s₄ else Q (.again (.compLoop e d it acc env)) s₄) E s₃) E s₂) E s₁) E s→
  wpAny M A (compTurn e d it acc env) Q E s
noncomputable def jce (elt:Expr) (env:Env) (acc:Value):Sem Unit:=do let _ ← call (.builtin "list.append") [acc,← eval elt env]
noncomputable def xbc (e:Expr) (d:Nat) (iter:Expr) (env:Env) (acc:Value):Sem Unit:=do
 let x ← eval iter env
 standAt iter.pos
 let x ← foldedSetIterable iter env x
 let it ← holding [x] (pyIter x)
 let _ ← runOwn (.compStart e (d + 1) it acc env) env
theorem jci {M:Model} {A:Around} {E:Value→Shared→Prop} {s:Shared} {env:Env} {P:Bool→Shared→Prop} (ifs:List Expr) (test:Option Expr) (ht:ifs=test.toList) (h:wpAny M A (qbh env test) P E s) :
  wpAny M A (forIn ifs true fun c __s=>if __s=true then do let ok ← isTrue c env (eval c env); pure (ForInStep.yield ok) else pure (ForInStep.yield __s)) P E s:=by
 subst ht
 cases test with
 | none=>exact h
 | some c=>
  show wpAny M A (forIn [c] true _) P E s;rw [List.forIn_cons];refine wpAny_bind ?_;rw [if_pos rfl];refine wpAny_bind (wpAny_mono h (fun b s' hb=>wpAny_pure ?_) fun zZ zZ e=>e);dsimp only;simp only [List.forIn_nil];exact wpAny_pure hb
theorem ky {gens:List Comprehension} {d:Nat} {elt target iter:Expr} {ifs:List Expr} {test:Option Expr} {scope:Scope} {pos:Pos} {env:Env} {acc:Value} (hg:gens[d]?=some ⟨target,iter,ifs,0⟩) (hn:gens[d + 1]?=none) (ht:ifs=test.toList) :
  kan (.ListComp elt gens scope pos) d env acc target test (jce elt env acc):=by
 intro M A Q E s it h;unfold compTurn;simp only [hg];refine wpAny_bind (wpAny_standAt (wpAny_bind ?_));refine wpAny_mono h (fun r s₁ h₁=>?_) fun zZ zZ e=>e
 cases r with
 | none=>exact wpAny_pure h₁
 | some v=>
  refine wpAny_bind (wpAny_mono h₁ (fun zZ s₂ h₂=>wpAny_bind (wpAny_mono h₂ (fun zZ s₃ h₃=>?_) fun zZ zZ e=>e)) fun zZ zZ e=>e);refine wpAny_bind (jci ifs test ht (wpAny_mono h₃ (fun ok s₄ h₄=>?_) fun zZ zZ e=>e))
  cases ok with
  | true=>
   simp only [if_true] at h₄ ⊢;rw [hn];exact wpAny_bind (wpAny_mono h₄ (fun zZ s₅ h₅=>wpAny_pure h₅) fun zZ zZ e=>e)
  | false=>
   simp only [Bool.false_eq_true,if_false] at h₄ ⊢;exact wpAny_pure h₄
theorem wci {gens:List Comprehension} {d:Nat} {elt target iter t2 iter2:Expr} {ifs ifs2:List Expr} {test:Option Expr} {scope:Scope} {pos:Pos} {env:Env} {acc:Value} (hg:gens[d]?=some ⟨target,iter,ifs,0⟩) (hn:gens[d + 1]?=some ⟨t2,iter2,ifs2,0⟩) (ht:ifs=test.toList) :
  kan (.ListComp elt gens scope pos) d env acc target test (xbc (.ListComp elt gens scope pos) d iter2 env acc):=by
 intro M A Q E s it h;unfold compTurn;simp only [hg];refine wpAny_bind (wpAny_standAt (wpAny_bind ?_));refine wpAny_mono h (fun r s₁ h₁=>?_) fun zZ zZ e=>e
 cases r with
 | none=>exact wpAny_pure h₁
 | some v=>
  refine wpAny_bind (wpAny_mono h₁ (fun zZ s₂ h₂=>wpAny_bind (wpAny_mono h₂ (fun zZ s₃ h₃=>?_) fun zZ zZ e=>e)) fun zZ zZ e=>e);refine wpAny_bind (jci ifs test ht (wpAny_mono h₃ (fun ok s₄ h₄=>?_) fun zZ zZ e=>e))
  cases ok with
  | true=>
   simp only [if_true] at h₄ ⊢;rw [hn]
   have hh:wpAny M A (xbc (.ListComp elt gens scope pos) d iter2 env acc >>= fun zZ=>again (.compLoop (.ListComp elt gens scope pos) d it acc env)) Q E s₄ :=
    wpAny_bind (wpAny_mono h₄ (fun zZ s₅ h₅=>wpAny_pure h₅) fun zZ zZ e=>e)
   unfold xbc at hh;simp only [bind_assoc,pure_bind] at hh;exact hh
  | false=>
   simp only [Bool.false_eq_true,if_false] at h₄ ⊢;exact wpAny_pure h₄
noncomputable def SimA (K:Glo) (F:Frm) (l:Nat) (a:Addr) (t:Sem Unit) (m:M Unit):Prop:= ∀ σ ρ s,Rel K F σ ρ s→ρ[l]?=some a→Run K F t URep (m σ) ρ s
noncomputable def jl (c:M Bool) (inner:M Unit):M Fl:=do
 if (← c)=true then do
  inner
  pure .next
 else pure .next
noncomputable def gag (K:Glo) (F:Frm) (test:Option Expr) (c:M Bool):Prop:= ∀ σ ρ s,Rel K F σ ρ s→Run K F (qbh F.env test) BRep (c σ) ρ s
theorem xt:gag K F none (pure true):=fun zZ zZ zZ rel=>Run.pure rel rfl
theorem yai {e:Expr} {c:M Bool} (h:SimB K F e c):gag K F (some e) c:=h
structure CompE (ce:Expr) (gens:List Comprehension):Prop where
 cl:clausesOf ce=gens
 loop:∀ (prog:Program) (w:World) (A:Around) (d:Nat) (it acc:Value) (env:Env),(model prog w).den (.compLoop ce d it acc env)=(compTurn ce d it acc env).onRaise (fun x=>do noteFrame x env; theTreesLotGoes x)∧A.under (.compLoop ce d it acc env)=A
 start:∀ (prog:Program) (w:World) (A:Around) (d:Nat) (it acc:Value) (env:Env),(model prog w).den (.compStart ce d it acc env)=(compStart ce d it acc env).onRaise (fun x=>do noteFrame x env; standAt theWindowsPlace)∧A.under (.compStart ce d it acc env)=A
theorem qas {elt:Expr} {gens:List Comprehension} {scope:Scope} {pos:Pos}:CompE (.ListComp elt gens scope pos) gens:=⟨rfl,fun zZ zZ zZ zZ zZ zZ zZ=>⟨rfl,rfl⟩,fun zZ zZ zZ zZ zZ zZ zZ=>⟨rfl,rfl⟩⟩
theorem kbm {elt:Expr} {gens:List Comprehension} {scope:Scope} {pos:Pos}:CompE (.SetComp elt gens scope pos) gens:=⟨rfl,fun zZ zZ zZ zZ zZ zZ zZ=>⟨rfl,rfl⟩,fun zZ zZ zZ zZ zZ zZ zZ=>⟨rfl,rfl⟩⟩
theorem ka4 {prog:Program} {w:World} {A:Around} {s:Shared} {R:Result→Shared→Prop} {ce:Expr} {gens:List Comprehension} {d:Nat} {it acc:Value} {env:Env} (hce:CompE ce gens) (RQ:Shared→Prop) (N:Value→Shared→Prop) (hR:∀ f s',RQ s'→R (.ok f) s') (hN:∀ v s',N v s'→notedBy (model prog w) A env (fun e s'=>R (.error e) s') v s') (I:Nat→Shared→Prop)
  (turn:∀ n s,I n s→wpAny (model prog w) A (compTurn ce d it acc env) (fun fin s'=>match fin with
   | .done _=>RQ s'
   | .again c'=>c' = .compLoop ce d it acc env∧∃ m,m < n∧I m s') N s)
  (n:Nat) (h:I n s):codeAny (model prog w) A (.compLoop ce d it acc env) R s:=by
 refine codeAny_loop rfl I (fun n s hI=>?_) n h;show wpAny (model prog w) (A.under (.compLoop ce d it acc env)) ((model prog w).den (.compLoop ce d it acc env)) _ _ s;rw [(hce.loop prog w A d it acc env).1,(hce.loop prog w A d it acc env).2]
 exact wpAny_noted (wpAny_mono (turn n s hI) (fun fin s' q=>by cases fin with | done f=>exact hR f s' q | again c=>exact q) hN)
noncomputable def Hid (h:Heap) (b:Addr):Prop:= ∃ o vs,h.get? b=some o∧o.data = .fields vs∧NF o.cls
section
variable {σ:S} {ρ ρ₀ ρ':List Addr} {s s':Shared} {mine fp:List Addr} {h h₀ h':Heap}
theorem GRel.hid {st:gb} (rel:GRel K st ρ s) (hρ:∀ a∈fp,a∉ρ) (hb:∀ a∈fp,K.base.get? a=none) (ho:∀ a∈fp,Hid s.heap a) (hx:∀ b o,b∉fp→s.heap.get? b=some o→s'.heap.get? b=some o)
  (hg:s'.gens=s.gens) (hos:s'.os=s.os):GRel K st ρ s' where
 gens:=hg.trans rel.gens
 os:=hos.trans rel.os
 base:=fun b o' e=>hx b o' (fun hm=>by rw [hb b hm] at e; (injection e)) (rel.base b o' e)
 len:=rel.len
 cell:=fun l b c h1 h2=>by
  refine (rel.cell l b c h1 h2).mono (List.prefix_refl _) (fun d o' e f=>hx d o' (fun hm=>?_) e) (fun o e zZ=>hx b o (fun hm=>hρ b hm (List.mem_of_getElem? h1)) e) fun c v n=>?_
  ·refine yc (ho d hm) fun o vs g d1 d2=>?_; exact kj g d1 d2 e f rfl
  ·have hne:c∉fp:=fun q=>by refine yc (ho _ q) fun o vs g d1 d2=>?_; exact yx g d1 n rfl
   refine ya n fun o' e' r=>?_
   try clear n
   exact (ja o' (hx _ _ hne e') r)
 nodup:=rel.nodup
 above:=rel.above
 own:=fun b hb=>by
  refine ya (rel.own b hb) fun o' e r=>?_;refine (ja o' (hx b o' (fun q=>?_) e) r);refine yc (ho b q) fun o vs g d1 d2=>?_; exact kj g d1 d2 e (.inl r) rfl
theorem Rel.hid (rel:Rel K F σ ρ s) (hρ:∀ a∈fp,a∉ρ) (hb:∀ a∈fp,K.base.get? a=none) (hm:∀ a∈fp,a∉F.mine) (ho:∀ a∈fp,Hid s.heap a) (hx:∀ b o,b∉fp→s.heap.get? b=some o→s'.heap.get? b=some o)
  (hg:s'.gens=s.gens) (hos:s'.os=s.os):Rel K F σ ρ s' where
 toGRel:=rel.toGRel.hid hρ hb ho hx hg hos
 vars:=fun y u e=>by
  refine ya (rel.vars y u e) fun w h1 h2=>?_;refine (ja w (h1.mono (fun m n=>?_) (fun c u zZ n=>?_)) (Rep.mono' (List.prefix_refl _) (fun d o' e f=>hx d o' (fun q=>?_) e) h2))
  ·have hne:F.env.locals∉fp:=fun q=>by refine yc (ho _ q) fun o vs g d1 d2=>?_; exact kak g d1 n rfl
   refine wm n fun o' es ep e' r=>?_
   try clear n
   exact (gn o' es ep (hx _ _ hne e') r)
  ·have hne:c∉fp:=fun q=>by refine yc (ho _ q) fun o vs g d1 d2=>?_; exact yx g d1 n rfl
   refine ya n fun o' e' r=>?_
   try clear n
   exact (ja o' (hx _ _ hne e') r)
  ·refine yc (ho d q) fun o vs g d1 d2=>?_; exact kj g d1 d2 e f rfl
 loc:=by
  refine qb rel.loc fun m n=>?_
  have hne:F.env.locals∉fp:=fun q=>by refine yc (ho _ q) fun o vs g d1 d2=>?_; exact kak g d1 n rfl
  refine wm n fun o' es ep e' r=>?_
  try clear n
  exact (z6 m o' es ep (hx _ _ hne e') r)
 cels:=fun y c e=>by
  refine qb (rel.cels y c e) fun v n=>?_
  have hne:c∉fp:=fun q=>by refine yc (ho _ q) fun o vs g d1 d2=>?_; exact yx g d1 n rfl
  refine ya n fun o' e' r=>?_
  try clear n
  exact (yh v o' (hx _ _ hne e') r)
 mineAbove:=fun b hb'=>by
  refine xl (rel.mineAbove b hb') fun h1 o' h2=>?_;exact (qh h1 o' (hx b o' (fun q=>hm b q hb') h2))
 mineApart:=rel.mineApart
 mineLoc:=rel.mineLoc
 frs:=rel.frs.next fun b o es n g d=>⟨o,es,n,hx b o (fun q=>by
  refine yc (ho b q) fun o' vs g' d' zZ=>?_
  rw [g] at g'; (injection g' with c_1; subst c_1); rw [d] at d'; (injection d')) g,d⟩
theorem Ext.hidden (ho:∀ a∈fp,Hid h a) (hal:∀ a∈fp,∃ o,h'.get? a=some o) (hx:∀ b o,b∉fp→h.get? b=some o→h'.get? b=some o):Ext (fp ++ mine) ρ ρ h h' where
 pre:=List.prefix_refl _
 alive:=fun b o e=>by
  by_cases q:b∈fp
  ·exact hal b q
  ·exact ⟨o,hx b o q e⟩
 new:=fun zZ ha=>.inl ha
 keep:=fun b o e zZ n2=>(ja o (hx b o (fun q=>n2 (List.mem_append_left _ q)) e) (.refl _))
 froz:=fun b o e f=>hx b o (fun q=>by refine yc (ho b q) fun o' vs g d1 d2=>?_; exact kj g d1 d2 e f rfl) e
structure ExtF (fp mine ρ ρ':List Addr) (h h':Heap):Prop where
 pre:ρ <+: ρ'
 alive:∀ b o,h.get? b=some o→∃ o',h'.get? b=some o'
 new:∀ a∈ρ',a∈ρ∨h.get? a=none
 keep:∀ b o,h.get? b=some o→b∉ρ→b∉fp→b∉mine→∃ o',h'.get? b=some o'∧Like o o'
 froz:∀ b o,h.get? b=some o→Froz o→b∉fp→h'.get? b=some o
theorem Ext.toF (x:Ext (fp ++ mine) ρ ρ' h h'):ExtF fp mine ρ ρ' h h' :=
 ⟨x.pre,x.alive,x.new,fun b o e n1 n2 n3=>x.keep b o e n1 fun q=>(List.mem_append.mp q).elim n2 n3,fun b o e f zZ=>x.froz b o e f⟩
theorem Ext.hide (x:Ext mine ρ₀ ρ h₀ h) (y:ExtF fp mine ρ ρ' h h') (h0:∀ a∈fp,h₀.get? a=none):Ext mine ρ₀ ρ' h₀ h' where
 pre:=x.pre.trans y.pre
 alive:=fun b o e=>by refine qb (x.alive b o e) fun o1 e1=>?_; exact y.alive b o1 e1
 new:=fun a ha=>by
  rcases y.new a ha with h1 | h1
  ·exact x.new a h1
  ·refine .inr ?_
   cases e:h₀.get? a with
   | none=>rfl
   | some o=>obtain ⟨o1,e1⟩:=x.alive a o e; rw [h1] at e1; (injection e1)
 keep:=fun b o e n1 n2=>by
  refine ya (x.keep b o e n1 n2) fun o1 e1 l1=>?_
  have hn:b∉ρ:=fun hb=>by
   rcases x.new b hb with h1 | h1
   ·exact n1 h1
   ·rw [e] at h1; (injection h1)
  refine ya (y.keep b _ e1 hn (fun q=>by rw [h0 b q] at e; (injection e)) n2) fun o2 e2 l2=>?_
  exact (ja o2 e2 (l1.trans l2))
 froz:=fun b o e f=>y.froz b o (x.froz b o e f) f fun q=>by rw [h0 b q] at e; (injection e)
end
theorem Ext.butHid {ρ ρ₀ mine fp:List Addr} {h h₀ h':Heap} (x:Ext mine ρ₀ ρ h₀ h) (h0:∀ a∈fp,h₀.get? a=none) (hx:∀ b o,b∉fp→h.get? b=some o→h'.get? b=some o):Ext mine ρ₀ ρ h₀ h' where
 pre:=x.pre
 alive:=fun b o' e=>by
  refine qb (x.alive b o' e) fun o1 e1=>?_
  exact ⟨o1,hx b o1 (fun q=>by rw [h0 b q] at e; (injection e)) e1⟩
 new:=x.new
 keep:=fun b o' e n1 n2=>by
  refine ya (x.keep b o' e n1 n2) fun o1 e1 l1=>?_
  exact (ja o1 (hx b o1 (fun q=>by rw [h0 b q] at e; (injection e)) e1) l1)
 froz:=fun b o' e f=>hx b o' (fun q=>by rw [h0 b q] at e; (injection e)) (x.froz b o' e f)
structure GIter (K:Glo) (F:Frm) (target:Expr) (I:Addr) (fp:List Addr) (St:Nat→Heap→Prop) (nx:Nat→M (Option V)) (ρ₁:List Addr) (h₁:Heap):Prop where
 hid:∀ i h,St i h→∀ b∈fp,∃ o,h.get? b=some o∧∀ es n,o.data≠.dict es n
 frame0:∀ h h',St 0 h→(∀ b o,h.get? b=some o→h'.get? b=some o)→St 0 h'
 frame:∀ i h h',St (i + 1) h→(∀ b∈fp,∀ o,h.get? b=some o→h'.get? b=some o)→St (i + 1) h'
 self:∀ (s:Shared) (A:Around) (Q:Value→Shared→Prop) (E:Value→Shared→Prop),St 0 s.heap→Q (.ref I) s→wpAny (model K.prog K.w) A (pyIter (.ref I)) Q E s
 step:∀ σ ρ s i,Rel K F σ ρ s→Ext F.mine ρ₁ ρ h₁ s.heap→(∀ b∈fp,b∉ρ)→(∀ b∈fp,b∉F.mine)→(∀ b∈fp,K.base.get? b=none)→St i s.heap→
  match nx i σ with
  | .stuck=>True
  | .exc _ _=>True
  | .ok none σ'=>wpAny (model K.prog K.w) F.A (pyNext (.ref I)) (fun r s'=>r=none∧∃ ρ',Rel K F σ' ρ' s'∧ρ <+: ρ'∧∀ ρ₀ h₀,Ext F.mine ρ₀ ρ h₀ s.heap→(∀ b∈fp,h₀.get? b=none)→Ext F.mine ρ₀ ρ' h₀ s'.heap) (fun _ _=>False) s
  | .ok (some v) σ'=>wpAny (model K.prog K.w) F.A (pyNext (.ref I)) (fun r s' => ∃ w,r=some w∧∀ (Q:Unit→Shared→Prop) (E:Value→Shared→Prop),
    (∀ s'' ρ',Rel K F σ' ρ' s''→ExtF fp F.mine ρ ρ' s.heap s''.heap→St (i + 1) s''.heap→Rep K s''.heap ρ' v w→Q () s'')→wpAny (model K.prog K.w) F.A (letOwnedTupleGo target (.ref I) w) Q E s') (fun _ _=>False) s
noncomputable def forN (nx:Nat→M (Option V)) (t:V→M Unit) (b:M Fl):Nat→Nat→M Fl
 | 0,_=>stuck
 | n + 1,i=>fun σ=>match nx i σ with
  | .ok none σ'=>.ok .next σ'
  | .ok (some v) σ'=>(do
   t v
   match ← b with
   | .next=>forN nx t b n (i + 1)
   | .cont=>forN nx t b n (i + 1)
   | .brk=>pure .next
   | .ret v=>pure (.ret v)) σ'
  | _=>.stuck
theorem qci (nx:Nat→M (Option V)) (t:V→M Unit) (b:M Fl) (n i:Nat) (σ:S):forN nx t b (n + 1) i σ=(match nx i σ with
  | .stuck=>.stuck
  | .exc _ _=>.stuck
  | .ok none σ'=>.ok .next σ'
  | .ok (some v) σ'=>match t v σ' with
   | .stuck=>.stuck
   | .exc e σ₂=>.exc e σ₂
   | .ok _ σ₂=>match b σ₂ with
    | .ok .next σ₃=>forN nx t b n (i + 1) σ₃
    | .ok .cont σ₃=>forN nx t b n (i + 1) σ₃
    | .ok .brk σ₃=>.ok .next σ₃
    | .ok (.ret v) σ₃=>.ok (.ret v) σ₃
    | .exc e σ₃=>.exc e σ₃
    | .stuck=>.stuck):=by
 rw [forN];dsimp only
 cases nx i σ with
 | stuck=>rfl
 | exc e y=>rfl
 | ok x σ'=>
  cases x with
  | none=>rfl
  | some v=>
   dsimp only;rw [M.bind_def]
   cases t v σ' with
   | stuck=>rfl
   | exc e y=>rfl
   | ok u y=>
    dsimp only;rw [M.bind_def]
    cases b y with
    | stuck=>rfl
    | exc e z=>rfl
    | ok f z=>cases f <;> rfl
theorem M.bind_assoc' {α β γ:Type} (m:M α) (f:α→M β) (g:β→M γ):(m >>= f) >>= g=m >>= fun a=>f a >>= g:=by
 funext σ
 show (match (m >>= f) σ with | .ok a σ'=>g a σ' | .exc e σ'=>.exc e σ' | .stuck=>.stuck)=_
 rw [M.bind_def,M.bind_def]
 cases m σ <;> rfl
theorem wce (nx:Nat→M (Option V)) (t:V→M Unit) (c:M Bool) (mi:M Unit) (n i:Nat) (σ:S):forN nx t (jl c mi) (n + 1) i σ=(match nx i σ with
  | .ok none σ'=>.ok .next σ'
  | .ok (some v) σ'=>(t v >>= fun zZ=>c >>= fun y=>bif y then (mi >>= fun zZ=>forN nx t (jl c mi) n (i + 1)) else forN nx t (jl c mi) n (i + 1)) σ'
  | _=>.stuck):=by
 have e:∀ g:Fl→M Fl,jl c mi >>= g=c >>= fun y=>bif y then (mi >>= fun zZ=>g .next) else g .next:=by
  intro g;unfold jl;rw [M.bind_assoc']
  congr 1
  funext y
  cases y
  ·rfl
  ·show ((mi >>= fun zZ=>pure .next) >>= g)=_;rw [M.bind_assoc']
   rfl
 rw [forN];simp only [e]
theorem wau {ce target:Expr} {gens:List Comprehension} {d l:Nat} {a:Addr} {test:Option Expr} {inner:Sem Unit} {t:V→M Unit} {c:M Bool} {mi:M Unit}
  (hce:CompE ce gens) (hto:kan ce d F.env (.ref a) target test inner)
  (ht:SimT K F target t) (hc:gag K F test c) (hin:SimA K F l a inner mi) {I:Addr} {fp:List Addr} {St:Nat→Heap→Prop} {nx:Nat→M (Option V)}
  {σ:S} {ρ ρ₀:List Addr} {s:Shared} {h₀:Heap} (hI:GIter K F target I fp St nx ρ₀ h₀) (rel:Rel K F σ ρ s) (hla:ρ[l]?=some a) (x₀:Ext F.mine ρ₀ ρ h₀ s.heap) (h0:∀ b∈fp,h₀.get? b=none) (hbase:∀ b∈fp,K.base.get? b=none)
  (hmi:∀ b∈fp,b∉F.mine) (hρ:∀ b∈fp,b∉ρ) (hs:St 0 s.heap) (n:Nat) (hne:forN nx t (jl c mi) n 0 σ≠.stuck) :
  codeAny (model K.prog K.w) F.A (.compLoop ce d (.ref I) (.ref a) F.env) (fun r s'=>match r with
   | .ok _ => ∃ f σ' ρ',forN nx t (jl c mi) n 0 σ = .ok f σ'∧Rel K F σ' ρ' s'∧Ext F.mine ρ₀ ρ' h₀ s'.heap∧ρ'[l]?=some a
   | .error v=>EO K F (forN nx t (jl c mi) n 0 σ) ρ₀ h₀ v s') s:=by
 refine ka4 hce (fun s' => ∃ f σ' ρ',forN nx t (jl c mi) n 0 σ = .ok f σ'∧Rel K F σ' ρ' s'∧Ext F.mine ρ₀ ρ' h₀ s'.heap∧ρ'[l]?=some a) (EO K F (forN nx t (jl c mi) n 0 σ) ρ₀ h₀) (fun zZ zZ q=>q) (fun zZ zZ hx=>hx.noted) (fun k s' => ∃ σ₁ ρ' i,Rel K F σ₁ ρ' s'∧forN nx t (jl c mi) k i σ₁=forN nx t (jl c mi) n 0 σ∧Ext F.mine ρ₀ ρ' h₀ s'.heap∧(∀ b∈fp,b∉ρ')∧ρ'[l]?=some a∧St i s'.heap) ?_ n
  ⟨σ,ρ,0,rel,rfl,x₀,hρ,hla,hs⟩
 generalize forN nx t (jl c mi) n 0 σ=out at hne ⊢
 rintro k s₁ ⟨σ₁,ρ',i,rel₁,e₁,x₁,hρ₁,hla₁,hs₁⟩
 cases k with
 | zero=>exact absurd e₁.symm hne
 | succ k=>
  have e₀:(match nx i σ₁ with
   | .ok none σ'=>.ok .next σ'
   | .ok (some v) σ'=>(t v >>= fun zZ=>c >>= fun y=>bif y then (mi >>= fun zZ=>forN nx t (jl c mi) k (i + 1)) else forN nx t (jl c mi) k (i + 1)) σ'
   | _=>.stuck:Res S Fl)=out:=e₁ ▸ (wce ..).symm
  clear e₁;have hstep:=hI.step σ₁ ρ' s₁ i rel₁ x₁ hρ₁ hmi hbase hs₁;refine hto _ _ _ _ _ _ ?_
  cases en:nx i σ₁ with
  | stuck=>rw [en] at e₀; exact absurd e₀.symm hne
  | exc x y=>rw [en] at e₀; exact absurd e₀.symm hne
  | ok ov σn=>
   rw [en] at hstep e₀
   cases ov with
   | none=>
    refine wpAny_mono hstep (fun r s₂ h=>?_) fun zZ zZ h=>h.elim;refine xar h fun o_97 ρ₂ r2 y1 y2=>?_
    try clear h
    obtain rfl:=o_97;exact (zd .next σn ρ₂ e₀.symm r2 (y2 _ _ x₁ h0) (getElem?_prefix y1 hla₁))
   | some v=>
    have hold:∀ {ρ₂ ρ₃:List Addr} {g g':Heap} {i:Nat},Ext F.mine ρ₂ ρ₃ g g'→(∀ b∈fp,b∉ρ₂)→St (i + 1) g→St (i + 1) g'∧(∀ b∈fp,b∉ρ₃):=by
     intro ρ₂ ρ₃ g g' i x hn e;refine ⟨hI.frame i g g' e fun b hb o ho=>?_,fun b hb hin=>?_⟩
     ·refine ya (hI.hid (i + 1) g e b hb) fun o1 g1 d1=>?_;rw [g1] at ho; cases ho;refine ya (x.keep b o g1 (hn b hb) (hmi b hb)) fun o' e' l=>?_;rw [e',l.same d1]
     ·rcases x.new b hin with q | q
      ·exact hn b hb q
      ·refine ya (hI.hid (i + 1) g e b hb) fun o1 g1 d1=>?_;rw [g1] at q; (injection q)
    refine wpAny_mono hstep (fun r s₂' h=>?_) fun zZ zZ h=>h.elim;obtain ⟨w,rfl,h⟩:=h;refine h _ _ fun s₂ ρ₂ rel₂ y₂ hs₂ rv=>?_
    have hρ₂:∀ b∈fp,b∉ρ₂:=fun b hb hin=>by
     rcases y₂.new b hin with q | q
     ·exact hρ₁ b hb q
     ·refine ya (hI.hid i _ hs₁ b hb) fun o g zZ=>?_;rw [g] at q; (injection q)
    refine (ht σn ρ₂ s₂ v w rel₂ rv).stepW (x₁.hide y₂ h0) hne e₀ id fun zZ σ₃ ρ₃ zZ s₃ e₃ rel₃ y₃ x₃ zZ=>?_;refine kd (hold y₃ hρ₂ hs₂) fun ho₃ hρ₃=>?_;have hla₃:=getElem?_prefix y₃.pre (getElem?_prefix y₂.pre hla₁);refine (hc σ₃ ρ₃ s₃ rel₃).stepW x₃ hne e₃ id fun b σ₄ ρ₄ wb s₄ e₄ rel₄ y₄ x₄ rb=>?_;have:wb=b:=rb;subst this;refine kd (hold y₄ hρ₃ ho₃) fun ho₄ hρ₄=>?_;have hla₄:=getElem?_prefix y₄.pre hla₃
    cases wb with
    | false=>exact ⟨rfl,k,Nat.lt_succ_self _,σ₄,ρ₄,i + 1,rel₄,e₄,x₄,hρ₄,hla₄,ho₄⟩
    | true=>
     refine (hin σ₄ ρ₄ s₄ rel₄ hla₄).stepW x₄ hne e₄ id fun zZ σ₅ ρ₅ zZ s₅ e₅ rel₅ y₅ x₅ zZ=>?_;refine kd (hold y₅ hρ₄ ho₄) fun ho₅ hρ₅=>?_;exact ⟨rfl,k,Nat.lt_succ_self _,σ₅,ρ₅,i + 1,rel₅,e₅,x₅,hρ₅,getElem?_prefix y₅.pre hla₄,ho₅⟩
noncomputable def nxM (nxt:S→Nat→Option (Option V)) (i:Nat):M (Option V):=fun σ=>match nxt σ i with
 | none=>.stuck
 | some ov=>.ok ov σ
theorem gbv (nxt:S→Nat→Option (Option V)) (t:V→M Unit) (b:M Fl):∀ (n i:Nat) (σ:S),forN (nxM nxt) t b n i σ=forG nxt t b n i σ
 | 0,_,_=>rfl
 | n + 1,i,σ=>by
  simp only [qci,kch];unfold nxM
  cases nxt σ i with
  | none=>rfl
  | some ov=>
   cases ov with
   | none=>rfl
   | some v=>
    dsimp only
    cases t v σ with
    | stuck=>rfl
    | exc e y=>rfl
    | ok u y=>
     dsimp only
     cases b y with
     | stuck=>rfl
     | exc e z=>rfl
     | ok f z=>cases f <;> first | rfl | exact gbv nxt t b n (i + 1) z
theorem Iter.g {target:Expr} {I:Addr} {Src:Nat→Obj→Prop} {nxt:S→Nat→Option (Option V)} {ρ₀:List Addr} {h₀:Heap} (hI:Iter K F I Src nxt ρ₀ h₀) :
  GIter K F target I [I] (fun i h => ∃ o,h.get? I=some o∧Src i o) (nxM nxt) ρ₀ h₀ where
 hid:=by
  rintro i h ⟨o,g,hs⟩ b hb
  refine ym (hI.1 i o hs) fun vs T d c zZ r=>?_;rw [List.mem_singleton.mp hb]
  exact (ja o g (fun es n q=>by rw [d] at q; (injection q)))
 frame0:=by
  rintro h h' ⟨o,g,hs⟩ hk
  exact (ja o (hk I o g) hs)
 frame:=by
  rintro i h h' ⟨o,g,hs⟩ hk
  exact (ja o (hk I (by simp) o g) hs)
 self:=by
  rintro s A Q E ⟨o,g,hs⟩ q
  exact hI.2.1 0 o s A Q E g hs q
 step:=by
  rintro σ ρ s i rel x hρ hm hb ⟨o,g,hs⟩
  have hstep:=hI.2.2 σ ρ s i o rel x g hs;refine ym (hI.1 i o hs) fun vs T hd hc hT hr=>?_
  have hh:∀ a∈[I],Hid s.heap a:=by
   intro a ha;rw [List.mem_singleton.mp ha]
   exact (gk o vs g hd (by rw [hc]; exact ⟨fun e=>hr.1 (by cases e; rfl),fun e=>hr.2 (by cases e; rfl)⟩))
  unfold nxM
  cases en:nxt σ i with
  | none=>trivial
  | some ov=>
   rw [en] at hstep
   cases ov with
   | none=>
    refine wpAny_mono hstep (fun r s₂ h=>?_) fun zZ zZ h=>h.elim;refine xj h fun o_99 hx hg hos=>?_
    try clear h
    obtain rfl:=o_99
    have hx':∀ b o,b∉[I]→s.heap.get? b=some o→s₂.heap.get? b=some o:=fun b o hb e=>hx b o (by simpa using hb) e
    exact (zy rfl ρ (rel.hid hρ hb hm hh hx' hg hos) (List.prefix_refl _) (fun ρ₀ h₀ x h0=>x.butHid h0 hx'))
   | some v=>
    refine wpAny_mono hstep (fun r s₂ h=>?_) fun zZ zZ h=>h.elim;refine wrap fun G_ hG_=>?_;obtain ⟨w,o_100,hx,hg,hos,o_101,rv⟩:=h;refine hG_ ?_;clear hG_ G_;obtain rfl:=o_100;refine ya o_101 fun o₂ ho₂ hs₂=>?_
    try clear o_101
    refine (ja w rfl (fun Q E q=>?_));refine ym (hI.1 (i + 1) o₂ hs₂) fun vs₂ T₂ hd₂ hc₂ hT₂ hr₂=>?_
    have hx':∀ b o,b∉[I]→s.heap.get? b=some o→s₂.heap.get? b=some o:=fun b o hb e=>hx b o (by simpa using hb) e
    refine yas ho₂ hc₂ hT₂ (q s₂ ρ (rel.hid hρ hb hm hh hx' hg hos) (Ext.hidden hh (fun a ha=>by rw [List.mem_singleton.mp ha]; exact ⟨_,ho₂⟩) hx').toF ⟨o₂,ho₂,hs₂⟩ rv)
theorem zbw {ce target:Expr} {gens:List Comprehension} {d l:Nat} {a:Addr} {test:Option Expr} {inner:Sem Unit} {t:V→M Unit} {c:M Bool} {mi:M Unit}
  (hce:CompE ce gens) (hto:kan ce d F.env (.ref a) target test inner)
  (ht:SimT K F target t) (hc:gag K F test c) (hin:SimA K F l a inner mi) {I:Addr} {Src:Nat→Obj→Prop} {nxt:S→Nat→Option (Option V)}
  {σ:S} {ρ ρ₀:List Addr} {s:Shared} {h₀:Heap} {o:Obj} (hI:Iter K F I Src nxt ρ₀ h₀) (rel:Rel K F σ ρ s) (hla:ρ[l]?=some a) (x₀:Ext F.mine ρ₀ ρ h₀ s.heap) (h0:h₀.get? I=none) (hbase:K.base.get? I=none)
  (hmi:I∉F.mine) (hρ:I∉ρ) (ho:s.heap.get? I=some o) (hs:Src 0 o) (n:Nat) (hne:forG nxt t (jl c mi) n 0 σ≠.stuck) :
  codeAny (model K.prog K.w) F.A (.compLoop ce d (.ref I) (.ref a) F.env) (fun r s'=>match r with
   | .ok _ => ∃ f σ' ρ',forG nxt t (jl c mi) n 0 σ = .ok f σ'∧Rel K F σ' ρ' s'∧Ext F.mine ρ₀ ρ' h₀ s'.heap∧ρ'[l]?=some a
   | .error v=>EO K F (forG nxt t (jl c mi) n 0 σ) ρ₀ h₀ v s') s:=by
 have key:∀ {P:Addr→Prop},P I→∀ b∈[I],P b:=fun h b hb=>by rw [List.mem_singleton.mp hb]; exact h
 rw [← gbv] at hne ⊢;exact wau hce hto ht hc hin hI.g rel hla x₀ (key h0) (key hbase) (key hmi) (key hρ) ⟨o,ho,hs⟩ n hne
theorem yad {prog:Program} {w:World} {A:Around} {s:Shared} {R:Result→Shared→Prop} {ce target iter:Expr} {ifs:List Expr} {gens:List Comprehension} {d:Nat} {it acc:Value} {env:Env}
  (hg:gens[d]?=some ⟨target,iter,ifs,0⟩)
  (h0:codeAny (model prog w) A (.compLoop ce d it acc env) R s)
  (h:∀ (Q:Value→Shared→Prop) (E:Value→Shared→Prop),Q it s→wpAny (model prog w) A (pyIter it) Q E s) (hce:CompE ce gens:=by first | exact qas | exact kbm) :
  codeAny (model prog w) A (.compStart ce d it acc env) R s:=by
 refine codeAny_of_tree ?_;show wpAny (model prog w) (A.under (.compStart ce d it acc env)) ((model prog w).den (.compStart ce d it acc env)) _ _ s;rw [(hce.start prog w A d it acc env).1,(hce.start prog w A d it acc env).2];refine wpAny_notedAt ?_;unfold compStart;rw [hce.cl,hg];show wpAny _ _ (ask >>= _) _ _ s;refine wpAny_bind (wpAny_askSetting (wpAny_ite ?_))
 split
 ·first
   | exact wpAny_bind (wpAny_pure (wpAny_pure (And.intro rfl h0)))
   | exact wpAny_pure (And.intro rfl h0)
 ·refine wpAny_bind (wpAny_rule ?_);show wpAny _ _ (standAt iter.pos >>= _) _ _ s;exact wpAny_bind (wpAny_standAt (wpAny_bind (h _ _ (wpAny_pure (And.intro rfl h0)))))
noncomputable def j0 (F:Frm) (scope:Scope) (cl:List (Str×Addr)) (C:Addr):Frm:=⟨compEnvC scope cl C F.env,F.A,[C],F.nh⟩
theorem FOk.comp (fk:FOk F) {scope:Scope} {cl:List (Str×Addr)} {C:Addr} (hk:scope.kind = .function):FOk (j0 F scope cl C):=⟨hk,fk.glob,fk.blt,fk.hd,fk.units⟩
noncomputable def kb7 (F:Frm) (C:Addr):Prop:= ∀ l,F.A.frames=some l→∀ env∈l,env.frame≠some C
theorem Rel.noFrame {σ:S} {ρ:List Addr} {s:Shared} {C:Addr} (rel:Rel K F σ ρ s) (h:s.heap.get? C=none):kb7 F C:=by
 intro l hl env he hf;refine yc rel.frs fun e l' a1 a2 a3=>?_
 rw [a1] at hl; (injection hl with c_1; subst c_1)
 refine jt (a3 env he) fun zZ L o es n f zZ g zZ=>?_;rw [f] at hf; cases hf;rw [h] at g; (injection g)
theorem Rel.butC {σ:S} {ρ:List Addr} {s s':Shared} {C:Addr} {m:Str→Option Value} (rel:Rel K F σ ρ s) (hb:K.base.get? C=none) (hm:C∉F.mine) (hρ:C∉ρ) (hn:s.heap.Ns C m) (hs:Heap.SameBut C s.heap s'.heap)
  (hg:s'.gens=s.gens) (ho:s'.os=s.os) (hC:kb7 F C):Rel K F σ ρ s' where
 toGRel:=rel.toGRel.mineBut hb hρ hs (fun b o e f=>jak hn e f) (fun c v n q=>wq n hn q.symm) hg ho
 vars:=fun y u e=>by
  refine ya (rel.vars y u e) fun w h1 h2=>?_;refine (ja w (h1.mono (fun m' n=>n.sameBut hs (fun q=>hm (q ▸ rel.mineLoc))) (fun c u zZ n=>n.sameBut hs (fun q=>wq n hn q.symm))) ?_);exact Rep.mono' (List.prefix_refl _) (fun b o e f=>(hs.2 b (jak hn e f)).trans e) h2
 loc:=by refine qb rel.loc fun m' n=>?_; exact ⟨m',n.sameBut hs (fun q=>hm (q ▸ rel.mineLoc))⟩
 cels:=fun y c e=>by refine qb (rel.cels y c e) fun v n=>?_; exact ⟨v,n.sameBut hs (fun q=>wq n hn q.symm)⟩
 mineAbove:=fun b hb'=>by
  refine xl (rel.mineAbove b hb') fun h1 o h2=>?_;exact (qh h1 o ((hs.2 b (fun q=>hm (q ▸ hb'))).trans h2))
 mineApart:=rel.mineApart
 mineLoc:=rel.mineLoc
 frs:=by
  refine yc rel.frs fun e l a1 a2 a3=>?_;refine (gk e l a1 a2 (a3.next fun b o es n hfr g d=>(gn o es n ((hs.2 b ?_).trans g) d)));intro q;refine ya hfr fun env he hf=>?_
  try clear hfr
  exact hC _ a1 env he (q ▸ hf)
theorem Ext.butC {mine ρ₀ ρ:List Addr} {h₀ h h':Heap} {C:Addr} (x:Ext mine ρ₀ ρ h₀ h) (h0:h₀.get? C=none) (hs:Heap.SameBut C h h'):Ext mine ρ₀ ρ h₀ h' where
 pre:=x.pre
 alive:=fun b o e=>by
  refine qb (x.alive b o e) fun o1 e1=>?_
  exact ⟨o1,(hs.2 b (by rintro rfl; rw [h0] at e; (injection e))).trans e1⟩
 new:=x.new
 keep:=fun b o e n1 n2=>by
  refine ya (x.keep b o e n1 n2) fun o1 e1 l1=>?_
  exact (ja o1 ((hs.2 b (by rintro rfl; rw [h0] at e; (injection e))).trans e1) l1)
 froz:=fun b o e f=>(hs.2 b (by rintro rfl; rw [h0] at e; (injection e))).trans (x.froz b o e f)
noncomputable def w7 (K:Glo) (F:Frm) (ce:Expr) (d:Nat) (m:Nat→(S→Nat→Option (Option V))→M Unit):Prop :=
 ∀ (l:Nat) (a:Addr) (I:Addr) (Src:Nat→Obj→Prop) (nxt:S→Nat→Option (Option V)) σ ρ ρ₀ s h₀ o,Iter K F I Src nxt ρ₀ h₀→Rel K F σ ρ s→ρ[l]?=some a→Ext F.mine ρ₀ ρ h₀ s.heap→h₀.get? I=none→K.base.get? I=none→
  I∉F.mine→I∉ρ→s.heap.get? I=some o→Src 0 o→m l nxt σ≠.stuck→
  codeAny (model K.prog K.w) F.A (.compStart ce d (.ref I) (.ref a) F.env) (fun r s'=>match r with
   | .ok _ => ∃ σ' ρ',m l nxt σ = .ok () σ'∧Rel K F σ' ρ' s'∧Ext F.mine ρ₀ ρ' h₀ s'.heap∧ρ'[l]?=some a
   | .error v=>EO K F (m l nxt σ) ρ₀ h₀ v s') s
noncomputable def yq (n:Nat) (t:V→M Unit) (c:M Bool) (mi:M Unit) (nxt:S→Nat→Option (Option V)):M Unit:=do
 let _ ← forG nxt t (jl c mi) n 0
 pure ()
theorem qcp {n:Nat} {t:V→M Unit} {c:M Bool} {mi:M Unit} {nxt:S→Nat→Option (Option V)} {σ:S} (h:yq n t c mi nxt σ≠.stuck):forG nxt t (jl c mi) n 0 σ≠.stuck:=by
 intro e; apply h; unfold yq; rw [M.bind_def,e]
theorem qv {ce target iter:Expr} {ifs:List Expr} {gens:List Comprehension} {d:Nat} {test:Option Expr} {inner:Value→Sem Unit} {t:V→M Unit} {c:M Bool} {mi:Nat→M Unit} (n:Nat)
  (hg:gens[d]?=some ⟨target,iter,ifs,0⟩)
  (hto:∀ acc,kan ce d F.env acc target test (inner acc)) (ht:SimT K F target t) (hc:gag K F test c) (hin:∀ l a,SimA K F l a (inner (.ref a)) (mi l)) (hce:CompE ce gens:=by first | exact qas | exact kbm) :
  w7 K F ce d (fun l nxt=>yq n t c (mi l) nxt):=by
 intro l a I Src nxt σ ρ ρ₀ s h₀ o hI rel hla x₀ h0 hb hm hρ ho hs hne;refine yad hg ?_ (fun Q E q=>hI.2.1 0 o s _ Q E ho hs q) hce;refine codeAny_mono (zbw hce (hto _) ht hc (hin l a) hI rel hla x₀ h0 hb hm hρ ho hs n (qcp hne)) fun r s' h=>?_
 cases r with
 | ok f=>
  refine ze h fun f' σ' ρ' e r1 r2 r4=>?_
  try clear h
  exact (zn σ' ρ' (by show yq n t c (mi l) nxt σ=_; unfold yq; rw [M.bind_def,e]; rfl) r1 r2 r4)
 | error v=>
  refine ze h fun e σ' ρ' e1 r1 r2 r3=>?_
  try clear h
  exact (zd e σ' ρ' (by show yq n t c (mi l) nxt σ=_; unfold yq; rw [M.bind_def,e1]) r1 r2 r3)
noncomputable def yl (l:Nat) (v:V):M Unit:=do
 let _ ← xag (.obj l) [v]
 pure ()
theorem xu (fk:FOk F) {elt:Expr} {me:M V} (he:SimE K F elt me) (l:Nat) (a:Addr) (hnh:F.nh=true:=by rfl):SimA K F l a (jce elt F.env (.ref a)) (do let v ← me; yl l v):=by
 intro σ ρ s rel hla;unfold jce;refine Run.bind (he σ ρ s rel) fun v σ₁ ρ₁ s₁ w zZ rel₁ x₁ rv=>?_;unfold yl;refine Run.bind (gb4 F fk hnh σ₁ ρ₁ s₁ (.obj l) (.ref a) [v] [w] rel₁ (Rep.obj_iff.mpr (ja a (getElem?_prefix x₁.pre hla) rfl)) (RepL.cons rv RepL.nil)) fun u σ₂ ρ₂ s₂ zZ zZ rel₂ x₂ zZ=>?_;exact Run.pure rel₂ trivial
end
section
variable {K:Glo} {F:Frm}
noncomputable def jo (free:List String) (lo:String→Option V):String→Option V:=fun x=>if x∈free then lo x else none
noncomputable def jc4 (K:Glo) (na:Sem Value) (c0:Cel):Prop:= ∀ (A:Around) (s:Shared) (Q:Value→Shared→Prop) (E:Value→Shared→Prop),
 (∀ o:Obj,o.isFreed=false→(∀ h ρ a,h.get? a=some o→qk K h ρ c0 a)→Q (.ref s.heap.objs.size) {s with heap:=s.heap.push o})→wpAny (model K.prog K.w) A na Q E s
theorem gbc:jc4 K (newList []) (.lst []):=fun A s Q E h=>wpAny_newList (h _ rfl fun h ρ a e=>(w8 (Nat.zero_le _) ([]) 0 e RepL.nil)) (by simp [sizeLine_eq])
noncomputable def xq (c0:Cel) (free:List String) (mc:Nat→(S→Nat→Option (Option V))→M Unit) (v:V):M V:=fun σ=>match jf v σ with
 | .ok _ _=>match mc σ.st.length (yf v) ⟨σ.st ++ [c0],jo free σ.lo⟩ with
  | .ok _ σ'=>.ok (.obj σ.st.length) ⟨σ'.st,σ.lo⟩
  | .exc _ _=>.stuck
  | .stuck=>.stuck
 | _=>.stuck
noncomputable abbrev zk (free:List String) (mc:Nat→(S→Nat→Option (Option V))→M Unit) (v:V):M V:=xq (.lst []) free mc v
theorem xbm {v:V} {σ:S} {u:Unit} {σ':S} (h:jf v σ = .ok u σ'):jf v σ = .ok () σ:=by
 cases v with
 | obj l=>
  refine qb (zax (show chkL (.obj l) σ = .ok u σ' from h)) fun us hc=>?_
  exact wan hc
 | tup vs=>rfl
 | rng a b' c=>
  unfold jf at h ⊢
  by_cases hsm:Builtin.Range.small a b' c=true
  ·simp only [hsm,if_true]
  ·simp only [hsm] at h; (injection h)
 | _=>(injection h)
structure CompOk (F:Frm) (scope:Scope) (cl:List (Str×Addr)) (free:List String):Prop where
 clos:closureFor scope F.env=pure cl
 kind:scope.kind = .function
 names:∀ x∈scope.names,x.2 = .local→scope.names.lookup x.1=some .local
 nocell:∀ x∈scope.names,x.2≠.cell
 free:∀ x∈free,((relabel scope F.env).names.lookup (Str.ofString x)=some .cell∨(relabel scope F.env).names.lookup (Str.ofString x)=some .free)∧F.env.kindOf (Str.ofString x)≠some .local∧
  ∀ c,F.env.cells.lookup (Str.ofString x)=some c→cl.lookup (Str.ofString x)=some c
 cells:∀ x c,cl.lookup x=some c→F.env.cells.lookup x=some c
theorem g6.comp {h:Heap} {scope:Scope} {cl:List (Str×Addr)} {C:Addr} (x:g6 K F h):g6 K (j0 F scope cl C) h:=x
theorem xb7 (fk:FOk F) {ce target iter:Expr} {ifs:List Expr} {gs:List Comprehension} {scope:Scope} {fpos:Pos} {cl:List (Str×Addr)} {free:List String} {mi:M V} {mc:Nat→(S→Nat→Option (Option V))→M Unit}
  {c0:Cel} {na:Sem Value} {use:Option (Value→Sem Unit)} {Q:Value→Shared→Prop} {E:Value→Shared→Prop} (hcl:clausesOf ce=⟨target,iter,ifs,0⟩ :: gs) (hna:jc4 K na c0) (hs:∀ x,foldedSetIterable iter F.env x=pure x) (ck:CompOk F scope cl free) (hi:SimE K F iter mi)
  (hc:∀ C,w7 K (j0 F scope cl C) ce 0 mc) {σ:S} {ρ:List Addr} {s:Shared} (rel:Rel K F σ ρ s) (hne:(mi >>= xq c0 free mc) σ≠.stuck) (hnh:F.nh=true)
  (hQ:∀ v σ' ρ' s' w C m,(mi >>= xq c0 free mc) σ = .ok v σ'→Rel K F σ' ρ' s'→Ext F.mine ρ ρ' s.heap s'.heap→Rep K s'.heap ρ' v w→s'.heap.Ns C m→C∉F.mine→C∉ρ'→K.base.get? C=none→s.heap.get? C=none→
   compPost (model K.prog K.w) F.A E use Q w C (.ok .next) s')
  (hE:∀ v s',EO K F ((mi >>= xq c0 free mc) σ) ρ s.heap v s'→E v s') :
  wpAny (model K.prog K.w) F.A (comprehension ce scope F.env fpos na false (eval iter F.env) use) Q E s:=by
 refine wpAny_comprehension_free (use:=use) hcl hs ck.clos ck.kind ck.names ?_
 refine wpAny_mono (Run.bindWp (P:=fun x s₁=>wpAny (model K.prog K.w) F.A (pyIter x) (fun it s₂=>wpAny (model K.prog K.w) F.A na (fun acc s₃=>
   wpAny (model K.prog K.w) F.A (newFunctionEnv scope F.env.globals cl [] F.env.qual none .none (some F.env)) (fun cenv s₄=>
    codeAny (model K.prog K.w) F.A (.compStart ce 0 it acc {cenv with scope:=relabel scope F.env}) (compPost (model K.prog K.w) F.A E use Q acc cenv.locals) s₄) E s₃) E s₂) E s₁)
  (hi σ ρ s rel) hne ?_) (fun zZ zZ q=>q) (fun v s' q=>hE v s' q)
 intro v σ₁ ρ₁ s₁ w e1 e2 rel₁ x₁ rv;rw [e2] at hne hQ hE
 cases hok:jf v σ₁ with
 | stuck=>exact absurd (by unfold xq; rw [hok]) hne
 | exc e y=>exact absurd (by unfold xq; rw [hok]) hne
 | ok u y=>
  have hok':=xbm hok
  have eT:xq c0 free mc v σ₁=(match mc σ₁.st.length (yf v) ⟨σ₁.st ++ [c0],jo free σ₁.lo⟩ with
   | .ok _ σ'=>.ok (.obj σ₁.st.length) ⟨σ'.st,σ₁.lo⟩
   | .exc _ _=>.stuck
   | .stuck=>.stuck):=by unfold xq; rw [hok]
  refine ym (qbm rel₁ rv hok') fun obj Src hsrc hfr hIt hpy=>?_;refine xj (j2 rel₁) fun f0 f1 f2 f3=>?_;refine hpy _ _ _ ?_;have rel₂:=rel₁.push obj s₁.toks;have x₂:Ext F.mine ρ₁ ρ₁ s₁.heap (s₁.heap.push obj):=Ext.push obj;refine hna _ _ _ _ fun oa hfa hca=>?_;have hkp:∀ b o',(s₁.heap.push obj).get? b=some o'→((s₁.heap.push obj).push oa).get? b=some o':=fun zZ zZ e=>Heap.get?_push_of_some _ e
  refine kd (rel₂.newAtC (c:=c0) (s':={s₁ with heap:=(s₁.heap.push obj).push oa}) hkp (Heap.get?_none_of_le (Nat.le_refl _)) (hca _ _ _ (Heap.get?_push_size _ hfa)) rfl rfl) fun rel₃ x₃=>?_
  refine wpAny_newFunctionEnv ck.nocell (by intro y hy; simp at hy) (fun h₄ hns hsb=>?_) ck.kind
  dsimp only at hns hsb rel₃ x₃ ⊢
  generalize hH:(s₁.heap.push obj).push oa=H at hns hsb rel₃ x₃ ⊢
  have hI:(s₁.heap.push obj).objs.size=s₁.heap.objs.size + 1:=Heap.size_push ..
  have hC:H.objs.size=s₁.heap.objs.size + 2:=by rw [← hH,Heap.size_push,hI]
  generalize hCd:H.objs.size=C at hns hsb hC ⊢
  have hkeep:∀ b o,H.get? b=some o→h₄.get? b=some o:=fun b o e=>(hsb.2 b (by rw [← hCd]; exact Nat.ne_of_lt (Heap.lt_size e))).trans (Heap.get?_push_of_some _ e)
  have fC:s₁.heap.get? C=none:=Heap.get?_none_of_le (by rw [hC]; exact nL39)
  have bC:K.base.get? C=none:=by
   cases e:K.base.get? C with
   | none=>rfl
   | some o=>have:=rel₁.base _ _ e; rw [fC] at this; (injection this)
  have rel₄:Rel K (j0 F scope cl C) ⟨σ₁.st ++ [c0],jo free σ₁.lo⟩ (ρ₁ ++ [(s₁.heap.push obj).objs.size]) {s₁ with heap:=h₄,toks:=s₁.toks + 0}:=by
   refine {toGRel:=rel₃.toGRel.kept hkeep rfl rfl,vars:=?_,loc:=⟨_,hns⟩,cels:=?_,mineAbove:=?_,mineApart:=?_,mineLoc:=List.mem_singleton.mpr rfl,frs:=(rel₃.frs.kept hkeep).comp}
   ·intro x v' e
    have hx:x∈free:=by
     by_cases h:x∈free
     ·exact h
     ·simp only [jo,if_neg h] at e; (injection e)
    simp only [jo,if_pos hx] at e;refine ya (rel₃.vars x v' e) fun w' h1 h2=>?_;refine (ja w' ?_ (Rep.mono' (List.prefix_refl _) (zl hkeep) h2));refine yt (ck.free x hx) fun q1 q2 q3=>?_
    rcases h1 with ⟨k1,_⟩ | ⟨k1,c,ec,n⟩
    ·exact absurd k1 q2
    ·exact .inr (jp q1 c (q3 c ec) (n.keeps hkeep))
   ·intro x c e;refine qb (rel₃.cels x c (ck.cells x c e)) fun v' n=>?_;exact ⟨v',n.keeps hkeep⟩
   ·intro a ha;have:a=C:=List.mem_singleton.mp ha;clear hsb;subst this;refine wm hns fun o zZ zZ e zZ=>?_
    try clear hns
    exact (qh bC o e)
   ·intro a ha hb;have:a=C:=List.mem_singleton.mp ha;clear hns hsb;subst this;refine ya (rel₃.toGRel.alive hb) fun o e zZ=>?_
    rw [Heap.get?_none_of_le (by rw [hCd]; exact Nat.le_refl _)] at e; (injection e)
  have x₄:Ext [C] ρ₁ (ρ₁ ++ [(s₁.heap.push obj).objs.size]) s₁.heap h₄:=by
   refine ⟨List.prefix_append _ _,fun b o e=>⟨o,hkeep b o (by rw [← hH]; exact Heap.get?_push_of_some _ (Heap.get?_push_of_some _ e))⟩,fun a ha=>?_,fun b o e zZ zZ=>(ja o (hkeep b o (by rw [← hH]; exact Heap.get?_push_of_some _ (Heap.get?_push_of_some _ e))) (.refl _)),
    fun b o e zZ=>hkeep b o (by rw [← hH]; exact Heap.get?_push_of_some _ (Heap.get?_push_of_some _ e))⟩
   rcases List.mem_append.mp ha with ha | ha
   ·exact .inl ha
   ·have:=List.mem_singleton.mp ha;clear ha;subst this
    exact .inr (Heap.get?_none_of_le (by rw [hI]; exact nL40))
  have hIC:s₁.heap.objs.size≠C:=by rw [hC]; exact nL41
  have hne':mc σ₁.st.length (yf v) ⟨σ₁.st ++ [c0],jo free σ₁.lo⟩≠.stuck:=fun e=>hne (by rw [eT,e])
  have main:=hc C σ₁.st.length (s₁.heap.push obj).objs.size s₁.heap.objs.size Src (yf v) ⟨σ₁.st ++ [c0],jo free σ₁.lo⟩ (ρ₁ ++ [(s₁.heap.push obj).objs.size]) ρ₁ {s₁ with heap:=h₄,toks:=s₁.toks + 0} s₁.heap obj
   (hIt _ (fk.comp ck.kind) hnh) rel₄ (by simp only [← rel₁.len,List.getElem?_concat_length]) x₄ f0 f1 (fun h=>hIC (List.mem_singleton.mp h))
   (fun h=>by
    rcases List.mem_append.mp h with h | h
    ·exact f3 h
    ·have:=List.mem_singleton.mp h; rw [hI] at this; exact absurd this (Nat.ne_of_lt (Nat.lt_succ_self _)))
   (hkeep _ _ (by rw [← hH]; exact Heap.get?_push_of_some _ (Heap.get?_push_size _ hfr))) hsrc hne'
  refine codeAny_mono main fun r s' h=>?_
  cases r with
  | error v'=>
   refine ze h fun x σ' ρ' em r1 r2 r3=>?_
   try clear h
   have hmo:mc σ₁.st.length (yf v) ⟨σ₁.st ++ [c0],jo free σ₁.lo⟩ = .exc x σ':=em;rw [hmo] at eT;exact absurd eT hne
  | ok f=>
   refine ym h fun σ' ρ' em r1 r2 r4=>?_
   try clear h
   rw [em] at eT
   have xn:Ext [] ρ₁ ρ' s₁.heap s'.heap:=⟨r2.pre,r2.alive,r2.new,fun b o e n1 zZ=>r2.keep b o e n1 (fun hm=>by have:=List.mem_singleton.mp hm; subst this; rw [fC] at e; (injection e)),r2.froz⟩
   have relF:=rel₁.called r1.toGRel xn fk;refine qb r1.loc fun m hm=>?_
   have hsC:s.heap.get? C=none:=by
    cases e:s.heap.get? C with
    | none=>rfl
    | some o=>obtain ⟨o',e'⟩:=x₁.alive _ _ e; rw [fC] at e'; (injection e')
   have hmC:C∉F.mine:=fun h=>by
    refine xl (rel₁.mineAbove _ h) fun zZ o e=>?_;rw [fC] at e; (injection e)
   have:=hQ (.obj σ₁.st.length) ⟨σ'.st,σ₁.lo⟩ ρ' s' (.ref (s₁.heap.push obj).objs.size) C m eT relF (x₁.trans (z0 xn)) (Rep.obj_iff.mpr (ja _ r4 rfl)) hm hmC (r1.mineApart C (List.mem_singleton.mpr rfl)) bC hsC
   cases use <;> exact this
theorem wae (fk:FOk F) {elt target iter:Expr} {ifs:List Expr} {gs:List Comprehension} {scope:Scope} {pos:Pos} {cl:List (Str×Addr)} {free:List String} {mi:M V} {mc:Nat→(S→Nat→Option (Option V))→M Unit}
  (ck:CompOk F scope cl free) (hi:SimE K F iter mi)
  (hc:∀ C,w7 K (j0 F scope cl C) (.ListComp elt (⟨target,iter,ifs,0⟩ :: gs) scope pos) 0 mc) (hs:∀ x,foldedSetIterable iter F.env x=pure x:=by intro _; rfl) (hnh:F.nh=true:=by rfl) :
  SimE K F (.ListComp elt (⟨target,iter,ifs,0⟩ :: gs) scope pos) (mi >>= zk free mc):=by
 intro σ ρ s rel;refine Run.of_wp fun hne=>?_;show wpAny _ _ (comprehension (.ListComp elt (⟨target,iter,ifs,0⟩ :: gs) scope pos) scope F.env _ (newList []) false (eval iter F.env) none) _ _ s;refine xb7 fk (use:=none) rfl gbc hs ck hi hc rel hne hnh ?_ fun zZ zZ q=>q;intro v σ' ρ' s' w C m e r1 x1 rv hm q1 q2 q3 q4;exact (ja m hm (fun h' hsb=>(zd v σ' ρ' e (r1.butC q3 q1 q2 hm hsb rfl rfl (rel.noFrame q4)) (x1.butC q4 hsb) (Rep.mono' (List.prefix_refl _) (fun b o e f=>(hsb.2 b (jak hm e f)).trans e) rv))))
theorem z5 (fk:FOk F) {elt target iter:Expr} {ifs:List Expr} {gs:List Comprehension} {scope:Scope} {pos spos tpos:Pos} {cl:List (Str×Addr)} {free:List String} {mi:M V} {mc:Nat→(S→Nat→Option (Option V))→M Unit} {x:String} {mt:V→M Unit}
  (ck:CompOk F scope cl free) (ht:SimT K F (.Name (Str.ofString x) tpos) mt) (hi:SimE K F iter mi)
  (hc:∀ C,w7 K (j0 F scope cl C) (.ListComp elt (⟨target,iter,ifs,0⟩ :: gs) scope pos) 0 mc)
  (hsw:swapsWith (.ListComp elt (⟨target,iter,ifs,0⟩ :: gs) scope pos) (some (.Name (Str.ofString x) tpos)) spos.line F.env=pure true:=by rfl)
  (hs:∀ x,foldedSetIterable iter F.env x=pure x:=by intro _; rfl) (hnh:F.nh=true:=by rfl) :
  SimS K F (.Assign [.Name (Str.ofString x) tpos] (.ListComp elt (⟨target,iter,ifs,0⟩ :: gs) scope pos) spos) (do let v ← mi >>= zk free mc; mt v; pure .next):=by
 intro σ ρ s rel;rw [exec_Assign_Name_used _ _ _ _ hsw];refine Run.standAt ?_;refine Run.of_wp fun hne=>?_
 have hne1:(mi >>= zk free mc) σ≠.stuck:=fun e=>hne (by rw [M.bind_def,e])
 refine wpAny_bind ?_
 show wpAny _ _ (do let _ ← comprehension (.ListComp elt (⟨target,iter,ifs,0⟩ :: gs) scope pos) scope F.env _ (newList []) false (eval iter F.env) (some (assign (.Name (Str.ofString x) tpos) F.env))) _ _ s
 refine wpAny_bind (wpAny_mono (xb7 fk (use:=some (assign (.Name (Str.ofString x) tpos) F.env)) (Q:=fun zZ s'=>QO K F (qs K) ((do let v ← mi >>= zk free mc; mt v; pure .next:M Fl) σ) ρ s.heap .next s') (E:=EO K F ((do let v ← mi >>= zk free mc; mt v; pure .next:M Fl) σ) ρ s.heap) rfl gbc hs ck hi hc rel hne1 hnh ?_ ?_)
  (fun zZ s' hq=>wpAny_pure (wpAny_pure hq)) fun zZ zZ e=>e)
 ·intro v σ' ρ' s' w C m e r1 x1 rv hm q1 q2 q3 q4
  have e2:(do let v ← mi >>= zk free mc; mt v; pure .next:M Fl) σ=(mt v >>= fun zZ=>(Pure.pure Fl.next:M Fl)) σ':=M.bind_ok e
  rw [e2] at hne ⊢;show wpAny _ _ (assign (.Name (Str.ofString x) tpos) F.env w) _ _ s'
  refine wpAny_mono (Run.bindWp (P:=fun zZ s'' => ∃ m,s''.heap.Ns C m∧∀ h',Heap.SameBut C s''.heap h'→QO K F (qs K) ((mt v >>= fun zZ=>(Pure.pure Fl.next:M Fl)) σ') ρ s.heap .next {s'' with heap:=h'}) (ht σ' ρ' s' v w r1 rv) hne ?_) (fun zZ zZ q=>q) (fun v s'' q=>q.up x1)
  intro u σ₂ ρ₂ s₂ _ e3 e4 rel₂ x₂ _;rw [e4];refine ze hm fun o es ep g d k f=>?_
  try clear hm
  refine ya (x₂.keep C o g q2 q1) fun o' g' l=>?_
  have hC':C∉ρ₂:=fun hin=>by
   rcases x₂.new C hin with h1 | h1
   ·exact q2 h1
   ·rw [g] at h1; (injection h1)
  have hm':s₂.heap.Ns C m:=⟨o',es,ep,g',l.data.1.trans d,k,f⟩;exact (ja m hm' (fun h' hsb=>(zd .next σ₂ ρ₂ rfl (rel₂.butC q3 q1 hC' hm' hsb rfl rfl (rel.noFrame q4)) ((x1.trans x₂).butC q4 hsb) rfl)))
 ·intro v s' q;refine ze q fun e σ' ρ' e1 r1 r2 r3=>?_
  try clear q
  exact (zd e σ' ρ' (by rw [M.bind_def,e1]) r1 r2 r3)
end
section
variable {K:Glo} {F:Frm}
noncomputable def gp:List V→M V
 | [.int n]=>pure (.rng 0 n 1)
 | [.int a,.int b]=>pure (.rng a b 1)
 | [.int a,.int b,.int c]=>if c≠0∧c.natAbs < 1000000 then pure (.rng a b c) else stuck
 | _=>stuck
noncomputable def zu:List V→M V
 | [.int n]=>pure (.rng 0 n 1)
 | _=>stuck
theorem kcp (n:Int):gp [.int n]=pure (.rng 0 n 1):=rfl
theorem ybw (a b:Int):gp [.int a,.int b]=pure (.rng a b 1):=rfl
theorem xcp (a b c:Int):gp [.int a,.int b,.int c]=if c≠0∧c.natAbs < 1000000 then pure (.rng a b c) else stuck:=rfl
theorem yu:wt K (.type "range") zu:=by
 intro F fk hnh σ ρ s vs ws rel r
 rcases (show zu vs σ = .stuck∨∃ n,vs=[.int n] by
  rcases vs with _ | ⟨v,_ | ⟨u,r⟩⟩
  ·exact .inl rfl
  ·cases v <;> first | exact .inl rfl | exact .inr ⟨_,rfl⟩
  ·cases v <;> exact .inl rfl) with h | ⟨n,rfl⟩
 ·rw [h]; exact Run.stuck
 refine yc (RepL.cons_iff.mp r) fun x r' o_102 r1 r2=>?_;obtain rfl:=o_102;obtain rfl:=RepL.nil_iff.mp r2;refine qb (Rep.int_iff.mp r1) fun t o_103=>?_;clear r1 r;obtain rfl:=o_103;exact Run.ok (call_range_1 ⟨ρ,rel.push _ _,Ext.push _,Rep.rng_iff.mpr (z6 _ _ _ _ rfl (IsRange.new ..))⟩)
theorem yr:wt K (.type "range") gp:=by
 intro F fk hnh σ ρ s vs ws rel r
 have fin:∀ (a b c:Int) (t u v:Tok) (tk:Nat),∃ ρ',Rel K F σ ρ' {s with heap:=s.heap.push {cls:= .type "range",data:= .fields #[.int a t,.int b u,.int c v]},toks:=tk}∧
   Ext F.mine ρ ρ' s.heap (s.heap.push {cls:= .type "range",data:= .fields #[.int a t,.int b u,.int c v]})∧
   Rep K (s.heap.push {cls:= .type "range",data:= .fields #[.int a t,.int b u,.int c v]}) ρ' (.rng a b c) (.ref s.heap.objs.size):=by
  intro a b c t u v tk;exact (gc ρ (rel.push _ tk) (Ext.push _) (Rep.rng_iff.mpr (z6 _ t u v rfl (IsRange.new _ a b c t u v))))
 rcases (show gp vs σ = .stuck∨(∃ n,vs=[.int n])∨(∃ a b,vs=[.int a,.int b])∨∃ a b c,vs=[.int a,.int b,.int c] by
  rcases vs with _ | ⟨v,vs⟩
  ·exact .inl rfl
  cases v with
  | int a=>
   rcases vs with _ | ⟨v,vs⟩
   ·exact .inr (.inl ⟨_,rfl⟩)
   cases v with
   | int b=>
    rcases vs with _ | ⟨v,_ | ⟨u,r⟩⟩
    ·exact .inr (.inr (.inl (yaw _ _ rfl)))
    ·cases v <;> first | exact .inl rfl | exact .inr (.inr (.inr (qa2 _ _ _ rfl)))
    ·cases v <;> exact .inl rfl
   | _=>exact .inl rfl
  | _=>exact .inl rfl) with h | ⟨n,rfl⟩ | ⟨a,b,rfl⟩ | ⟨a,b,c,rfl⟩
 ·rw [h]; exact Run.stuck
 ·refine yc (RepL.cons_iff.mp r) fun x r' o_104 r1 r2=>?_;obtain rfl:=o_104;obtain rfl:=RepL.nil_iff.mp r2;refine qb (Rep.int_iff.mp r1) fun t o_105=>?_;obtain rfl:=o_105;exact Run.ok (call_range_1 (fin ..))
 ·refine yc (RepL.cons_iff.mp r) fun x r' o_106 r1 r2=>?_;obtain rfl:=o_106;refine yc (RepL.cons_iff.mp r2) fun y r'' o_107 r3 r4=>?_;obtain rfl:=o_107;obtain rfl:=RepL.nil_iff.mp r4;refine qb (Rep.int_iff.mp r1) fun t o_108=>?_;obtain rfl:=o_108;refine qb (Rep.int_iff.mp r3) fun u o_109=>?_;obtain rfl:=o_109;exact Run.ok (call_range_2 (fin ..))
 ·simp only [xcp]
  by_cases hc:c≠0∧c.natAbs < 1000000
  ·rw [if_pos hc];refine yc (RepL.cons_iff.mp r) fun x r' o_110 r1 r2=>?_;obtain rfl:=o_110;refine yc (RepL.cons_iff.mp r2) fun y r'' o_111 r3 r4=>?_;obtain rfl:=o_111;refine yc (RepL.cons_iff.mp r4) fun z r''' o_112 r5 r6=>?_;obtain rfl:=o_112;obtain rfl:=RepL.nil_iff.mp r6;refine qb (Rep.int_iff.mp r1) fun t o_113=>?_;clear r1;obtain rfl:=o_113;refine qb (Rep.int_iff.mp r3) fun u o_114=>?_;clear r3;obtain rfl:=o_114;refine qb (Rep.int_iff.mp r5) fun v o_115=>?_;clear r5 r4 r2 r;obtain rfl:=o_115
   exact Run.ok (call_range_3 hc.1 (fin ..) (.inl (PyProof.noPylong_small (by lia))))
  ·rw [if_neg hc]; exact Run.stuck
noncomputable def y9 (a b c:Int):Bool:=Builtin.Range.rangeFitsLong a && Builtin.Range.rangeFitsLong b && Builtin.Range.rangeFitsLong c && Builtin.Range.rangeFitsLong (-c) && Builtin.Range.rangeFitsLong (a - c) && Builtin.Range.rangeFitsLong (Builtin.Range.rangeSize a b c)
theorem kas (r:Addr) (a b c:Int) (t u v:Tok) (hc0:¬(!(Builtin.Range.rangeFitsLong a && Builtin.Range.rangeFitsLong b && Builtin.Range.rangeFitsLong c && Builtin.Range.rangeFitsLong (-c) && Builtin.Range.rangeFitsLong (a - c) && Builtin.Range.rangeFitsLong (Builtin.Range.rangeSize a b c)))=true) :
  Meets (Builtin.«range.__reversed__» ⟨[.ref r],[]⟩) (fun zZ R s=>s.heap.get? r=some {cls:= .type "range",dict:=none,data:= .fields #[.int a t,.int b u,.int c v],slots:= #[]}∧
   R (.ok (.ret (Value.ref s.heap.objs.size))) {s with heap:=s.heap.push {cls:=Value.type (if (Builtin.Range.rangeFitsLong a && Builtin.Range.rangeFitsLong b && Builtin.Range.rangeFitsLong c && Builtin.Range.rangeFitsLong (-c) && Builtin.Range.rangeFitsLong (a - c) && Builtin.Range.rangeFitsLong (Builtin.Range.rangeSize a b c))=true then "range_iterator" else "longrange_iterator"),data:=Data.fields #[rawInt (a + (Builtin.Range.rangeSize a b c - 1) * c),rawInt (Builtin.Range.rangeSize a b c),rawInt (-c)]},toks:=s.toks}) :=
 .of_wp fun prog w A R s h=>by obtain ⟨hp,g,d,tk,os⟩:=s; refine kd h ?_; try clear h; intro hl h; wp_walk; exact (ja _ rfl h)
noncomputable def j9 (a b c:Int):Obj:={cls:= .type "range_iterator",data:= .fields #[rawInt (a + (Builtin.Range.rangeSize a b c - 1) * c),rawInt (Builtin.Range.rangeSize a b c),rawInt (-c)]}
theorem zbd:isSubtype (.type "range_iterator") (.type "reversed")=pure false:=by rw [isSubtype_type]; kernel_rfl
section
variable {prog:Program} {w:World} {A:Around} {E:Value→Shared→Prop} {s:Shared}
theorem xav {r:Addr} {a b c:Int} {t u v:Tok} {Q:Value→Shared→Prop} (hr:IsRange s.heap r a b c t u v) (hsm:y9 a b c=true)
  (h:Q (.ref s.heap.objs.size) {s with heap:=s.heap.push (j9 a b c)}):wpAny (model prog w) A (call (.builtin "range.__reversed__") [.ref r]) Q E s:=by
 have hT:s.TypeIs (.ref r) "range" :=⟨_,hr,rfl⟩
 unfold y9 at hsm
 refine call_meets F.slot_range_reversed hT F.entry_range_reversed (F.args_range_reversed_1 _) (kas r a b c t u v (by rw [hsm]; simp)) ⟨hr,?_⟩
 simp only [hsm,if_true];exact h
theorem gav {r:Addr} {a b c:Int} {t u v:Tok} {Q₁:Value→Shared→Prop} (hr:IsRange s.heap r a b c t u v) (hsm:y9 a b c=true)
  (h:Q₁ (.ref s.heap.objs.size) {s with heap:=s.heap.push (j9 a b c)}) :
  codeAny (model prog w) A (.call (.builtin "reversed.__new__") ⟨[.type "reversed",.ref r],[]⟩) (wants Q₁ E) s:=by
 have hT:s.TypeIs (.ref r) "range" :=⟨_,hr,rfl⟩
 refine codeAny_of_tree ?_
 show wpAny _ A.in1 (do checkBuiltinCall "reversed.__new__" ⟨[.type "reversed",.ref r],[]⟩; again (.builtin "reversed.__new__" ⟨[.type "reversed",.ref r],[]⟩)) _ _ s
 refine wpAny_bind (wpAny_of_eq (F.newCall_reversed_1 _) (wpAny_pure ⟨plainId_quiet F.plain_reversed_new _,codeAny_builtin F.entry_reversed_new ?_⟩));rw [Around.under_plainId F.plain_reversed_new _];unfold Builtin.«reversed.__new__»;refine wpAny_bind (wpAny_of_eq (newClass_reversed _) ?_)
 try dsimp only
 refine wpAny_bind (wpAny_of_eq (a:=()) (by first | rfl | kernel_rfl) ?_)
 refine wpAny_bind (wpAny_of_eq (a:=()) (by first | rfl | kernel_rfl) ?_)
 try dsimp only
 refine wpAny_bind (wpAny_specialOf hT F.slot_range_reversed.lookup ?_)
 try dsimp only
 refine wpAny_bind (wpAny_of_eq (F.slot_range_reversed.bind _) ?_)
 try dsimp only
 first
 | rw [if_neg (show ¬ ((Value.builtin "range.__reversed__" == Value.none)=true) from Bool.false_ne_true)]
 | (show wpAny _ _ (if (Value.builtin "range.__reversed__" == Value.none)=true then _ else _) _ _ _; rw [if_neg (show ¬ ((Value.builtin "range.__reversed__" == Value.none)=true) from Bool.false_ne_true)])
 refine wpAny_bind (wpAny_rule ?_)
 refine wpAny_bind (m:=runValue (.call (.builtin "range.__reversed__") ⟨[.ref r],[]⟩)) (show wpAny _ _ (call (.builtin "range.__reversed__") [.ref r]) _ _ _ from xav hr hsm ?_)
 first
 | exact wpAny_pure h
 | exact wpAny_bind (wpAny_pure (wpAny_pure h))
theorem zaw {r:Addr} {a b c:Int} {t u v:Tok} {Q:Value→Shared→Prop} (hr:IsRange s.heap r a b c t u v) (hsm:y9 a b c=true)
  (h:Q (.ref s.heap.objs.size) {s with heap:=s.heap.push (j9 a b c)}):wpAny (model prog w) A (call (.type "reversed") [.ref r]) Q E s:=by
 refine callType_other (U:= "range_iterator") (Q₁:=fun obj s₁=>obj = .ref s.heap.objs.size∧s₁={s with heap:=s.heap.push (j9 a b c)}) (by decide +kernel) F.create_reversed ⟨_,_,F.mro_reversed⟩ F.made_reversed zbd (F.typeCall_reversed_1 _) (gav hr hsm ⟨rfl,rfl⟩) ?_
 rintro obj s₁ ⟨rfl,rfl⟩
 exact ⟨⟨_,Heap.get?_push_size _ rfl,rfl⟩,h⟩
end
noncomputable def revR:V→M V
 | .rng 0 b 1=>if 0≤b∧b < 1000000 then pure (.rng (b - 1) (-1) (-1)) else stuck
 | _=>stuck
theorem kbh (q:Int):revR (.rng 0 q 1)=if 0≤q∧q < 1000000 then pure (.rng (q - 1) (-1) (-1)) else stuck:=rfl
theorem gcp {v:V} (h:¬ ∃ q,v = .rng 0 q 1):revR v=stuck:=by
 cases v with
 | rng a q c=>
  match a,c,h with
  | 0,1,h=>exact absurd ⟨q,rfl⟩ h
  | 0,0,_=>rfl
  | 0,(n + 2:Nat),_=>rfl
  | 0,Int.negSucc n,_=>rfl
  | (n + 1:Nat),_,_=>rfl
  | Int.negSucc n,_,_=>rfl
 | _=>rfl
theorem zm {i:Int} (h : -1000000≤i∧i≤1000000):Builtin.Range.rangeFitsLong i=true:=by
 unfold Builtin.Range.rangeFitsLong;simp only [Bool.and_eq_true,decide_eq_true_eq]
 lia
theorem kax {b:Int} (h:0≤b):Builtin.Range.rangeSize 0 b 1=b:=by
 rw [rangeSize_one]; split <;> (first | lia | omega)
theorem xan {b:Int} (h:0≤b):Builtin.Range.rangeSize (b - 1) (-1) (-1)=b:=by
 unfold Builtin.Range.rangeSize
 rw [if_neg (by exact xc2)]
 split
 ·simp
 ·lia
theorem jbw (fk:FOk F) {target arg:Expr} {body:List Stmt} {ma:M V} {t:V→M Unit} {b:M Fl} {np cpos:Pos} (pos:Pos) (n:Nat) (hx:F.env.kindOf (Str.ofString "reversed")=some .globalImplicit) (hm:K.mg (Str.ofString "reversed")=none)
  (ha:SimE K F arg ma) (ht:SimT K F target t) (hb:yj K F body b)
  (hpl:(starEach [arg] F.env).any (·.1)=false:=by rfl) (hst:starEach (arg :: []) F.env=(false,eval arg F.env) :: starEach [] F.env:=by rfl)
  (hs:∀ x,foldedSetIterable (.Call (.Name (Str.ofString "reversed") np) [arg] [] cpos) F.env x=pure x:=by intro _; rfl) (hnh:F.nh=true:=by rfl) :
  SimS K F (.For target (.Call (.Name (Str.ofString "reversed") np) [arg] [] cpos) body [] pos) (do let v ← ma; let r ← revR v; forG (yf r) t b n 0):=by
 intro σ ρ s rel;simp only [exec_For];refine Run.standAt ?_;refine Run.of_wp fun hne=>?_;refine wpAny_bind ?_;simp only [jq]
 refine wpAny_bind (yv fk rel hx hm (v:= .type "reversed") (by decide +kernel) ?_)
 refine gal rfl (by rw [kq]; exact hpl) ?_
 have hEs:yab K F [arg] (do let v ← ma; let vs ← (pure []:M (List V)); pure (v :: vs)):=qa ha jb hst
 have hEq:(do let v ← ma; let r ← revR v; forG (yf r) t b n 0:M Fl) σ=((do let v ← ma; let vs ← (pure []:M (List V)); pure (v :: vs)) >>= fun vs=>(match vs with | [v]=>(do let r ← revR v; forG (yf r) t b n 0:M Fl) | _=>stuck)) σ:=by
  simp only [M.bind_def]
  cases ma σ <;> rfl
 rw [hEq] at hne ⊢;refine Run.bindWp (hEs cpos σ ρ s rel) hne fun vs σ₁ ρ₁ s₁ ws e1 e2 rel₁ x₁ rv=>?_;rw [e2] at hne ⊢
 rcases vs with _ | ⟨v,_ | ⟨v2,vs⟩⟩
 ·exact absurd rfl hne
 ·refine yc (RepL.cons_iff.mp rv) fun w r' o_116 rv1 rv2=>?_;obtain rfl:=o_116;obtain rfl:=RepL.nil_iff.mp rv2;dsimp only at hne ⊢
  have hv:∃ q,v = .rng 0 q 1∧(0≤q∧q < 1000000):=by
   by_cases h:∃ q,v = .rng 0 q 1
   ·refine qb h fun q o_117=>?_
    try clear h
    clear e1 e2 rv;obtain rfl:=o_117
    by_cases h:0≤q∧q < 1000000
    ·exact (ja q rfl h)
    ·exact absurd (show (do let r ← revR (.rng 0 q 1); forG (yf r) t b n 0:M Fl) σ₁ = .stuck by rw [kbh,if_neg h]; rfl) hne
   ·exact absurd (show (do let r ← revR v; forG (yf r) t b n 0:M Fl) σ₁ = .stuck by rw [gcp h]; rfl) hne
  refine ya hv fun q o_118 hq=>?_
  try clear hv
  clear e1 e2;obtain rfl:=o_118
  have e3:(do let r ← revR (.rng 0 q 1); forG (yf r) t b n 0:M Fl) σ₁=forG (yf (.rng (q - 1) (-1) (-1))) t b n 0 σ₁:=by
   rw [M.bind_def]; rw [kbh,if_pos hq]; rfl
  rw [e3] at hne ⊢;refine ku (Rep.rng_iff.mp rv1) fun r t' u v' o_119 hR=>?_;clear rv1 rv;obtain rfl:=o_119
  have hsm:y9 0 q 1=true:=by
   unfold y9;simp only [Bool.and_eq_true];rw [kax hq.1]
   refine ⟨⟨⟨⟨⟨zm (by exact gc2),zm (by exact nL45 hq)⟩,zm (by lia)⟩,zm (by exact zc3)⟩,zm (by lia)⟩,zm (by exact nL45 hq)⟩
  show wpAny _ _ (PySem.call (.type "reversed") [.ref r]) _ _ s₁
  refine zaw hR hsm ?_;refine xj (j2 rel₁) fun f0 f1 f2 f3=>?_;rw [hs,w4];refine wpAny_bind (wpAny_standAt ?_)
  have hobj:j9 0 q 1={cls:= .type "range_iterator",dict:=none,data:= .fields #[rawInt (q - 1),rawInt q,rawInt (-1)],slots:= #[]}:=by
   unfold j9;rw [kax hq.1]
   have:(0:Int) + (q - 1) * 1=q - 1:=by lia
   rw [this]
  have hget:(s₁.heap.push (j9 0 q 1)).get? s₁.heap.objs.size=some {cls:= .type "range_iterator",dict:=none,data:= .fields #[rawInt (q - 1),rawInt q,rawInt (-1)],slots:= #[]}:=by
   rw [Heap.get?_push_size _ rfl,hobj]
  refine wpAny_bind (wpAny_holding (wpAny_pyIter_rangeiter hget ?_))
  have hlen:((qj (q - 1) (-1) (-1):Nat):Int)=q:=by rw [qy,xan hq.1]
  refine wpAny_mono (jab ht hb (was (a:=q - 1) (b:= -1) (c:= -1) fk hnh) (rel₁.push _ s₁.toks) (Ext.push _) f0 f1 f2 f3 hget ⟨Nat.zero_le _,?_⟩ n hne) (fun zZ zZ q=>q.up x₁) fun zZ zZ q=>q.up x₁;rw [hlen]; simp
 ·exact absurd rfl hne
end
section
variable {K:Glo} {F:Frm}
theorem Rel.newAt {σ:S} {ρ:List Addr} {s s':Shared} {vs:List V} {ws:List Value} {a:Addr} {n:Nat} (rel:Rel K F σ ρ s) (hk:∀ b o,s.heap.get? b=some o→s'.heap.get? b=some o) (h0:s.heap.get? a=none)
  (hL:IsL s'.heap a ws.toArray n) (hr:RepL K s.heap ρ vs ws) (hln:vs.length≤1000000) (hg:s'.gens=s.gens) (ho:s'.os=s.os) :
  Rel K F {σ with st:=σ.st ++ [.lst vs]} (ρ ++ [a]) s'∧Ext F.mine ρ (ρ ++ [a]) s.heap s'.heap :=
 rel.newAtC hk h0 ⟨hln,ws,n,hL,RepL.mono' (List.prefix_refl _) (zl hk) hr⟩ hg ho
noncomputable def y3:List V→Option (List Int)
 | []=>some []
 | .int i :: vs=>(y3 vs).map (i :: ·)
 | _ :: _=>none
theorem qaf {h:Heap} {ρ:List Addr}:∀ {vs:List V} {ws:List Value} {ns:List Int},RepL K h ρ vs ws→y3 vs=some ns→IntsAre ws ns
 | [],ws,ns,r,e=>by rw [RepL.nil_iff.mp r]; (injection e with c_1; subst c_1); exact .nil
 | .int i :: vs,ws,ns,r,e=>by
  refine yc (RepL.cons_iff.mp r) fun x r' o_120 r1 r2=>?_;obtain rfl:=o_120;refine qb (Rep.int_iff.mp r1) fun t o_121=>?_;clear r1 r;obtain rfl:=o_121;unfold y3 at e
  cases h':y3 vs with
  | none=>rw [h'] at e; (injection e)
  | some ns'=>rw [h'] at e; (injection e with c_1; subst c_1); exact .cons i t (qaf r2 h')
 | .none :: _,_,_,_,e=>by (injection e)
 | .bool _ :: _,_,_,_,e=>by (injection e)
 | .str _ :: _,_,_,_,e=>by (injection e)
 | .tup _ :: _,_,_,_,e=>by (injection e)
 | .obj _ :: _,_,_,_,e=>by (injection e)
 | .fn _ :: _,_,_,_,e=>by (injection e)
 | .rng _ _ _ :: _,_,_,_,e=>by (injection e)
theorem w9 {h:Heap} {ρ:List Addr}:∀ {ws:List Value} {ns:List Int},IntsAre ws ns→RepL K h ρ (ns.map .int) ws
 | _,_,.nil=>RepL.nil
 | _,_,.cons n t r=>RepL.cons (Rep.int n t) (w9 r)
noncomputable def w0 (ns:List Int):List Int:=ns.mergeSort (fun a b=>decide (a≤b))
theorem kaf (ns:List Int):(w0 ns).Perm ns:=List.mergeSort_perm _ _
theorem xax (ns:List Int):(w0 ns).Pairwise (·≤·):=by
 have:=List.pairwise_mergeSort (le:=fun a b:Int=>decide (a≤b)) (by intro a b c h1 h2; simp at *; exact nL47 h1 h2) (by intro a b; simp; lia) ns
 exact this.imp fun h=>by simpa using h
theorem zcq {a b:List Int} (p:a.Perm b) (h:a.Pairwise (·≤·)):a=w0 b:=lks_uniq (p.trans (kaf b).symm) h (xax b)
noncomputable def zah:List V→M V
 | [.obj l]=>fun σ=>match σ.st[l]? with
  | some (.lst vs)=>match y3 vs with
   | some ns=>if vs.length < 64 then .ok (.obj σ.st.length) {σ with st:=σ.st ++ [.lst ((w0 ns).map .int)]} else .stuck
   | none=>.stuck
  | _=>.stuck
 | _=>stuck
theorem wbw:wt K (.builtin "sorted") zah:=by
 intro F fk hnh σ ρ s vs ws rel r;unfold zah
 split
 ·rename_i l;refine yc (RepL.cons_iff.mp r) fun x r' o_122 r1 r2=>?_;obtain rfl:=o_122;obtain rfl:=RepL.nil_iff.mp r2
  cases hl:σ.st[l]? with
  | none=>exact Run.stuck
  | some c=>
   cases c with
   | set _=>exact Run.stuck
   | itr _ _ _=>exact Run.stuck
   | opq=>exact Run.stuck
   | tab=>exact Run.stuck
   | clo _ _=>exact Run.stuck
   | lst us=>
    dsimp only
    cases hi:y3 us with
    | none=>exact Run.stuck
    | some ns=>
     dsimp only
     by_cases h64:us.length < 64
     ·rw [if_pos h64];refine zh (rel.list r1 hl) fun a xs n o_123 hρ hL hr hn=>?_;obtain rfl:=o_123
      refine Run.ok (sorted_ints hL.isList (qaf hr hi) (by rw [hr.length]; exact h64) fun out ns' a1 a2 a3=>?_)
      have e1:ns'=w0 ns:=zcq a2 a3;subst e1
      have hsz:((s.heap.push (seqObj "list" #[] 0)).update s.heap.objs.size (Obj.mapSeq (· ++ xs.toArray))).objs.size=s.heap.objs.size + 1:=by
       rw [Heap.size_update,size_push']
      have hoL:(((s.heap.push (seqObj "list" #[] 0)).update s.heap.objs.size (Obj.mapSeq (· ++ xs.toArray))).push (seqObj "list" xs.toArray 0)).get? (s.heap.objs.size + 1)=some (seqObj "list" xs.toArray 0):=by
       rw [← hsz]; exact Heap.get?_push_size _ rfl
      have hkeep:∀ b o,s.heap.get? b=some o→(sortedAll s.heap xs out).get? b=some o:=by
       intro b o e;have hlt:b < s.heap.objs.size:=Heap.lt_size e;have hne1:b≠s.heap.objs.size:=Nat.ne_of_lt hlt;have hne2:b≠s.heap.objs.size + 1:=Nat.ne_of_lt (Nat.lt_succ_of_lt hlt);unfold sortedAll sortedHeap;rw [Heap.get?_update_ne _ _ _ _ hne2];refine Heap.get?_push_of_some _ (Heap.get?_push_of_some _ ?_);rw [Heap.get?_update_ne _ _ _ _ hne2];refine Heap.get?_push_of_some _ ?_;rw [Heap.get?_update_ne _ _ _ _ hne1];exact Heap.get?_push_of_some _ e
      have hout:∃ m,IsL (sortedAll s.heap xs out) (s.heap.objs.size + 1) out m:=by
       unfold sortedAll sortedHeap;have h1:=get?_update_seq hoL (fun _=>(#[]:Array Value))
       exact ⟨_,get?_update_seq (Heap.get?_push_of_some (seqObj "list" #[] 0) (Heap.get?_push_of_some (seqObj "tuple" xs.toArray 0) h1)) (fun _=>out)⟩
      refine qb hout fun m hm=>?_
      try clear hout
      have hlen:((w0 ns).map V.int).length≤1000000:=by
       have:=(w9 (K:=K) (h:=s.heap) (ρ:=ρ) a1).length;have h2:=(kaf ns).length_eq;have h3:=(w9 (K:=K) (h:=s.heap) (ρ:=ρ) (qaf hr hi)).length;rw [List.length_map] at h3 ⊢;rw [h2,← h3,hr.length]; exact hn
      refine kd (rel.newAt (s':={s with heap:=sortedAll s.heap xs out}) (ws:=out.toList) (vs:=(w0 ns).map .int) hkeep (Heap.get?_none_of_le (Nat.le_succ _)) (n:=m) (by simpa using hm) (w9 a1) hlen rfl rfl) fun rel' x'=>?_
      exact (gc _ rel' x' (Rep.obj_iff.mpr (ja _ (by rw [← rel.len,List.getElem?_concat_length]) rfl)))
     ·rw [if_neg h64]; exact Run.stuck
 ·exact Run.stuck
end
section
variable {K:Glo} {F:Frm}
noncomputable def xaf (p:Program) (i:Nat):DefRec:=match p.main.body[i]? with
 | some (.FunctionDef name a b _ _ _ sc _ _ pos)=>⟨name,a,b,sc,pos⟩
 | _=>⟨Str.ofString "",{posonlyargs:=[],args:=[],vararg:=none,kwonlyargs:=[],kw_defaults:=[],kwarg:=none,defaults:=[]},[],{kind:= .function,names:=[],isGenerator:=false,isCoroutine:=false},⟨0,0,0,0⟩⟩
noncomputable def frm (d:DefRec) (pm code doc:Value) (L fa:Addr) (A:Around):Frm:=xah (PySem.Calls.docDef d.name d.params d.body d.scope pm code doc) L fa A
theorem FOk.def {d:DefRec} {pm code doc:Value} {L fa:Addr} {A:Around} {n:Nat} (hr:Room A n) (hk:d.scope.kind = .function):FOk (frm d pm code doc L fa A) :=
 ⟨hk,rfl,rfl,fun zZ=>hr.1,by have:=hr.2.2; show A.units + 1000 < cLine; exact nL50 this⟩
noncomputable def HasF (K:Glo) (x:String) (lvl:Nat) (g:Fun):Prop:= ∃ fa fd body,K.mg (Str.ofString x)=some (.ref fa)∧DefAt K fa fd body∧SimF K lvl (.ref fa) g
theorem lenS {l:List Value} {n:Nat} (h:l.length=n + 1):∃ a t,l=a :: t∧t.length=n:=by
 cases l with
 | nil=>(injection h)
 | cons a t=>exact (yh a t rfl (Nat.succ.inj h))
theorem len1 {l:List Value} (h:l.length=1):∃ a,l=[a]:=by
 refine jm (lenS h) fun a t o_124 h2=>?_;clear h;obtain rfl:=o_124
 exact ⟨a,by rw [List.eq_nil_of_length_eq_zero h2]⟩
theorem len2 {l:List Value} (h:l.length=2):∃ a b,l=[a,b]:=by
 refine jm (lenS h) fun a t o_125 h2=>?_;obtain rfl:=o_125;refine qb (len1 h2) fun b o_126=>?_;clear h2 h;obtain rfl:=o_126;exact (yaw a b rfl)
theorem len3 {l:List Value} (h:l.length=3):∃ a b c,l=[a,b,c]:=by
 refine jm (lenS h) fun a t o_127 h2=>?_;obtain rfl:=o_127;refine qah (len2 h2) fun b c o_128=>?_;clear h2 h;obtain rfl:=o_128;exact (qa2 a b c rfl)
theorem q9 {d:DefRec} {x:String} {params:List String} {lvl:Nat} {mb:M Fl} (hd:d∈recsOf K.p) (hx:d.name=Str.ofString x) (hsc:d.scope.kind = .function) (hco:d.scope.isCoroutine=false) (hgen:d.scope.isGenerator=false) (hnd:params.Nodup)
  (hbind:∀ (pm code doc:Value) (ws:List Value),ws.length=params.length→bindArgs (PySem.Calls.docDef d.name d.params d.body d.scope pm code doc) ⟨ws,[]⟩=pure ((params.map Str.ofString).zip ws))
  (hkind:∀ n,∀ y∈params,d.scope.names.lookup (Str.ofString y)=some .local∨(d.scope.names.lookup (Str.ofString y)=some .cell∧((cellsFrom n d.scope.names []).lookup (Str.ofString y)).isSome=true))
  (hb:∀ pm code doc L fa A,Room A lvl→FOk (frm d pm code doc L fa A)→yj K (frm d pm code doc L fa A) d.body mb):HasF K x (lvl + 1) (funM params mb):=by
 refine wrap fun G_ hG_=>?_;obtain ⟨a,o,pm,code,doc,h1,h2,h3,h4,_⟩:=K.top.fn d hd;refine hG_ ?_;clear hG_ G_;have da:DefAt K a (PySem.Calls.docDef d.name d.params d.body d.scope pm code doc) d.body:=⟨⟨o,h2,h3⟩,h4,rfl,rfl,rfl,rfl,hco,hgen,hsc⟩
 refine (x5 a _ d.body (by rw [← hx]; exact h1) da ?_)
 exact gbu da hnd (hbind pm code doc) hkind fun L A hr=>hb pm code doc L a A hr (FOk.def hr hsc)
theorem km (fk:FOk F) {x:String} {np pos:Pos} {args:List Expr} {ms:M (List V)} {g:Fun} {lvl:Nat} (hf:HasF K x lvl g) (hr:Room F.A lvl)
  (hs:yab K F args ms) (hx:F.env.kindOf (Str.ofString x)=some .globalImplicit:=by kernel_rfl)
  (hpl:(starEach args F.env).any (·.1)=false:=by rfl) (hdb:(Str.ofString x == ("__debug__" : Str))=false:=by decide) :
  SimE K F (.Call (.Name (Str.ofString x) np) args [] pos) (do let vs ← ms; xh g vs):=by
 refine yk hf fun fa fd body h1 h2 h3=>?_
 try clear hf
 exact zbv fk hx h1 h2 h3 hr hs hpl hdb
theorem ybd {d:DefRec} {pm code doc:Value} {L fa:Addr} {A:Around} (x:String) (pos:Pos) (fk:FOk (frm d pm code doc L fa A)) {c:Addr} (hk:d.scope.names.lookup (Str.ofString x)=some .cell)
  (hc:(cellsFrom (L + 1) d.scope.names []).lookup (Str.ofString x)=some c):SimT K (frm d pm code doc L fa A) (.Name (Str.ofString x) pos) (fun v=>setc x v) :=
 qch x pos fk hk hc (List.mem_cons_of_mem _ (xbu hc)) (ycp hc)
end
section
variable {K:Glo} {F:Frm}
theorem gax {P:Params} {h:Heap}:∀ {vs:List Value} {ns:List Int},WellAll P h vs (ofPys (ns.map PyData.int))→IntsAre vs ns
 | _,[],x=>by cases x; exact .nil
 | _,n :: ns,x=>by
  cases x with
  | cons x1 x2=>cases x1; exact .cons n _ (gax x2)
theorem well_script {P:Params} {h:Heap} {a:Addr} {ns:List Int} (x:Well P h (.ref a) (ofPy (PyData.list (ns.map PyData.int)))):∃ vs,IsL h a vs.toArray 0∧IntsAre vs ns:=by
 cases x with
 | list e r=>exact (ja _ e (gax r))
theorem zb5 {n:Nat} (h:n≤600):Room callerA n:=by
 refine ⟨rfl,?_,?_⟩
 ·have h1:callerA.depth=301:=by decide +kernel
  have h2:recursionLimit=1000:=by decide +kernel
  exact nL51 h1 h h2
 ·have h1:callerA.units=4:=rfl
  have h2:cLine=9900:=by decide +kernel
  exact nL52 h1 h h2
theorem xy {h:Heap} {P:Addr} (hP:h.get? P=some (tabObj #[])) {b:Addr} {o:Obj} (e:h.get? b=some o) (hn:o.cls≠.none∨o.data≠.fields #[]):(hideAll h [P]).get? b=some o:=by
 refine hideAll_get _ e fun q=>?_;rw [List.mem_singleton.mp q,hP] at e
 (injection e with c_1; subst c_1)
 exact hn.elim (fun q=>q rfl) fun q=>q rfl
theorem xbh {h:Heap} {P a:Addr} {m:Str→Option Value} (hP:h.get? P=some (tabObj #[])) (n:h.Ns a m):(hideAll h [P]).Ns a m:=by
 refine yk n fun o es ep e d r=>?_
 try clear n
 exact (x5 o es ep (xy hP e (.inr (by rw [d]; exact fun q=>by (injection q)))) d r)
theorem gbm {h:Heap} {P:Addr} {cd:Value} {q:Str} (hP:h.get? P=some (tabObj #[])) (n:h.CodeRec cd q):(hideAll h [P]).CodeRec cd q:=by
 refine ql n fun c o vs t e1 e d r=>?_
 try clear n
 refine (zp c o vs t e1 (xy hP e (.inr fun q=>?_)) d r)
 rw [d] at q; (injection q with c_1; subst c_1); simp at r
theorem ycq {p:Program} {loose:List Str} {mean:ExcName→Option Value} {mg mb:Str→Option Value} {h:Heap} (T:Top p loose mean mg mb h) (D:TopD p mg h) {d₀:DefRec} (h₀:d₀∈recsOf p) :
  ∃ P c,h.get? P=some (tabObj #[])∧h.TableAt c P #[]∧TopM p mg mb d₀.name P (hideAll h [P]):=by
 refine wrap fun G_ hG_=>?_;obtain ⟨a,o,fd,c,P,h1,h2,h3,h4,h5,h6⟩:=T.tab d₀ h₀;refine hG_ ?_;clear hG_ G_;have hP:=h6.2;refine ⟨P,c,hP,h6,xbh hP T.g,xbh hP T.b,?_,?_,?_,T.builtins,?_⟩
 ·refine ya T.nolimit fun mc n e=>?_;exact (ja mc (xbh hP n) e)
 ·intro d hd;refine wrap fun G_ hG_=>?_;obtain ⟨a',o',pm,code,doc,k1,k2,k3,k4⟩:=T.fn d hd;refine hG_ ?_;clear hG_ G_
  refine ⟨a',o',pm,code,doc,k1,xy hP k2 (.inr (by rw [k3]; exact fun q=>by (injection q))),k3,gbm hP k4,fun hn=>?_⟩
  rw [hn,h1] at k1
  (injection k1 with c_1; injection c_1 with c_1; subst c_1)
  rw [h2] at k2; (injection k2 with c_1; subst c_1)
  rw [h3] at k3;have e:fd=Calls.docDef d.name d.params d.body d.scope pm code doc:=Data.func.inj k3;clear h3;subst e;refine (ja c h4 ?_);refine wrap fun G_ hG_=>?_;obtain ⟨oc,vs,file,tf,flags,tg,inF,text,tt,g1,g2,g3,r⟩:=CodeHd.of h5 h6;refine hG_ ?_;clear hG_ G_
  exact ⟨oc,vs,file,tf,flags,tg,inF,text,tt,xy hP g1 (.inl (by rw [g2]; decide)),g2,g3,r⟩
 ·intro d hd;refine wrap fun G_ hG_=>?_;obtain ⟨a',o',pm,code,doc,dV,k1,k2,k3,k4,k5⟩:=D d hd;refine hG_ ?_;clear hG_ G_
  refine ⟨a',o',pm,code,doc,dV,k1,xy hP k2 (.inr (by rw [k3]; exact fun q=>by (injection q))),k3,gbm hP k4,?_⟩
  rcases k5 with k5 | ⟨q1,t,ot,vs,n,ds,q2,q3,q4,q5,q6⟩
  ·exact .inl k5
  ·exact .inr ⟨q1,t,ot,vs,n,ds,q2,q3,xy hP q4 (.inl (by rw [q5]; decide)),q5,q6⟩
 ·refine wrap fun G_ hG_=>?_;obtain ⟨bm,ob,b1,b2,b3,b4,r⟩:=T.bmain;refine hG_ ?_;clear hG_ G_
  exact ⟨bm,ob,b1,b2,xy hP b3 (.inl (by rw [b4]; decide)),b4,r⟩
theorem top_law {prog:Program} {w:World} {p:Program} {loose:List Str} {mean mean':ExcName→Option Value} {mg mb:Str→Option Value} {s₁:Shared} {fa l:Addr} {c:ClaimW} {cl:Str→Option Addr} {args:List WData} {lamQ:Str} {lams:Nat→LamRec}
  (T:Top p loose mean mg mb s₁.heap) (D:TopD p mg s₁.heap) {d₀:DefRec} (h₀:d₀∈recsOf p) (hg:s₁.gens = #[]) {g:Fun} {lvl:Nat} {ws:List Value} {ns:List Int}
  (hf:∀ K:Glo,K.p=p→K.mg=mg→K.lamIn=d₀.name→K.lamQ=lamQ→K.lams=lams→HasF K "law" lvl g) (hl:lvl≤600) (hmg:mg (Str.ofString "law")=some (.ref fa))
  (hL:IsL s₁.heap l ws.toArray 0) (hI:IntsAre ws ns) (hn:ns.length≤63) {st':gb} (hlaw:g [.obj 0] [.lst (ns.map .int),.tab] = .ok (.bool true) st') (htab:st'[1]?=some .tab)
  (hraise:∀ cls,c.raises args cls=false) (hpost:c.post args (.bool true) args=true) :
  codeAny (model prog w) callerA (.call (.ref fa) ⟨[.ref l],[]⟩) (GoodWG c cl mean' args s₁) s₁:=by
 refine yc (ycq T D h₀) fun P cP hP hT TM=>?_;have hf:=hf ⟨prog,w,p,mg,mb,hideAll s₁.heap [P],s₁.os,d₀.name,lamQ,P,lams,[],TM⟩ rfl rfl rfl rfl rfl;refine yk hf fun fa' fd body h1 h2 h3=>?_
 try clear hf
 have e:fa'=fa:=by
  have h1':mg (Str.ofString "law")=some (.ref fa'):=h1
  rw [hmg] at h1'; (injection h1' with c_1; injection c_1 with c_1; subst c_1); rfl
 clear hmg;subst e
 generalize hK:(⟨prog,w,p,mg,mb,hideAll s₁.heap [P],s₁.os,d₀.name,lamQ,P,lams,[],TM⟩ : Glo)=K at h2 h3
 have kb:K.base=hideAll s₁.heap [P]:=by rw [← hK]
 have ko:K.os=s₁.os:=by rw [← hK]
 have kt:K.tabP=P:=by rw [← hK]
 have kn:K.own=[]:=by rw [← hK]
 have kp:K.prog=prog:=by rw [← hK]
 have kw:K.w=w:=by rw [← hK]
 clear hK;subst kp kw
 have hlen:ws.length=ns.length:=by
  have:=(w9 (K:=K) (h:=s₁.heap) (ρ:=[]) hI).length
  simpa using this
 have hlP:l≠P:=fun q=>by
  have e:s₁.heap.get? l=_:=hL;rw [q,hP] at e; (exfalso; exact nomatch e)
 have gr:GRel K [.lst (ns.map .int),.tab] [l,P] s₁:=by
  refine ⟨hg,ko.symm,fun zZ zZ e=>of_hideAll [P] (by rw [← kb]; exact e),rfl,?_,by simp [hlP],?_,fun a ha=>by rw [kn] at ha; (exfalso; exact nomatch ha)⟩
  ·intro k a c' h4 h5
   match k with
   | 0=>
    simp only [List.getElem?_cons_zero,Option.some.injEq] at h4 h5;subst h4 h5
    exact (w8 (by simp; exact nL53 hn) ws 0 hL (w9 hI))
   | 1=>
    simp only [List.getElem?_cons_succ,List.getElem?_cons_zero,Option.some.injEq] at h4 h5;subst h4 h5
    exact (zy kt.symm (#[]) hP trivial (fun pos cv e=>by (injection e)))
   | k + 2=>simp at h4
  ·intro k a h4 h5
   match k with
   | 0=>exact absurd rfl h5
   | 1=>
    simp only [List.getElem?_cons_succ,List.getElem?_cons_zero,Option.some.injEq] at h4;subst h4;rw [kb]
    exact hideAll_none _ (by simp)
   | k + 2=>simp at h4
 have main:=h3 callerA (zb5 hl) _ [l,P] s₁ gr ⟨[],rfl,fun zZ h=>by (exfalso; exact nomatch h)⟩ _ [.obj 0] [.ref l] rfl (RepL.cons (Rep.obj_iff.mpr (ja l rfl rfl)) RepL.nil) (by rw [hlaw]; simp)
 refine codeAny_mono main fun r s' h=>?_
 rcases h with ⟨v,st1,w1,ρ',e1,rfl,g1,x1,r1⟩ | ⟨e0,st1,w1,ρ',e1,_⟩
 ·rw [hlaw] at e1
  (injection e1 with c_1 c_2; subst c_1 c_2)
  rw [Rep.bool_iff.mp r1];have hPρ:ρ'[1]?=some P:=getElem?_prefix x1.pre rfl;refine ya (g1.alive (List.mem_of_getElem? hPρ)) fun oP eP cP'=>?_;refine ⟨.inl ⟨_,.bool true,[],rfl,hraise,.bool true,hpost,unshared_nil⟩,⟨fun b o e=>?_,fun b o e=>?_⟩,g1.os.trans ko,.of_eq g1.gens⟩
  ·by_cases hb:b=P
   ·clear kt h1 hlP gr main x1;subst hb
    rw [hP] at e; (injection e with c_1; subst c_1)
    refine ybh (g1.cell 1 b _ hPρ htab) fun zZ psf ef zZ=>?_
    exact .inr (.inl ⟨hT.isCodeTable,rfl,#[],psf,rfl,by rw [ef]; simp⟩)
   ·exact .inl (g1.base b o (by rw [kb]; exact hideAll_get _ e (by simpa using hb)))
  ·by_cases hb:b=P
   ·clear hP hT kt h1 hlP gr main x1 hPρ;subst hb; exact ⟨_,eP⟩
   ·exact ⟨o,g1.base b o (by rw [kb]; exact hideAll_get _ e (by simpa using hb))⟩
 ·rw [hlaw] at e1; (injection e1)
end
section
variable {K:Glo} {F:Frm}
noncomputable def jai:List String→List V→M Unit
 | x :: xs,v :: vs=>do setv x v; jai xs vs
 | _,_=>pure ()
noncomputable def ja3 (names:List String):V→M Unit
 | .tup vs=>if vs.length=names.length then jai names.reverse vs.reverse else stuck
 | _=>stuck
theorem jbd (fk:FOk F):∀ (names:List String) (vs:List V) (ws:List Value) (σ:S) (ρ:List Addr) (s:Shared),Rel K F σ ρ s→RepL K s.heap ρ vs ws→vs.length=names.length→(∀ x∈names,F.env.kindOf (Str.ofString x)=some .local)→
  Run K F (assignInOrder (names.map fun n=>bindName F.env (Str.ofString n)) ws) URep (jai names vs σ) ρ s
 | [],vs,ws,σ,ρ,s,rel,r,hl,_=>by
  cases vs with
  | nil=>rw [RepL.nil_iff.mp r]; exact Run.pure rel trivial
  | cons v vs=>simp at hl
 | x :: xs,vs,ws,σ,ρ,s,rel,r,hl,hk=>by
  cases vs with
  | nil=>simp at hl
  | cons v vs=>
   refine yc (RepL.cons_iff.mp r) fun w ws' o_133 r1 r2=>?_;clear r;obtain rfl:=o_133
   show Run K F (do holding ws' (bindName F.env (Str.ofString x) w); assignInOrder (xs.map fun n=>bindName F.env (Str.ofString n)) ws') URep ((do setv x v; jai xs vs:M Unit) σ) ρ s
   have h1:Run K F (bindName F.env (Str.ofString x) w) URep (setv x v σ) ρ s:=by
    have hkx:=hk x List.mem_cons_self;refine Run.ok (wpAny_bindName ?_);refine qb rel.loc fun m hm=>?_
    refine wpAny_storeName_local hkx hm (fun h' hn hs=>?_) (by rw [fk.kind]; rfl)
    refine kd (rel.setLocal (s':={s with heap:=h',toks:=s.toks + 1}) hkx hm hn hs r1 rfl rfl) fun rel' x'=>?_
    exact (gc ρ rel' x' trivial)
   refine Run.bind (Run.holding h1) fun zZ σ₁ ρ₁ s₁ zZ zZ rel₁ x₁ zZ=>?_
   exact jbd fk xs vs ws' σ₁ ρ₁ s₁ rel₁ (r2.mono x₁) (by simpa using hl) (fun y hy=>hk y (List.mem_cons_of_mem _ hy))
theorem ga8 (fk:FOk F) {es:List Expr} {e:Expr} {m:M V} (pos:Pos) {k:Nat} {tpos:Pos} (names:List String) (h:SimE K F e m) (hk:∀ x∈names,F.env.kindOf (Str.ofString x)=some .local)
  (hs:swapsWith e (some (.Tuple es k tpos)) pos.line F.env=pure false:=by rfl) (hsw:swappedStores [.Tuple es k tpos] e F.env=pure (some (names.map Str.ofString)):=by rfl) (hnh:F.nh=true:=by rfl) :
  SimS K F (.Assign [.Tuple es k tpos] e pos) (do let v ← m; ja3 names v; pure .next):=by
 intro σ ρ s rel;rw [kaw];refine Run.standAt ?_
 rw [show swapsWithSole [.Tuple es k tpos] e pos.line F.env=pure false from hs,w4,if_neg Bool.false_ne_true]
 refine Run.bind (h σ ρ s rel) fun v σ₁ ρ₁ s₁ w zZ rel₁ x₁ r=>?_;rw [hsw,w4]
 show Run K F (do rule "assign.swapped-stores"; let items ← unpackItems w (names.map Str.ofString).length none; assignInOrder ((names.map Str.ofString).reverse.map fun n=>bindName F.env n) items.reverse; (pure Flow.next:Sem Flow)) _ _ ρ₁ s₁
 refine Run.of_wp fun hne=>?_
 cases v with
 | tup vs=>
  by_cases hl:vs.length=names.length
  ·refine qu r.tupOf fun zZ a ws o_134 ht rl=>?_;clear r;obtain rfl:=o_134
   have e1:(ja3 names (.tup vs) >>= fun zZ=>(Pure.pure Fl.next:M Fl)) σ₁=(jai names.reverse vs.reverse >>= fun zZ=>(Pure.pure Fl.next:M Fl)) σ₁:=by
    rw [M.bind_def,M.bind_def]; simp only [ja3,if_pos hl]
   rw [e1] at hne ⊢;refine wpAny_bind (wpAny_rule (wpAny_bind ?_))
   have hn:(names.map Str.ofString).length=ws.toArray.size:=by simp only [List.length_map,List.size_toArray,rl.length,hl]
   rw [hn];refine unpackItems_tuple (fk.hd hnh) ht fun h' hx=>?_;have hkp:=jan hx
   have rel':Rel K F σ₁ ρ₁ {s₁ with heap:=h'}:=rel₁.kept hkp rfl rfl
   have x':Ext F.mine ρ₁ ρ₁ s₁.heap h':=Ext.kept hkp
   have e2:(names.map Str.ofString).reverse.map (fun n=>bindName F.env n)=names.reverse.map fun n=>bindName F.env (Str.ofString n):=by
    rw [← List.map_reverse,List.map_map]; rfl
   rw [e2]
   have key:=jbd fk names.reverse vs.reverse ws.reverse σ₁ ρ₁ {s₁ with heap:=h'} rel' (rl.mono x').reverse (by simp [hl]) (fun y hy=>hk y (by simpa using hy))
   refine wpAny_bind (wpAny_mono (Run.bindWp (P:=fun zZ s₂=>wpAny (model K.prog K.w) F.A (pure Flow.next) (QO K F (qs K) ((jai names.reverse vs.reverse >>= fun zZ=>(Pure.pure Fl.next:M Fl)) σ₁) ρ₁ s₁.heap) (EO K F ((jai names.reverse vs.reverse >>= fun zZ=>(Pure.pure Fl.next:M Fl)) σ₁) ρ₁ s₁.heap) s₂) key hne ?_) (fun zZ zZ q=>q) (fun zZ zZ q=>q.up x'));intro u σ₂ ρ₂ s₂ _ _ e4 rel₂ x₂ _;rw [e4];exact wpAny_pure (zd .next σ₂ ρ₂ rfl rel₂ (x'.trans x₂) rfl)
  ·exact absurd (by rw [M.bind_def]; simp only [ja3,if_neg hl]; rfl) hne
 | _=>exact absurd (by rw [M.bind_def]; rfl) hne
end
section
variable {K:Glo} {F:Frm}
noncomputable def wbt (K:Glo) (op:Operator) (f:V→V→M V):Prop :=
 ∀ F:Frm,FOk F→∀ σ ρ s a b wa wb,Rel K F σ ρ s→Rep K s.heap ρ a wa→Rep K s.heap ρ b wb→Run K F (inplaceOp op wa wb) (Rep K) (f a b σ) ρ s
theorem kci:seqSlot? (.type "list") (dunderI "add")=pure (some (.builtin "list.__iadd__")):=PySem.seqSlot_of PySem.F.slot_list_iadd.lookup (by decide +kernel)
theorem qbw {A:Around} {s:Shared} {l b:Addr} {items items2:Array Value} {n n2:Nat} {Q:Value→Shared→Prop} {E:Value→Shared→Prop} (hl:IsL s.heap l items n) (hb:IsL s.heap b items2 n2) (h1:items.size≤1000000) (h2:items2.size≤1000000)
  (h:Q (.ref l) {s with heap:=s.heap.update l (Obj.mapSeq fun x=>x ++ items2)}):wpAny (model K.prog K.w) A (inplaceOp .Add (.ref l) (.ref b)) Q E s:=by
 have ha:s.TypeIs (.ref l) "list" :=⟨_,hl,rfl⟩
 have hb':s.TypeIs (.ref b) "list" :=⟨_,hb,rfl⟩
 have hfi:fillsInplaceSlot (.type "list") "add" (Operator.Add == .Add)=pure false:=by
  unfold fillsInplaceSlot
  show (typeLookup (.type "list") (dunderI "add") >>= fun fi=>pure (fi.isSome && !isSeqSlot fi))=pure false
  rw [PySem.F.slot_list_iadd.lookup]; rfl
 unfold inplaceOp;refine wpAny_holding ?_;refine wpAny_bind (wpAny_typeOf ha (wpAny_bind (wpAny_of_eq hfi ?_)))
 show wpAny _ A (if false=true then _ else _) Q E s
 rw [if_neg Bool.false_ne_true]
 refine wpAny_bind (binaryOp1_none (nm:= "add") ha hb' noFill_list_add ?_)
 refine wpAny_bind (wpAny_of_eq kci ?_);refine wpAny_bind (wpAny_rule ?_)
 refine call_meets PySem.F.slot_list_iadd ha PySem.F.entry_list_iadd (PySem.F.args_list_iadd_2 _ _) (AutoSeq1.list___iadd___list_list_0 l items n b items2 n2 ?_ (zx h1) (by rw [sizeLine_eq]; exact nL54 h1 h2)) ⟨hl,hb,h⟩
 have:Builtin.List.listTooLong (items.size + items2.size)=false:=by
  unfold Builtin.List.listTooLong;have hz:sizeLine=_:=sizeLine_eq;simp only [decide_eq_false_iff_not];exact nL55 h1 h2 hz
 simp [this]
noncomputable def wbd:V→V→M V
 | .int a,.int b=>fun σ=>.ok (.int (a + b)) σ
 | .obj l,.obj k=>fun σ=>if l=0 then .stuck else match σ.st[l]?,σ.st[k]? with
  | some (.lst xs),some (.lst ys)=>if (xs ++ ys).length≤1000000 then .ok (.obj l) {σ with st:=σ.st.set l (.lst (xs ++ ys))} else .stuck
  | _,_=>.stuck
 | _,_=>fun _=>.stuck
noncomputable def xas:V→V→M V
 | .int a,.int b=>fun σ=>.ok (.int (a - b)) σ
 | _,_=>fun _=>.stuck
theorem gb7:wbt K .Add wbd:=by
 intro F fk σ ρ s a b wa wb rel ra rb
 cases a with
 | int i=>
  cases b with
  | int j=>
   refine qb (Rep.int_iff.mp ra) fun t o_135=>?_;obtain rfl:=o_135;refine qb (Rep.int_iff.mp rb) fun u o_136=>?_;obtain rfl:=o_136;exact Run.ok (PyProof.Rows.iadd_int ⟨ρ,rel.tok _,Ext.refl ..,Rep.int ..⟩)
  | _=>exact Run.stuck
 | obj l=>
  cases b with
  | obj k=>
   unfold wbd;dsimp only
   by_cases hl0:l=0
   ·rw [if_pos hl0]; exact Run.stuck
   rw [if_neg hl0]
   cases hl:σ.st[l]? with
   | none=>exact Run.stuck
   | some c=>
    cases c with
    | set _=>exact Run.stuck
    | itr _ _ _=>exact Run.stuck
    | opq=>exact Run.stuck
    | tab=>exact Run.stuck
    | clo _ _=>exact Run.stuck
    | lst xs=>
     cases hk:σ.st[k]? with
     | none=>exact Run.stuck
     | some c'=>
      cases c' with
      | set _=>exact Run.stuck
      | itr _ _ _=>exact Run.stuck
      | opq=>exact Run.stuck
      | tab=>exact Run.stuck
      | clo _ _=>exact Run.stuck
      | lst ys=>
       dsimp only;refine zh (rel.list ra hl) fun x ws n o_137 hρ hL hr hn=>?_;obtain rfl:=o_137;refine zh (rel.list rb hk) fun y us n' o_138 hρ' hL' hr' hn'=>?_;obtain rfl:=o_138
       by_cases hz:(xs ++ ys).length≤1000000
       ·rw [if_pos hz]
        refine Run.ok (qbw hL hL' (by rw [List.size_toArray,hr.length]; exact hn) (by rw [List.size_toArray,hr'.length]; exact hn') ?_)
        obtain ⟨rel',x'⟩:=rel.upd (s':={s with heap:=s.heap.update x (Obj.mapSeq fun z=>z ++ us.toArray)}) (vs:=xs ++ ys) (ws:=ws ++ us) hρ hl0 (Heap.SameBut.update ..) (by
         have:=hL.update (fun z=>z ++ us.toArray);rw [List.append_toArray] at this
         exact this) (hr.append hr') hz rfl rfl
        exact (gc ρ rel' x' (ra.mono x'))
       ·rw [if_neg hz]; exact Run.stuck
  | _=>exact Run.stuck
 | _=>exact Run.stuck
theorem gan:wbt K .Sub xas:=by
 intro F fk σ ρ s a b wa wb rel ra rb
 cases a with
 | int i=>
  cases b with
  | int j=>
   refine qb (Rep.int_iff.mp ra) fun t o_139=>?_;clear ra;obtain rfl:=o_139;refine qb (Rep.int_iff.mp rb) fun u o_140=>?_;clear rb;obtain rfl:=o_140;exact Run.ok (PyProof.Rows.isub_int ⟨ρ,rel.tok _,Ext.refl ..,Rep.int ..⟩)
  | _=>exact Run.stuck
 | _=>exact Run.stuck
theorem kbw (x:Str) (npos pos:Pos) (op:Operator) (value:Expr) (env:Env):exec (.AugAssign (.Name x npos) op value pos) env=(do
  standAt npos
  let old ← loadName env x
  let v ← holding [old] (eval value env)
  standAt pos
  let new ← operate [old,v] (inplaceOp op old v)
  standAt npos
  bindName env x new
  pure .next):=rfl
theorem xbw (fk:FOk F) (x:String) (hc:(Str.ofString x == ("__classdict__" : Str))=false) {σ:S} {ρ:List Addr} {s:Shared} (rel:Rel K F σ ρ s):Run K F (loadName F.env (Str.ofString x)) (Rep K) (getv x σ) ρ s:=by
 unfold getv
 cases e:σ.lo x with
 | none=>exact Run.stuck
 | some v=>
  dsimp only;refine ya (rel.vars x v e) fun w h1 h2=>?_;have fin:∃ ρ',Rel K F σ ρ' s∧Ext F.mine ρ ρ' s.heap s.heap∧Rep K s.heap ρ' v w:=⟨ρ,rel,Ext.refl ..,h2⟩
  rcases h1 with ⟨k,m,n,em⟩ | ⟨k | k,c,ec,n⟩
  ·exact Run.ok (wpAny_loadName_local fk.kind k n em fin)
  ·exact Run.ok (wpAny_loadName_cell fk.kind k ec n fin)
  ·exact Run.ok (wpAny_loadName_free fk.kind k ec n fin hc)
theorem za9 (fk:FOk F) {op:Operator} {f:V→V→M V} (ho:wbt K op f) (x:String) {npos:Pos} {e:Expr} {m:M V} (pos:Pos) (hk:F.env.kindOf (Str.ofString x)=some .local) (h:SimE K F e m)
  (hc:(Str.ofString x == ("__classdict__" : Str))=false:=by decide) :
  SimS K F (.AugAssign (.Name (Str.ofString x) npos) op e pos) (do let a ← getv x; let b ← m; let c ← f a b; setv x c; pure .next):=by
 intro σ ρ s rel;simp only [kbw];refine Run.standAt (Run.bind (xbw fk x hc rel) fun a σ₁ ρ₁ s₁ wa zZ rel₁ x₁ ra=>?_);refine Run.bind (Run.holding (h σ₁ ρ₁ s₁ rel₁)) fun b σ₂ ρ₂ s₂ wb zZ rel₂ x₂ rb=>?_;refine Run.standAt (Run.bind (Run.operate (ho F fk σ₂ ρ₂ s₂ a b wa wb rel₂ (ra.mono x₂) rb)) fun c σ₃ ρ₃ s₃ wc zZ rel₃ x₃ rc=>?_);refine Run.standAt ?_
 have h1:Run K F (bindName F.env (Str.ofString x) wc) URep (setv x c σ₃) ρ₃ s₃:=by
  refine Run.ok (wpAny_bindName ?_);refine qb rel₃.loc fun mm hm=>?_
  refine wpAny_storeName_local hk hm (fun h' hn hs=>?_) (by rw [fk.kind]; rfl)
  refine kd (rel₃.setLocal (s':={s₃ with heap:=h',toks:=s₃.toks + 1}) hk hm hn hs rc rfl rfl) fun rel' x'=>?_
  exact (gc ρ₃ rel' x' trivial)
 exact Run.bind h1 fun zZ σ₄ ρ₄ s₄ zZ zZ rel₄ zZ zZ=>Run.pure rel₄ rfl
noncomputable def minB:List V→M V
 | [.int a,.int b]=>fun σ=>.ok (.int (if b < a then b else a)) σ
 | _=>fun _=>.stuck
theorem xci:wt K (.builtin "min") minB:=by
 intro F fk hnh σ ρ s vs ws rel r
 rcases (show minB vs σ = .stuck∨∃ a b,vs=[.int a,.int b] by
  cases vs with
  | nil=>exact .inl rfl
  | cons v t=>
   cases v with
   | int a=>
    cases t with
    | nil=>exact .inl rfl
    | cons u t=>
     cases u with
     | int b=>
      cases t with
      | nil=>exact .inr (yaw _ _ rfl)
      | cons _ _=>exact .inl rfl
     | _=>exact .inl rfl
   | _=>exact .inl rfl) with h | ⟨a,b,rfl⟩
 ·rw [h]; exact Run.stuck
 ·refine yc (RepL.cons_iff.mp r) fun x r' o_141 r1 r2=>?_;obtain rfl:=o_141;refine yc (RepL.cons_iff.mp r2) fun y r'' o_142 r3 r4=>?_;obtain rfl:=o_142;obtain rfl:=RepL.nil_iff.mp r4;refine qb (Rep.int_iff.mp r1) fun t o_143=>?_;obtain rfl:=o_143;refine qb (Rep.int_iff.mp r3) fun u o_144=>?_;obtain rfl:=o_144;refine Run.ok (min_two_ints (fk.hd hnh) fun h' tk hk=>(gc ρ (rel.kept hk rfl rfl) (Ext.kept hk) ?_))
  split <;> exact Rep.int ..
theorem wai {k:Option NameKind} (h:k=some .cell):k≠some .local:=by rw [h]; decide
theorem zay {cells:List (Str×Addr)}:∀ p∈([]:List (Str×Addr)),cells.lookup p.1=some p.2:=by intro p hp; (exfalso; exact nomatch hp)
theorem k9 {cells cl:List (Str×Addr)} {x:Str} {a:Addr} (h:cells.lookup x=some a) (hs:∀ p∈cl,cells.lookup p.1=some p.2):∀ p∈(x,a) :: cl,cells.lookup p.1=some p.2:=by
 intro p hp
 rcases List.mem_cons.mp hp with rfl | hp
 ·exact h
 ·exact hs p hp
theorem qai {cl cells:List (Str×Addr)} (hall:∀ p∈cl,cells.lookup p.1=some p.2):∀ x c,cl.lookup x=some c→cells.lookup x=some c :=
 fun x c h=>hall (x,c) (mem_of_lookup h)
end
section
noncomputable def krun {α:Type} (ask:Nat→Nat→Bool):KasT α→α
 | .ret a=>a
 | .ask i j k=>krun ask (k (ask i j))
theorem j6 {α β:Type} (ask:Nat→Nat→Bool) (f:α→KasT β):∀ t:KasT α,krun ask (t.bind f)=krun ask (f (krun ask t))
 | .ret a=>rfl
 | .ask i j k=>by
  show krun ask ((k (ask i j)).bind f)=_;rw [j6 ask f (k (ask i j))]; rfl
structure Ask (n:Nat) (ask:Nat→Nat→Bool):Prop where
 asymm:∀ i j,i < n→j < n→ask i j=true→ask j i=false
 trans:∀ i j k,i < n→j < n→k < n→ask j i=false→ask k j=false→ask k i=false
noncomputable def bf (ask:Nat→Nat→Bool) (i j:Nat):Prop:=ask i j=true∨(ask i j=false∧ask j i=false∧i < j)
section
variable {n:Nat} {ask:Nat→Nat→Bool}
theorem Ask.lt_le (A:Ask n ask) {i j k:Nat} (hi:i < n) (hj:j < n) (hk:k < n) (h1:ask i j=true) (h2:ask k j=false):ask i k=true:=by
 cases e:ask i k with
 | true=>rfl
 | false=>have:=A.trans j k i hj hk hi h2 e; rw [h1] at this; (injection this)
theorem Ask.le_lt (A:Ask n ask) {i j k:Nat} (hi:i < n) (hj:j < n) (hk:k < n) (h1:ask j i=false) (h2:ask j k=true):ask i k=true:=by
 cases e:ask i k with
 | true=>rfl
 | false=>have:=A.trans k i j hk hi hj e h1; rw [h2] at this; (injection this)
theorem bf.not (A:Ask n ask) {i j:Nat} (hi:i < n) (hj:j < n) (h:bf ask i j):ask j i=false:=by
 rcases h with h | h
 ·exact A.asymm i j hi hj h
 ·exact h.2.1
theorem bf.trans (A:Ask n ask) {i j k:Nat} (hi:i < n) (hj:j < n) (hk:k < n) (h1:bf ask i j) (h2:bf ask j k):bf ask i k:=by
 rcases h1 with h1 | ⟨h1,h1',h1''⟩
 ·exact .inl (A.lt_le hi hj hk h1 (bf.not A hj hk h2))
 ·rcases h2 with h2 | ⟨h2,h2',h2''⟩
  ·exact .inl (A.le_lt hi hj hk h1' h2)
  ·exact .inr ⟨A.trans k j i hk hj hi h2 h1,A.trans i j k hi hj hk h1' h2',by exact nL56 h1'' h2''⟩
noncomputable def at0 (p:Array Nat) (k:Nat):Nat:=p.getD k 0
theorem gy (p:Array Nat) (k:Nat):at0 p k=p[k]?.getD 0:=by
 unfold at0; by_cases h:k < p.size <;> simp [Array.getD,h]
theorem zz {p:Array Nat} {i j:Nat} (hj:j≤p.size) (k:Nat):at0 (kas_rev p i j) k=if i≤k∧k < j then at0 p (i + j - 1 - k) else at0 p k:=by
 rw [gy]; unfold kas_rev;rw [getElem?_mirror_all hj]
 split <;> rw [gy]
theorem qc9 {p:Array Nat} {src d:Nat} (hs:src < p.size) (hd:d≤src) (k:Nat):at0 (bubble p src d) k=if k=src - d then at0 p src else if src - d < k∧k≤src then at0 p (k - 1) else at0 p k:=by
 rw [gy,getElem?_bubble hs d hd]
 repeat' split
 all_goals rw [gy]
noncomputable def Fix (n:Nat) (p:Array Nat) (m:Nat):Prop:=p.size=n∧∀ k,k < n→(m≤k→at0 p k=k)∧(k < m→at0 p k < m)
theorem Fix.up {p:Array Nat} {a m:Nat} (h:Fix n p a) (ha:a≤m):Fix n p m :=
 ⟨h.1,fun k hk=>⟨fun hm=>(h.2 k hk).1 (by exact nL57 ha hm),fun hm=>by
  by_cases hka:k < a
  ·have:=(h.2 k hk).2 hka; exact nL58 this ha
  ·rw [(h.2 k hk).1 (by exact nL2 hka)]; exact hm⟩⟩
theorem Fix.lt {p:Array Nat} {a k:Nat} (h:Fix n p a) (ha:a≤n) (hk:k < n):at0 p k < n:=by
 by_cases hka:k < a
 ·have:=(h.2 k hk).2 hka; exact nL58 this ha
 ·rw [(h.2 k hk).1 (by exact nL2 hka)]; exact hk
theorem Fix.rev {p:Array Nat} {a i j:Nat} (h:Fix n p a) (ha:a≤n) (hj:j≤a):Fix n (kas_rev p i j) a:=by
 refine ⟨(kas_rev_size i j).trans h.1,fun k hk=>?_⟩
 rw [zz (by rw [h.1]; exact nL57 hj ha)]
 refine ⟨fun hm=>?_,fun hm=>?_⟩
 ·rw [if_neg (by exact nL59 hj hm)]; exact (h.2 k hk).1 hm
 ·split
  ·exact (h.2 _ (by exact nL60 (by assumption) hj ha)).2 (by exact nL61 (by assumption) hj)
  ·exact (h.2 k hk).2 hm
noncomputable def SP (ask:Nat→Nat→Bool) (p:Array Nat) (m:Nat):Prop:= ∀ i j,i < j→j < m→bf ask (at0 p i) (at0 p j)
noncomputable def DP (ask:Nat→Nat→Bool) (p:Array Nat) (m:Nat):Prop:= ∀ i j,i < j→j < m→bf ask (at0 p j) (at0 p i)
theorem gbw (A:Ask n ask) {p:Array Nat}:∀ (f a:Nat),1≤a→a + f≤n→Fix n p a→SP ask p a→
  a≤krun ask (kas_asc p f a)∧krun ask (kas_asc p f a)≤a + f∧SP ask p (krun ask (kas_asc p f a))∧
  (krun ask (kas_asc p f a) < a + f→ask (at0 p (krun ask (kas_asc p f a))) (at0 p (krun ask (kas_asc p f a) - 1))=true)
 | 0,a,_,_,_,hs=>⟨Nat.le_refl _,Nat.le_refl _,hs,fun h=>absurd h (Nat.lt_irrefl _)⟩
 | f + 1,a,h1,hf,hF,hs=>by
  show _≤krun ask (if ask (at0 p a) (at0 p (a - 1))=true then KasT.ret a else kas_asc p f (a + 1))∧krun ask (if ask (at0 p a) (at0 p (a - 1))=true then KasT.ret a else kas_asc p f (a + 1))≤_∧
   SP ask p (krun ask (if ask (at0 p a) (at0 p (a - 1))=true then KasT.ret a else kas_asc p f (a + 1)))∧
   (krun ask (if ask (at0 p a) (at0 p (a - 1))=true then KasT.ret a else kas_asc p f (a + 1)) < _→ask (at0 p (krun ask (if ask (at0 p a) (at0 p (a - 1))=true then KasT.ret a else kas_asc p f (a + 1)))) (at0 p (krun ask (if ask (at0 p a) (at0 p (a - 1))=true then KasT.ret a else kas_asc p f (a + 1)) - 1))=true)
  by_cases hc:ask (at0 p a) (at0 p (a - 1))=true
  ·rw [if_pos hc];exact ⟨Nat.le_refl _,Nat.le_add_right _ _,hs,fun zZ=>hc⟩
  ·rw [if_neg hc]
   have hc':ask (at0 p a) (at0 p (a - 1))=false:=by simpa using hc
   have ea:at0 p a=a:=(hF.2 a (by exact nL62 hf)).1 (Nat.le_refl _)
   have el:at0 p (a - 1) < a:=(hF.2 (a - 1) (by exact nL63 hf)).2 (by exact nL64 h1)
   have hb:bf ask (at0 p (a - 1)) (at0 p a):=by
    cases e:ask (at0 p (a - 1)) (at0 p a) with
    | true=>exact .inl e
    | false=>exact .inr ⟨e,hc',by exact nL65 el ea⟩
   have hs':SP ask p (a + 1):=by
    intro i j hij hj
    by_cases hja:j < a
    ·exact hs i j hij hja
    ·have:j=a:=by exact nL1 hj hja
     clear h1 hc hc' hj hja;subst this
     by_cases hi:i=j - 1
     ·subst hi; exact hb
     ·exact bf.trans A (hF.lt (by exact nL66 hf) (by exact nL67 hf hij)) (by exact nL67 hf el) (by exact nL68 hf ea) (hs i (j - 1) (by exact nL69 hij hi) (by exact nL70 el)) hb
   refine wrap fun G_ hG_=>?_
   obtain ⟨r1,r2,r3,r4⟩:=gbw A f (a + 1) (by exact nL71) (by exact nL72 hf) (hF.up (by exact nL40)) hs'
   refine hG_ ?_;clear hG_ G_
   exact ⟨by exact nL73 r1,by exact nL74 r2,r3,fun h=>r4 (by exact nL75 h)⟩
structure Dn (n:Nat) (ask:Nat→Nat→Bool) (p:Array Nat) (c q:Nat):Prop where
 fix:Fix n p c
 le:c≤n
 qc:q + 1≤c
 one:∀ i j,i < j→j < c - (q + 1)→bf ask (at0 p j) (at0 p i)
 two:∀ i j,i < c - (q + 1)→c - (q + 1)≤j→j < c→ask (at0 p j) (at0 p i)=true
 three:∀ i j,c - (q + 1)≤i→i < j→j < c→at0 p i < at0 p j∧ask (at0 p i) (at0 p j)=false∧ask (at0 p j) (at0 p i)=false
theorem Dn.turn {p:Array Nat} {c q:Nat} (A:Ask n ask) (h:Dn n ask p c q):Fix n (kas_rev p (c - (q + 1)) c) c∧DP ask (kas_rev p (c - (q + 1)) c) c:=by
 have hc:=h.le;have hq:=h.qc;have hsz:=h.fix.1;refine ⟨h.fix.rev hc (Nat.le_refl _),fun i j hij hj=>?_⟩
 rw [zz (by exact nL76 hc hsz),zz (by exact nL76 hc hsz)]
 by_cases hi:c - (q + 1)≤i
 ·rw [if_pos ⟨by exact nL77 hi hij,hj⟩,if_pos ⟨hi,by exact nL56 hij hj⟩]
  obtain ⟨t1,t2,t3⟩:=h.three (c - (q + 1) + c - 1 - j) (c - (q + 1) + c - 1 - i) (by exact nL78 hj) (by exact nL79 hj hij) (by exact nL80 hi hj)
  exact .inr ⟨t2,t3,t1⟩
 ·by_cases hj2:c - (q + 1)≤j
  ·rw [if_pos ⟨hj2,hj⟩,if_neg (by exact nL81 hi)]
   exact .inl (h.two i _ (by exact nL82 hi) (by exact nL78 hj) (by exact nL83 hj2 hi))
  ·rw [if_neg (by exact nL81 hj2),if_neg (by exact nL81 hi)]
   exact h.one i j hij (by exact nL82 hj2)
theorem Dn.flat {p:Array Nat} {c:Nat} (h:Dn n ask p c 0):DP ask p c:=by
 intro i j hij hj;have hq:=h.qc
 by_cases hj2:j < c - 1
 ·exact h.one i j hij (by exact nL84 hj2)
 ·exact .inl (h.two i j (by exact nL85 hij hj) (by exact nL86 hj2) hj)
theorem Dn.next {p:Array Nat} {c:Nat} (hF:Fix n p c) (hc:c < n) (hd:DP ask p c) (hx:∀ i,i < c→ask (at0 p c) (at0 p i)=true):Dn n ask p (c + 1) 0 where
 fix:=hF.up (by exact nL40)
 le:=by exact nL36 hc
 qc:=by exact nL87
 one:=fun i j hij hj=>hd i j hij (by exact nL88 hj)
 two:=fun i j hi h1 h2=>by
  have:j=c:=by exact nL89 h1 h2
  clear hF hc hd
  subst this; exact hx i (by exact nL88 hi)
 three:=fun i j h1 h2 h3=>by (exfalso; exact nL90 h1 h2 h3)
theorem wa3 (A:Ask n ask):∀ (f:Nat) (p:Array Nat) (c q:Nat),Dn n ask p c q→c + f=n→
  Dn n ask (krun ask (kas_desc f p c q)).1 (krun ask (kas_desc f p c q)).2.1 (krun ask (kas_desc f p c q)).2.2∧c≤(krun ask (kas_desc f p c q)).2.1
 | 0,p,c,q,h,_=>⟨h,Nat.le_refl _⟩
 | f + 1,p,c,q,h,hf=>by
  have hq:=h.qc
  have ec:at0 p c=c:=(h.fix.2 c (by exact nL91 hf)).1 (Nat.le_refl _)
  have hl1:at0 p (c - 1) < n:=h.fix.lt h.le (by exact nL92 hf)
  have hmin:∀ i,i < c→ask (at0 p i) (at0 p (c - 1))=false:=by
   intro i hi
   by_cases h1:i < c - (q + 1)
   ·exact A.asymm _ _ hl1 (h.fix.lt h.le (by exact nL93 hf h1)) (h.two i (c - 1) h1 (by exact nL94) (by exact nL95 h1))
   ·by_cases h2:i=c - 1
    ·subst h2
     cases e:ask (at0 p (c - 1)) (at0 p (c - 1)) with
     | false=>rfl
     | true=>have:=A.asymm _ _ hl1 hl1 e; rw [e] at this; (exfalso; exact nomatch this)
    ·exact (h.three i (c - 1) (by exact nL96 h1) (by exact nL69 hi h2) (by exact nL70 hi)).2.1
  have hkd:krun ask (kas_desc (f + 1) p c q)=krun ask (if ask (at0 p c) (at0 p (c - 1))=true then (if q > 0 then kas_desc f (kas_rev p (c - (q + 1)) c) (c + 1) 0 else kas_desc f p (c + 1) 0)
    else .ask (at0 p (c - 1)) (at0 p c) fun d=>if d=true then .ret (p,c,q) else kas_desc f p (c + 1) (q + 1)):=rfl
  rw [hkd]
  by_cases hc:ask (at0 p c) (at0 p (c - 1))=true
  ·rw [if_pos hc]
   have hall:∀ i,i < c→ask (at0 p c) (at0 p i)=true:=fun i hi=>A.lt_le (by exact nL97 hf ec) hl1 (h.fix.lt h.le (by exact nL98 hf hi)) hc (hmin i hi)
   by_cases hq0:q > 0
   ·rw [if_pos hq0];refine kd (h.turn A) fun t1 t2=>?_
    have e2:at0 (kas_rev p (c - (q + 1)) c) c=at0 p c:=by rw [zz (by rw [h.fix.1]; exact nL99 hf),if_neg (by exact jdd)]
    have hd:=Dn.next t1 (by exact nL91 hf) t2 (fun i hi=>by
     rw [e2,zz (by rw [h.fix.1]; exact nL99 hf)]
     split
     ·exact hall _ (by exact wdd (by assumption))
     ·exact hall i hi)
    obtain ⟨r1,r2⟩:=wa3 A f _ (c + 1) 0 hd (by exact jbr hf)
    exact ⟨r1,by exact nL73 r2⟩
   ·rw [if_neg hq0]
    have:q=0:=by exact jcv hq0
    clear hkd hq0;subst this
    obtain ⟨r1,r2⟩:=wa3 A f _ (c + 1) 0 (Dn.next h.fix (by exact nL91 hf) h.flat hall) (by exact jbr hf)
    exact ⟨r1,by exact nL73 r2⟩
  ·rw [if_neg hc]
   have hc':ask (at0 p c) (at0 p (c - 1))=false:=by simpa using hc
   show Dn n ask (krun ask (if ask (at0 p (c - 1)) (at0 p c)=true then KasT.ret (p,c,q) else kas_desc f p (c + 1) (q + 1))).1 _ _∧_
   by_cases hb:ask (at0 p (c - 1)) (at0 p c)=true
   ·have e:krun ask (if ask (at0 p (c - 1)) (at0 p c)=true then KasT.ret (p,c,q) else kas_desc f p (c + 1) (q + 1))=(p,c,q):=by rw [if_pos hb]; rfl
    have e':krun ask (KasT.ask (at0 p (c - 1)) (at0 p c) fun d=>if d=true then KasT.ret (p,c,q) else kas_desc f p (c + 1) (q + 1))=(p,c,q):=e
    rw [e,e'];exact ⟨h,Nat.le_refl _⟩
   ·have hb':ask (at0 p (c - 1)) (at0 p c)=false:=by simpa using hb
    have e:krun ask (if ask (at0 p (c - 1)) (at0 p c)=true then KasT.ret (p,c,q) else kas_desc f p (c + 1) (q + 1))=krun ask (kas_desc f p (c + 1) (q + 1)):=by rw [if_neg hb]
    have e':krun ask (KasT.ask (at0 p (c - 1)) (at0 p c) fun d=>if d=true then KasT.ret (p,c,q) else kas_desc f p (c + 1) (q + 1))=krun ask (kas_desc f p (c + 1) (q + 1)):=e
    rw [e,e']
    have hd:Dn n ask p (c + 1) (q + 1):=by
     refine ⟨h.fix.up (by exact nL40),by exact qdd hf,by exact kdd hq,fun i j hij hj=>h.one i j hij (by exact zcb hj),fun i j hi h1 h2=>?_,fun i j h1 h2 h3=>?_⟩
     ·by_cases hj:j < c
      ·exact h.two i j (by exact zcb hi) (by exact ycb h1) hj
      ·have:j=c:=by exact nL1 h2 hj
       clear hkd hc hb e e';subst this
       exact A.le_lt (by exact nL97 hf ec) hl1 (h.fix.lt h.le (by exact xdd hf hi)) hb' (h.two i (j - 1) (by exact zcb hi) (by exact nL94) (by exact gdd hi))
     ·by_cases hj:j < c
      ·exact h.three i j (by exact ycb h1) h2 hj
      ·have:j=c:=by exact nL1 h3 hj
       clear hkd hc hb e e' h3 hj;subst this
       have hil:at0 p i < n:=h.fix.lt h.le (by exact nL98 hf h2)
       refine ⟨by rw [ec]; exact (h.fix.2 i (by exact nL98 hf h2)).2 (by exact h2),?_,?_⟩
       ·-- ask p[i] p[c]=false: p[c]≤p[c-1]≤p[i]
        exact A.trans _ _ _ (by exact nL97 hf ec) hl1 hil hb' (hmin i (by exact h2))
       ·-- ask p[c] p[i]=false: p[i]≤p[c-1]≤p[c]
        by_cases hi2:i=j - 1
        ·subst hi2; exact hc'
        ·exact A.trans _ _ _ hil hl1 (by exact nL97 hf ec) (h.three i (j - 1) (by exact ycb h1) (by exact nL69 h2 hi2) (by exact zde hq)).2.2 hc'
    obtain ⟨r1,r2⟩:=wa3 A f p (c + 1) (q + 1) hd (by exact jbr hf)
    exact ⟨r1,by exact nL73 r2⟩
theorem yz (p:Array Nat) (i j:Nat):(kas_rev p i j).Perm p:=mirror_perm ..
theorem jad:∀ (f:Nat) (p:Array Nat) (c q:Nat),(krun ask (kas_desc f p c q)).1.Perm p
 | 0,p,c,q=>Array.Perm.refl _
 | f + 1,p,c,q=>by
  have hkd:krun ask (kas_desc (f + 1) p c q)=krun ask (if ask (at0 p c) (at0 p (c - 1))=true then (if q > 0 then kas_desc f (kas_rev p (c - (q + 1)) c) (c + 1) 0 else kas_desc f p (c + 1) 0)
    else .ask (at0 p (c - 1)) (at0 p c) fun d=>if d=true then .ret (p,c,q) else kas_desc f p (c + 1) (q + 1)):=rfl
  rw [hkd]
  split
  ·split
   ·exact (jad f _ _ _).trans (yz ..)
   ·exact jad f _ _ _
  ·have e':krun ask (KasT.ask (at0 p (c - 1)) (at0 p c) fun d=>if d=true then KasT.ret (p,c,q) else kas_desc f p (c + 1) (q + 1))=krun ask (if ask (at0 p (c - 1)) (at0 p c)=true then KasT.ret (p,c,q) else kas_desc f p (c + 1) (q + 1)):=rfl
   rw [e']
   split
   ·exact Array.Perm.refl _
   ·exact jad f _ _ _
theorem DP.turn {p:Array Nat} {c:Nat} (h:DP ask p c) (hc:c≤p.size):SP ask (kas_rev p 0 c) c:=by
 intro i j hij hj
 rw [zz hc,zz hc,if_pos ⟨by exact zar,by exact nL56 hij hj⟩,if_pos ⟨by exact zar,hj⟩]
 exact h _ _ (by exact wcv hj hij) (by exact qcv hj)
theorem SP.turn {p:Array Nat} {c:Nat} (h:SP ask p c) (hc:c≤p.size):DP ask (kas_rev p 0 c) c:=by
 intro i j hij hj
 rw [zz hc,zz hc,if_pos ⟨by exact zar,hj⟩,if_pos ⟨by exact zar,by exact nL56 hij hj⟩]
 exact h _ _ (by exact wcv hj hij) (by exact qcv hj)
noncomputable def Good (n:Nat) (ask:Nat→Nat→Bool) (p₀:Array Nat) (r:Nat×Array Nat):Prop:=1≤r.1∧r.1≤n∧Fix n r.2 r.1∧SP ask r.2 r.1∧r.2.Perm p₀
theorem zbx (A:Ask n ask) {p:Array Nat} {c:Nat} (hF:Fix n p c) (hc:c≤n) (h1:1≤c) (hd:DP ask p c):Good n ask p (krun ask (kas_tail3 c n p)):=by
 unfold kas_tail3;rw [j6];have hF2:Fix n (kas_rev p 0 c) c:=hF.rev hc (Nat.le_refl _)
 obtain ⟨r1,r2,r3,r4⟩:=gbw A (p:=kas_rev p 0 c) (n - c) c h1 (by exact yde hc) hF2 (hd.turn (by rw [hF.1]; exact hc))
 show Good n ask p (krun ask (kas_asc (kas_rev p 0 c) (n - c) c),kas_rev p 0 c)
 exact ⟨by dsimp only; exact jde h1 r1,by dsimp only; exact wde r2 hc,hF2.up r1,r3,yz ..⟩
theorem wa5 (A:Ask n ask) {p:Array Nat} {m:Nat} (hF:Fix n p m) (hm:m < n) (h1:1≤m) (hd:DP ask p m) (hx:∀ i,i < m→ask (at0 p m) (at0 p i)=true):Good n ask p (krun ask (kas_descPart m n p)):=by
 unfold kas_descPart;rw [j6]
 obtain ⟨r1,r2⟩:=wa3 A (n - (m + 1)) p (m + 1) 0 (Dn.next hF hm hd hx) (by exact qde hm)
 have r3:=jad (ask:=ask) (n - (m + 1)) p (m + 1) 0
 generalize krun ask (kas_desc (n - (m + 1)) p (m + 1) 0)=r at r1 r2 r3 ⊢
 obtain ⟨p',c,q⟩:=r;dsimp only at r1 r2 r3 ⊢
 by_cases hq:q > 0
 ·rw [if_pos hq];refine kd (r1.turn A) fun t1 t2=>?_;refine wrap fun G_ hG_=>?_
  obtain ⟨g1,g2,g3,g4,g5⟩:=zbx A t1 r1.le (by exact kcv r2) t2
  refine hG_ ?_;clear hG_ G_;exact ⟨g1,g2,g3,g4,g5.trans ((yz ..).trans r3)⟩
 ·rw [if_neg hq]
  have:q=0:=by exact jcv hq
  clear hq;subst this;refine wrap fun G_ hG_=>?_
  obtain ⟨g1,g2,g3,g4,g5⟩:=zbx A r1.fix r1.le (by exact kcv r2) r1.flat
  refine hG_ ?_;clear hG_ G_;exact ⟨g1,g2,g3,g4,g5.trans r3⟩
theorem ybx (A:Ask n ask) {p:Array Nat} (hn:1≤n) (hF:Fix n p 1):Good n ask p (krun ask (kas_count n p)):=by
 unfold kas_count;rw [j6]
 obtain ⟨r1,r2,r3,r4⟩:=gbw A (p:=p) (n - 1) 1 (Nat.le_refl _) (by exact kde hn) hF (fun i j h1 h2=>by (exfalso; exact xcv h2 h1))
 generalize krun ask (kas_asc p (n - 1) 1)=m at r1 r2 r3 r4 ⊢
 by_cases hm:m=n
 ·subst hm
  rw [if_pos (by simp)]
  exact ⟨hn,Nat.le_refl _,hF.up r1,r3,Array.Perm.refl _⟩
 ·rw [if_neg (by simpa using hm)]
  have hmn:m < n:=by exact xde hn r2 hm
  have hx:=r4 (by exact gcv hmn)
  have hFm:=hF.up (m:=m) r1;have em:at0 p m=m:=(hFm.2 m hmn).1 (Nat.le_refl _)
  have lt0:∀ k,k < n→at0 p k < n:=fun k hk=>hFm.lt (by exact wbb hmn) hk
  by_cases h1:m > 1
  ·rw [if_pos h1]
   show Good n ask p (krun ask (if ask (at0 p 0) (at0 p (m - 1))=true then KasT.ret (m,p) else kas_descPart m n (kas_rev p 0 m)))
   by_cases hb:ask (at0 p 0) (at0 p (m - 1))=true
   ·rw [if_pos hb];exact ⟨r1,Nat.le_of_lt hmn,hFm,r3,Array.Perm.refl _⟩
   ·rw [if_neg hb]
    have hb':ask (at0 p 0) (at0 p (m - 1))=false:=by simpa using hb
    have hsz:m≤p.size:=by rw [hF.1]; exact wbb hmn
    have heq:∀ i,i < m→ask (at0 p i) (at0 p (m - 1))=false:=by
     intro i hi
     have h0:ask (at0 p i) (at0 p 0)=false:=by
      by_cases hi0:i=0
      ·subst hi0
       cases e:ask (at0 p 0) (at0 p 0) with
       | false=>rfl
       | true=>have:=A.asymm _ _ (lt0 0 (by exact zak hmn)) (lt0 0 (by exact zak hmn)) e; rw [e] at this; (exfalso; exact nomatch this)
      ·exact bf.not A (lt0 0 (by exact zak hmn)) (lt0 i (by exact nL56 hi hmn)) (r3 0 i (by exact zcw hi0) hi)
     exact A.trans _ _ _ (lt0 _ (by exact jcb hmn)) (lt0 0 (by exact zak hmn)) (lt0 i (by exact nL56 hi hmn)) hb' h0
    obtain ⟨g1,g2,g3,g4,g5⟩:=wa5 A (p:=kas_rev p 0 m) (hFm.rev (by exact wbb hmn) (Nat.le_refl _)) hmn (by exact gde h1) (SP.turn r3 hsz) (fun i hi=>by
     rw [zz hsz,zz hsz,if_neg (by exact zdf),if_pos ⟨by exact zar,hi⟩]
     exact A.lt_le (by exact ydf em hmn) (lt0 _ (by exact jcb hmn)) (lt0 _ (by exact jdf hmn)) hx (heq _ (by exact wdf hi)))
    exact ⟨g1,g2,g3,g4,g5.trans (yz ..)⟩
  ·rw [if_neg h1]
   have:m=1:=by exact qdf r1 h1
   clear r1 r2 r3 r4 hm em;subst this
   exact wa5 A hFm hmn (Nat.le_refl _) (fun i j h1 h2=>by (exfalso; exact xcv h2 h1)) (fun i hi=>by
    have:i=0:=by exact kdf hi
    clear hi
    subst this; exact hx)
theorem ya9 (A:Ask n ask) {p:Array Nat} {k:Nat} (hk:k < n) (hF:Fix n p k) (hs:SP ask p k):∀ (f l r:Nat),l≤r→r≤k→r - l≤f→(∀ i,i < l→ask (at0 p k) (at0 p i)=false)→(∀ i,r≤i→i < k→ask (at0 p k) (at0 p i)=true)→
  krun ask (kas_place p k f l r)≤k∧(∀ i,i < krun ask (kas_place p k f l r)→ask (at0 p k) (at0 p i)=false)∧(∀ i,krun ask (kas_place p k f l r)≤i→i < k→ask (at0 p k) (at0 p i)=true)
 | 0,l,r,h1,h2,h3,h4,h5=>by
  have:l=r:=by exact xdf h3 h1
  subst this;exact ⟨h2,h4,h5⟩
 | f + 1,l,r,h1,h2,h3,h4,h5=>by
  have lt0:∀ i,i < n→at0 p i < n:=fun i hi=>hF.lt (by exact wbb hk) hi
  have e:krun ask (kas_place p k (f + 1) l r)=krun ask (if l ≥ r then KasT.ret l else if ask (at0 p k) (at0 p ((l + r) / 2))=true then kas_place p k f l ((l + r) / 2) else kas_place p k f ((l + r) / 2 + 1) r):=by
   simp only [kas_place]
   split
   ·rfl
   ·rfl
  rw [e]
  by_cases hlr:l ≥ r
  ·rw [if_pos hlr]
   have:l=r:=by exact gdf h1 hlr
   clear h1 e;subst this;exact ⟨h2,h4,h5⟩
  ·rw [if_neg hlr]
   by_cases hb:ask (at0 p k) (at0 p ((l + r) / 2))=true
   ·rw [if_pos hb]
    refine ya9 A hk hF hs f l ((l + r) / 2) (by exact zdg hlr) (by exact ydg h2 hlr) (by exact jdg h3) h4 fun i hi hik=>?_
    by_cases hm:i=(l + r) / 2
    ·subst hm; exact hb
    ·exact A.lt_le (lt0 k hk) (lt0 _ (by exact ycw hi hik hk)) (lt0 i (by exact nL56 hik hk)) hb (bf.not A (lt0 _ (by exact ycw hi hik hk)) (lt0 i (by exact nL56 hik hk)) (hs _ i (by exact wdg hi hm) hik))
   ·rw [if_neg hb]
    have hb':ask (at0 p k) (at0 p ((l + r) / 2))=false:=by simpa using hb
    refine ya9 A hk hF hs f ((l + r) / 2 + 1) r (by exact qdg hlr) h2 (by exact kdg h3) (fun i hi=>?_) h5
    by_cases hm:i=(l + r) / 2
    ·subst hm; exact hb'
    ·exact A.trans _ _ _ (lt0 i (by exact jcw hi h2 hk hlr)) (lt0 _ (by exact wcw h2 hk hlr)) (lt0 k hk) (bf.not A (lt0 i (by exact jcw hi h2 hk hlr)) (lt0 _ (by exact wcw h2 hk hlr)) (hs i _ (by exact xdg hi hm) (by exact gdg h2 hlr))) hb'
theorem gci (A:Ask n ask):∀ (f:Nat) (p:Array Nat) (k:Nat),k + f=n→Fix n p k→SP ask p k→Fix n (krun ask (kas_bin f p k)) n∧SP ask (krun ask (kas_bin f p k)) n∧(krun ask (kas_bin f p k)).Perm p
 | 0,p,k,hf,hF,hs=>by
  have:k=n:=by exact zdh hf
  subst this;exact ⟨hF,hs,Array.Perm.refl _⟩
 | f + 1,p,k,hf,hF,hs=>by
  have hk:k < n:=by exact nL91 hf
  simp only [kas_bin,j6]
  obtain ⟨r1,r2,r3⟩:=ya9 A hk hF hs k 0 k (by exact zar) (Nat.le_refl _) (by exact ydh) (fun i hi=>by (exfalso; exact qcw hi)) (fun i h1 h2=>by (exfalso; exact kcw h2 h1))
  generalize krun ask (kas_place p k k 0 k)=x at r1 r2 r3 ⊢
  have hsz:=hF.1;have ek:at0 p k=k:=(hF.2 k hk).1 (Nat.le_refl _)
  have hat:∀ i,at0 (bubble p k (k - x)) i=if i=x then at0 p k else if x < i∧i≤k then at0 p (i - 1) else at0 p i:=by
   intro i
   rw [qc9 (by exact nL65 hk hsz) (by exact jdh),show k - (k - x)=x by exact wdh r1]
  have hF2:Fix n (bubble p k (k - x)) (k + 1):=by
   refine ⟨(bubble_size ..).trans hsz,fun i hi=>?_⟩;rw [hat];refine ⟨fun h=>?_,fun h=>?_⟩
   ·rw [if_neg (by exact qdh h r1),if_neg (by exact kdh h)]; exact (hF.2 i hi).1 (by exact nL73 h)
   ·split
    ·exact xdh ek
    ·split
     ·have:=(hF.2 (i - 1) (by exact jcb hi)).2 (by exact gdh (by assumption)); exact wcb this
     ·have:=(hF.2 i hi).2 (by exact xcw h r1 (by assumption) (by assumption)); exact wcb this
  have hs2:SP ask (bubble p k (k - x)) (k + 1):=by
   intro i j hij hj;rw [hat,hat]
   by_cases hi:i < x
   ·rw [if_neg (by exact qcb hi),if_neg (by exact zdi hi)]
    by_cases hjx:j=x
    ·rw [if_pos hjx];have h1:=r2 i hi
     cases e:ask (at0 p i) (at0 p k) with
     | true=>exact .inl e
     | false=>exact .inr ⟨e,h1,by rw [ek]; exact (hF.2 i (by exact ydi hi hj hjx hk)).2 (by exact jdi hi hj hjx)⟩
    ·rw [if_neg hjx]
     split
     ·exact hs i (j - 1) (by exact wdi (by assumption) hi) (by exact kcb hj hij)
     ·exact hs i j hij (by exact xcw hj r1 (by assumption) hjx)
   ·by_cases hix:i=x
    ·rw [if_pos hix,if_neg (by exact qdi hij hix),if_pos ⟨by exact gcw hij hix,by exact zcx hj⟩]
     exact .inl (r3 (j - 1) (by exact kdi hij hix) (by exact kcb hj hij))
    ·rw [if_neg hix,if_pos ⟨by exact xdi hi hix,by exact gdi hij hj⟩,if_neg (by exact zdj hij hi),if_pos ⟨by exact ydj hij hi,by exact zcx hj⟩]
     exact hs (i - 1) (j - 1) (by exact jdj hij hi hix) (by exact kcb hj hij)
  obtain ⟨q1,q2,q3⟩:=gci A f (bubble p k (k - x)) (k + 1) (by exact jbr hf) hF2 hs2
  exact ⟨q1,q2,q3.trans (bubble_perm ..)⟩
theorem zbn (n:Nat):Fix n (List.toArray (List.range n)) 0:=by
 refine ⟨by simp,fun k hk=>⟨fun zZ=>?_,fun h=>by exact wdj h⟩⟩
 rw [gy]; simp [hk]
theorem gbh (A:Ask n ask) (hn:1≤n):(krun ask (kas_sort n)).size=n∧(krun ask (kas_sort n)).toList.Perm (List.range n)∧(krun ask (kas_sort n)).toList.Pairwise (bf ask):=by
 unfold kas_sort;rw [j6];refine wrap fun G_ hG_=>?_
 obtain ⟨g1,g2,g3,g4,g5⟩:=ybx A (p:=List.toArray (List.range n)) hn ((zbn n).up (by exact yc3))
 refine hG_ ?_;clear hG_ G_
 generalize krun ask (kas_count n (List.toArray (List.range n)))=r at g1 g2 g3 g4 g5 ⊢
 obtain ⟨m,p⟩:=r;dsimp only at g1 g2 g3 g4 g5 ⊢
 have fin:∀ q:Array Nat,Fix n q n→SP ask q n→q.Perm (List.toArray (List.range n))→q.size=n∧q.toList.Perm (List.range n)∧q.toList.Pairwise (bf ask):=by
  intro q hF hs hp
  refine ⟨hF.1,by simpa using hp.toList,?_⟩
  simp only [List.pairwise_iff_getElem];intro i j hi hj hij
  have hi':i < q.size:=by simpa using hi
  have hj':j < q.size:=by simpa using hj
  have:=hs i j hij (by rw [← hF.1]; exact hj')
  rw [gy,gy] at this
  simpa [hi',hj'] using this
 by_cases hm:m < n
 ·rw [if_pos hm]
  have:max m 1=m:=by exact qdj g1
  rw [this]
  obtain ⟨q1,q2,q3⟩:=gci A (n - m) p m (by exact kdj hm) g3 g4
  exact fin _ q1 q2 (q3.trans g5)
 ·rw [if_neg hm]
  have:m=n:=by exact xdj g2 hm
  clear A hn g2 hm;subst this;exact fin p g3 g4 g5
end
noncomputable def KIn {α:Type} (n:Nat) (ask:Nat→Nat→Bool):KasT α→Prop
 | .ret _=>True
 | .ask i j k=>i < n∧j < n∧KIn n ask (k (ask i j))
theorem KIn.bind {α β:Type} {n:Nat} {ask:Nat→Nat→Bool} {f:α→KasT β}:∀ {t:KasT α},KIn n ask t→KIn n ask (f (krun ask t))→KIn n ask (t.bind f)
 | .ret a,_,h=>h
 | .ask i j k,h,h'=>⟨h.1,h.2.1,KIn.bind h.2.2 h'⟩
theorem zam {α:Type} {n:Nat} {cmp:Nat→Nat→(Bool→Shared→Prop)→Shared→Prop} {ask:Nat→Nat→Bool} {s:Shared} {Q:α→Shared→Prop} (hc:∀ i j C,i < n→j < n→C (ask i j) s→cmp i j C s):∀ t:KasT α,KIn n ask t→Q (krun ask t) s→t.kasWp cmp Q s
 | .ret a,_,h=>h
 | .ask i j k,hk,h=>hc i j _ hk.1 hk.2.1 (zam hc (k (ask i j)) hk.2.2 h)
section
variable {n:Nat} {ask:Nat→Nat→Bool}
noncomputable def k7 (n:Nat) (p:Array Nat):Prop:= ∀ k,at0 p k < n
theorem k7.perm {p q:Array Nat} (h:k7 n p) (hp:q.Perm p):k7 n q:=by
 intro k;rw [gy]
 by_cases hk:k < q.size
 ·have hm:q[k]∈p:=hp.mem_iff.mp (Array.getElem_mem hk);obtain ⟨j,hj,e⟩:=Array.mem_iff_getElem.mp hm;have:=h j;rw [gy] at this;simp only [hj,getElem?_pos,Option.getD_some] at this;simp only [hk,getElem?_pos,Option.getD_some];exact gcw this e
 ·have:=h p.size;rw [gy] at this
  simp at this
  simp [hk]; exact this
theorem jbx {p:Array Nat} (hp:k7 n p):∀ f a,KIn n ask (kas_asc p f a)
 | 0,_=>trivial
 | f + 1,a=>by
  refine ⟨hp a,hp (a - 1),?_⟩;dsimp only
  split
  ·trivial
  ·exact jbx hp f (a + 1)
theorem qa3:∀ (f:Nat) (p:Array Nat) (c q:Nat),k7 n p→KIn n ask (kas_desc f p c q)
 | 0,_,_,_,_=>trivial
 | f + 1,p,c,q,hp=>by
  refine ⟨hp c,hp (c - 1),?_⟩;dsimp only
  split
  ·split
   ·exact qa3 f _ _ _ (hp.perm (yz ..))
   ·exact qa3 f _ _ _ hp
  ·refine ⟨hp (c - 1),hp c,?_⟩;dsimp only
   split
   ·trivial
   ·exact qa3 f _ _ _ hp
theorem wbx {p:Array Nat} (hp:k7 n p) (c m:Nat):KIn n ask (kas_tail3 c m p):=by
 unfold kas_tail3;exact KIn.bind (jbx (hp.perm (yz ..)) _ _) trivial
theorem qa5 {p:Array Nat} (hp:k7 n p) (c m:Nat):KIn n ask (kas_descPart c m p):=by
 unfold kas_descPart;refine KIn.bind (qa3 _ _ _ _ hp) ?_;have hq:=hp.perm (jad (ask:=ask) (m - (c + 1)) p (c + 1) 0)
 split
 ·exact wbx (hq.perm (yz ..)) _ _
 ·exact wbx hq _ _
theorem jcq {p:Array Nat} (hp:k7 n p) (m:Nat):KIn n ask (kas_count m p):=by
 unfold kas_count;refine KIn.bind (jbx hp _ _) ?_
 split
 ·trivial
 ·split
  ·refine ⟨hp 0,hp _,?_⟩;dsimp only
   split
   ·trivial
   ·exact qa5 (hp.perm (yz ..)) _ _
  ·exact qa5 hp _ _
theorem ja9 {p:Array Nat} (hp:k7 n p) (k:Nat):∀ f l r,KIn n ask (kas_place p k f l r)
 | 0,_,_=>trivial
 | f + 1,l,r=>by
  simp only [kas_place]
  split
  ·trivial
  ·refine ⟨hp k,hp _,?_⟩;dsimp only
   split
   ·exact ja9 hp k f _ _
   ·exact ja9 hp k f _ _
theorem zcj:∀ (f:Nat) (p:Array Nat) (k:Nat),k7 n p→KIn n ask (kas_bin f p k)
 | 0,_,_,_=>trivial
 | f + 1,p,k,hp=>by
  simp only [kas_bin];exact KIn.bind (ja9 hp k _ _ _) (zcj f _ _ (hp.perm (bubble_perm ..)))
theorem zb8 (A:Ask n ask) (hn:1≤n):KIn n ask (kas_sort n):=by
 have hp:k7 n (List.toArray (List.range n)):=by
  intro k;rw [gy]
  by_cases hk:k < n <;> simp [hk] <;> exact gdj hn
 unfold kas_sort;refine KIn.bind (jcq hp n) ?_;refine wrap fun G_ hG_=>?_
 obtain ⟨g1,g2,g3,g4,g5⟩:=ybx A (p:=List.toArray (List.range n)) hn ((zbn n).up (by exact yc3))
 refine hG_ ?_;clear hG_ G_
 split
 ·exact zcj _ _ _ (hp.perm g5)
 ·trivial
end
end
section
section
variable {prog:Program} {w:World} {A:Around} {E:Value→Shared→Prop} {s:Shared}
noncomputable def xe (h:Heap) (a:Addr) (vs:List Value):Heap:=((h.update a (Obj.mapSeq fun _ => #[])).push (seqObj "tuple" vs.toArray 0)).push (seqObj "list" #[] 0)
noncomputable def qab (ask:Nat→Nat→Bool) (vs:List Value):List Value:=(krun ask (kas_sort vs.length)).toList.map fun i=>vs.getD i Value.none
noncomputable def gh (h:Heap) (vs:List Value):Heap:=((h.push (seqObj "list" #[] 0)).update h.objs.size (Obj.mapSeq (· ++ vs.toArray))).push (seqObj "list" vs.toArray 0)
end
end
section
variable {K:Glo} {F:Frm}
noncomputable def lexB:List Int→List Int→Bool
 | [],[]=>false
 | [],_ :: _=>true
 | _ :: _,[]=>false
 | a :: as,b :: bs=>if a=b then lexB as bs else decide (a < b)
section
variable {prog:Program} {w:World} {A:Around} {E:Value→Shared→Prop} {s:Shared}
end
noncomputable def qbt (ask:Nat→Nat→Bool) (vs:List V):List V:=(krun ask (kas_sort vs.length)).toList.map fun i=>vs.getD i V.none
theorem qbx {h:Heap} {ρ:List Addr} {vs:List V} {ws:List Value} (r:RepL K h ρ vs ws) {i:Nat} (hi:i < vs.length):Rep K h ρ (vs.getD i V.none) (ws.getD i Value.none):=by
 refine ya (r.get? (List.getElem?_eq_getElem hi)) fun w e q=>?_;have hw:i < ws.length:=(List.getElem?_eq_some_iff.mp e).1;simp only [List.getD_eq_getElem?_getD,List.getD_eq_getElem?_getD,e,List.getElem?_eq_getElem hi];exact q
theorem kbx {h:Heap} {ρ:List Addr} {vs:List V} {ws:List Value} (r:RepL K h ρ vs ws):∀ is:List Nat,(∀ i∈is,i < vs.length)→RepL K h ρ (is.map fun i=>vs.getD i V.none) (is.map fun i=>ws.getD i Value.none)
 | [],_=>RepL.nil
 | i :: is,hi=>RepL.cons (qbx r (hi i List.mem_cons_self)) (kbx r is fun j hj=>hi j (List.mem_cons_of_mem _ hj))
theorem x7:∀ as bs:List Int,lexB as bs=true→lexB bs as=false
 | [],[],h=>by (exfalso; exact nomatch h)
 | [],_ :: _,_=>rfl
 | _ :: _,[],h=>by (injection h)
 | a :: as,b :: bs,h=>by
  unfold lexB at h ⊢
  by_cases hab:a=b
  ·subst hab;simp only [if_true] at h ⊢;exact x7 as bs h
  ·rw [if_neg hab] at h;rw [if_neg (Ne.symm hab)]
   simp at h ⊢; exact ycx h
theorem gas:∀ as bs cs:List Int,lexB bs as=false→lexB cs bs=false→lexB cs as=false
 | [],[],[],_,_=>rfl
 | [],_ :: _,[],_,h=>by (injection h)
 | [],_,_ :: _,_,_=>rfl
 | _ :: _,[],_,h,_=>by (injection h)
 | _ :: _,_ :: _,[],_,h=>by (injection h)
 | a :: as,b :: bs,c :: cs,h1,h2=>by
  unfold lexB at h1 h2 ⊢
  by_cases hab:b=a
  ·subst hab;simp only [if_true] at h1
   by_cases hcb:c=b
   ·subst hcb;simp only [if_true] at h2 ⊢;exact gas as bs cs h1 h2
   ·rw [if_neg hcb] at h2 ⊢;exact h2
  ·rw [if_neg hab] at h1
   by_cases hcb:c=b
   ·subst hcb;rw [if_neg hab]; exact h1
   ·rw [if_neg hcb] at h2
    simp at h1 h2
    rw [if_neg (by lia)]
    simp; exact nL47 h1 h2
theorem qc5 {n:Nat} {ask:Nat→Nat→Bool} (A:Ask n ask) (hn:1≤n):∀ i∈(krun ask (kas_sort n)).toList,i < n:=by
 intro i hi;have:=(gbh A hn).2.1.mem_iff.mp hi
 simpa using this
theorem zat {h:Heap} {ws:List Value}:∀ b o,h.get? b=some o→(xe (gh h ws) (h.objs.size + 1) ws).get? b=some o:=by
 intro b o e;have hlt:b < h.objs.size:=Heap.lt_size e;unfold xe gh;refine Heap.get?_push_of_some _ (Heap.get?_push_of_some _ ?_);rw [Heap.get?_update_ne _ _ _ _ (Nat.ne_of_lt (Nat.lt_succ_of_lt hlt))];refine Heap.get?_push_of_some _ ?_;rw [Heap.get?_update_ne _ _ _ _ (Nat.ne_of_lt hlt)];exact Heap.get?_push_of_some _ e
theorem zbi {h:Heap} {xs:List Value} {out:Array Value}:∀ b o,h.get? b=some o→(sortedAll h xs out).get? b=some o:=by
 intro b o e;have hlt:b < h.objs.size:=Heap.lt_size e;have hne1:b≠h.objs.size:=Nat.ne_of_lt hlt;have hne2:b≠h.objs.size + 1:=Nat.ne_of_lt (Nat.lt_succ_of_lt hlt);unfold sortedAll sortedHeap;rw [Heap.get?_update_ne _ _ _ _ hne2];refine Heap.get?_push_of_some _ (Heap.get?_push_of_some _ ?_);rw [Heap.get?_update_ne _ _ _ _ hne2];refine Heap.get?_push_of_some _ ?_;rw [Heap.get?_update_ne _ _ _ _ hne1];exact Heap.get?_push_of_some _ e
theorem jbp {h:Heap} {xs:List Value} {out:Array Value}:∃ m,IsL (sortedAll h xs out) (h.objs.size + 1) out m:=by
 have hsz:((h.push (seqObj "list" #[] 0)).update h.objs.size (Obj.mapSeq (· ++ xs.toArray))).objs.size=h.objs.size + 1:=by
  rw [Heap.size_update,size_push']
 have hoL:(((h.push (seqObj "list" #[] 0)).update h.objs.size (Obj.mapSeq (· ++ xs.toArray))).push (seqObj "list" xs.toArray 0)).get? (h.objs.size + 1)=some (seqObj "list" xs.toArray 0):=by
  rw [← hsz]; exact Heap.get?_push_size _ rfl
 unfold sortedAll sortedHeap;have h1:=get?_update_seq hoL (fun zZ=>(#[]:Array Value))
 exact ⟨_,get?_update_seq (Heap.get?_push_of_some (seqObj "list" #[] 0) (Heap.get?_push_of_some (seqObj "tuple" xs.toArray 0) h1)) (fun zZ=>out)⟩
end
section
section
variable {prog:Program} {w:World} {A:Around} {E:Value→Shared→Prop} {s:Shared}
theorem qae (a:Addr):Builtin.«list.sort» ⟨[.ref a],[(Str.ofString "reverse",.bool true)]⟩=(do
  let items ← Builtin.List.listItems (.ref a)
  Builtin.List.listUpdate (.ref a) fun zZ => #[]
  let before ← seqEpoch a
  let held ← newTuple items.toList
  let keyStore ← newList []
  holding [held,keyStore] do
   rule "list.sort.reverse"
   let kind ← if items.size < 2 then pure general' else keyKind' items
   let ((),s) ← (if items.size < 2 then pure () else sortRuns').run (SortSt.mk' kind (items.zip items).reverse #[] 7 none)
   let sorted:=(arrOf s).map (·.2)
   let touched:=(← seqEpoch a) != before
   Builtin.List.listUpdate (.ref a) fun zZ=>sorted.reverse
   if let some e:=failedOf s then rule "list.sort.comparison-raised"; throw e
   if touched then rule "list.sort.modified"; raiseError "ValueError" "list modified during sort"
   ret .none):=rfl
theorem ybn (vs:List Value):(vs.toArray.zip vs.toArray).reverse=pairsOf vs.reverse:=by
 apply Array.toList_inj.mp
 rw [pairsOf_toList];simp only [Array.toList_reverse,Array.toList_zip]
 apply List.ext_getElem
 ·simp
 ·intro i h1 h2
  simp [List.getElem_reverse,List.getElem_zip]
theorem qau {a:Addr} {vs:List Value} {n:Nat} {κ:SortKind} {ask:Nat→Nat→Bool} {P:PySem.Fin→Shared→Prop} (ho:s.heap.get? a=some (seqObj "list" vs.toArray n)) (h2:2≤vs.length) (h64:vs.length < 64)
  (hκ:∀ Q:SortKind→Shared→Prop,Q κ {s with heap:=xe s.heap a vs}→wpAny (model prog w) A (keyKind' vs.toArray) Q E {s with heap:=xe s.heap a vs})
  (hA:Ask vs.length ask) (hcmp:∀ i j (C:Bool→Shared→Prop),i < vs.length→j < vs.length→C (ask i j) {s with heap:=xe s.heap a vs}→kas_ask prog w A κ vs.reverse i j C {s with heap:=xe s.heap a vs})
  (h:P (.done (.ret .none)) {s with heap:=sortedHeap s.heap a vs (qab ask vs.reverse).reverse.toArray}) :
  wpAny (model prog w) A (Builtin.«list.sort» ⟨[.ref a],[(Str.ofString "reverse",.bool true)]⟩) P E s:=by
 rw [qae];have ha:a < s.heap.objs.size:=Heap.lt_size ho;refine wpAny_bind (listItems_at ho rfl ?_)
 refine wpAny_bind (listUpdate_at ho rfl ?_ (by simp only [List.size_toArray,sizeLine_eq]; exact jcx h64) (Nat.zero_le _))
 obtain ⟨e1,ho1⟩ : ∃ e1,(s.heap.update a (Obj.mapSeq fun zZ=>(#[]:Array Value))).get? a=some (seqObj "list" #[] e1):=⟨_,get?_update_seq ho (fun zZ => #[])⟩
 refine wpAny_bind (seqEpoch_at ho1 rfl ?_)
 refine wpAny_bind (wpAny_newTuple ?_ (by show vs.length≤_; rw [sizeLine_eq]; exact jcx h64))
 refine wpAny_bind (wpAny_newList ?_ (Nat.zero_le _));refine wpAny_holding ?_
 have ho6:(xe s.heap a vs).get? a=some (seqObj "list" #[] e1):=by
  unfold xe
  rw [Heap.get?_push_ne _ _ _ (by rw [size_push',Heap.size_update]; exact Nat.ne_of_lt (Nat.lt_succ_of_lt ha)),Heap.get?_push_ne _ _ _ (by rw [Heap.size_update]; exact Nat.ne_of_lt ha)]
  exact ho1
 show wpAny (model prog w) A _ P E {s with heap:=xe s.heap a vs}
 dsimp only;refine wpAny_bind (wpAny_rule ?_)
 have hn2:¬ vs.toArray.size < 2:=by rw [List.size_toArray]; exact zdk h2
 rw [if_neg hn2,if_neg hn2];refine wpAny_bind (hκ _ ?_);have hrl:vs.reverse.length=vs.length:=List.length_reverse
 have est:SortSt.mk' κ (vs.toArray.zip vs.toArray).reverse #[] 7 none=kas_st κ (pairsOf vs.reverse) (List.toArray (List.range vs.reverse.length)):=by
  have e:=kas_range (pairsOf vs.reverse);rw [pairsOf_size] at e;show SortSt.mk' κ _ #[] 7 none=SortSt.mk' κ ((List.toArray (List.range vs.reverse.length)).map (kas_item (pairsOf vs.reverse))) #[] 7 none;rw [e,ybn]
 have run:=kas_runs (prog:=prog) (w:=w) (A:=A) (κ:=κ) (it:=pairsOf vs.reverse) (E:=E) (n:=vs.reverse.length) (s:={s with heap:=xe s.heap a vs}) (Q:=fun zZ st' s'=>s'={s with heap:=xe s.heap a vs}∧∃ p:Array Nat,p=krun ask (kas_sort vs.reverse.length)∧p.size=vs.reverse.length∧arrOf st'=p.map (kas_item (pairsOf vs.reverse))∧failedOf st'=none)
  (G:=fun p s'=>s'={s with heap:=xe s.heap a vs}∧p=krun ask (kas_sort vs.reverse.length)) (by exact ydk h2 hrl) (by exact jdk hrl h64) (fun p' st' s' a1 a2 a3 a4=>⟨a4.1,p',a4.2,a1,a2,a3⟩)
  (zam (n:=vs.length) (ask:=ask) (fun i j C hi hj hC=>by have:=hcmp i j C hi hj hC; rw [kas_ask_eq] at this; exact this) _ (by rw [hrl]; exact zb8 hA (by exact wdk h2)) ⟨rfl,rfl⟩)
 rw [← est] at run;refine wpAny_bind (wpAny_mono run ?_ fun zZ zZ e=>e)
 rintro ⟨⟨⟩,st'⟩ s' ⟨rfl,p,rfl,hp,har,hf⟩
 dsimp only
 have hout:((arrOf st').map (·.2)).reverse=(qab ask vs.reverse).reverse.toArray:=by
  apply Array.toList_inj.mp
  rw [Array.toList_reverse,har,Array.map_map,Array.toList_map]
  congr 1
  exact List.map_congr_left fun i zZ=>by show (kas_item (pairsOf vs.reverse) i).2=_; rw [kas_item_eq]
 rw [hout]
 have hsz:(qab ask vs.reverse).reverse.toArray.size=vs.length:=by rw [List.size_toArray,List.length_reverse]; unfold qab; rw [List.length_map,Array.length_toList,hp,hrl]
 refine wpAny_bind (seqEpoch_at ho6 rfl ?_)
 refine wpAny_bind (listUpdate_at ho6 rfl ?_ (Nat.zero_le _) (by rw [hsz,sizeLine_eq]; exact qdk h64))
 rw [hf];simp only [bne_self_eq_false,Bool.false_eq_true,if_false];exact wpAny_pure h
theorem wad (a:Value):argsOk "list.sort" ⟨[a],[(Str.ofString "reverse",.bool true)]⟩:=by unfold argsOk; kernel_rfl
end
end
section
variable {K:Glo} {F:Frm}
section
variable {prog:Program} {w:World} {A:Around} {E:Value→Shared→Prop} {s:Shared}
theorem jbn {vs:List Value}:((vs.toArray.zip vs.toArray).map (·.2))=vs.toArray:=by
 apply Array.toList_inj.mp
 simp only [Array.toList_map,Array.toList_zip];exact List.map_snd_zip (Nat.le_refl _)
theorem xbx (k:SortKind) (a:Array Keyed):arrOf (SortSt.mk' k a #[] 7 none)=a:=rfl
theorem jal {vs:List Value} (h:vs.length < 2):vs.reverse=vs:=by
 rcases vs with _ | ⟨a,_ | ⟨b,l⟩⟩
 ·rfl
 ·rfl
 ·exact absurd h (by simp only [List.length_cons,List.length_cons]; exact Nat.not_lt.mpr (Nat.le_add_left 2 _))
theorem qbd {a:Addr} {vs:List Value} {n:Nat} {P:PySem.Fin→Shared→Prop} (ho:s.heap.get? a=some (seqObj "list" vs.toArray n)) (h2:vs.length < 2)
  (h:P (.done (.ret .none)) {s with heap:=sortedHeap s.heap a vs vs.toArray}) (kw:List (Str×Value)) (hkw:kw=[]∨kw=[(Str.ofString "reverse",.bool true)]) :
  wpAny (model prog w) A (Builtin.«list.sort» ⟨[.ref a],kw⟩) P E s:=by
 have ha:a < s.heap.objs.size:=Heap.lt_size ho
 obtain ⟨e1,ho1⟩ : ∃ e1,(s.heap.update a (Obj.mapSeq fun zZ=>(#[]:Array Value))).get? a=some (seqObj "list" #[] e1):=⟨_,get?_update_seq ho (fun zZ => #[])⟩
 have ho6:(xe s.heap a vs).get? a=some (seqObj "list" #[] e1):=by
  unfold xe
  rw [Heap.get?_push_ne _ _ _ (by rw [size_push',Heap.size_update]; exact Nat.ne_of_lt (Nat.lt_succ_of_lt ha)),Heap.get?_push_ne _ _ _ (by rw [Heap.size_update]; exact Nat.ne_of_lt ha)]
  exact ho1
 have hn2:vs.toArray.size < 2:=by rw [List.size_toArray]; exact h2
 rcases hkw with rfl | rfl
 ·rw [list_sort_plain];refine wpAny_bind (listItems_at ho rfl ?_)
  refine wpAny_bind (listUpdate_at ho rfl ?_ (by simp only [List.size_toArray,sizeLine_eq]; exact wbr h2) (Nat.zero_le _))
  refine wpAny_bind (seqEpoch_at ho1 rfl ?_)
  refine wpAny_bind (wpAny_newTuple ?_ (by show vs.length≤_; rw [sizeLine_eq]; exact wbr h2))
  refine wpAny_bind (wpAny_newList ?_ (Nat.zero_le _));refine wpAny_holding ?_
  show wpAny (model prog w) A _ P E {s with heap:=xe s.heap a vs}
  dsimp only;rw [if_pos hn2,if_pos hn2];refine wpAny_bind (wpAny_pure ?_);simp only [StateT.run_pure];refine wpAny_bind (wpAny_pure ?_);dsimp only;simp only [xbx];rw [jbn];refine wpAny_bind (seqEpoch_at ho6 rfl ?_)
  refine wpAny_bind (listUpdate_at ho6 rfl ?_ (Nat.zero_le _) (by rw [List.size_toArray,sizeLine_eq]; exact wcx h2))
  simp only [bne_self_eq_false,Bool.false_eq_true,if_false];exact wpAny_pure h
 ·rw [qae];refine wpAny_bind (listItems_at ho rfl ?_)
  refine wpAny_bind (listUpdate_at ho rfl ?_ (by simp only [List.size_toArray,sizeLine_eq]; exact wbr h2) (Nat.zero_le _))
  refine wpAny_bind (seqEpoch_at ho1 rfl ?_)
  refine wpAny_bind (wpAny_newTuple ?_ (by show vs.length≤_; rw [sizeLine_eq]; exact wbr h2))
  refine wpAny_bind (wpAny_newList ?_ (Nat.zero_le _));refine wpAny_holding ?_
  show wpAny (model prog w) A _ P E {s with heap:=xe s.heap a vs}
  dsimp only;refine wpAny_bind (wpAny_rule ?_);rw [if_pos hn2,if_pos hn2];refine wpAny_bind (wpAny_pure ?_);simp only [StateT.run_pure];refine wpAny_bind (wpAny_pure ?_);dsimp only
  have e:((vs.toArray.zip vs.toArray).reverse.map (·.2)).reverse=vs.toArray:=by
   rw [ybn,jal h2];show ((vs.toArray.zip vs.toArray).map (·.2)).reverse=_;rw [jbn]
   apply Array.toList_inj.mp
   rw [Array.toList_reverse];exact jal h2
  simp only [xbx];rw [e];refine wpAny_bind (seqEpoch_at ho6 rfl ?_)
  refine wpAny_bind (listUpdate_at ho6 rfl ?_ (Nat.zero_le _) (by rw [List.size_toArray,sizeLine_eq]; exact wcx h2))
  simp only [bne_self_eq_false,Bool.false_eq_true,if_false];exact wpAny_pure h
end
section
variable {prog:Program} {w:World} {A:Around} {E:Value→Shared→Prop} {s:Shared}
end
theorem y5 {α:Type} {d:α} {xs:List α} {i:Nat} (h:i < xs.length):xs.reverse.getD i d=xs.getD (xs.length - 1 - i) d:=by
 simp [List.getD_eq_getElem?_getD,List.getElem?_reverse h]
theorem yam (x:Str) (np pos:Pos) (args:List Expr) (kws:List Keyword) (env:Env):eval (.Call (.Name x np) args kws pos) env=(do callWith pos (← eval (.Name x np) env) [] (backTo pos (starEach args env)) (backToKw pos (keywordEach kws env))):=rfl
end
section
variable {K:Glo} {F:Frm}
noncomputable def sumB:List V→M V
 | [.obj l]=>fun σ=>match σ.st[l]? with
  | some (.lst vs)=>match y3 vs with
   | some ns=>.ok (.int ns.sum) σ
   | none=>.stuck
  | _=>.stuck
 | _=>stuck
theorem kbd:∀ {ws:List Value} {ns:List Int},IntsAre ws ns→∃ xs:List (Int×Tok),ws=xs.map (fun p=>Value.int p.1 p.2)∧ns=xs.map (·.1)
 | _,_,.nil=>(ja ([]) rfl rfl)
 | _,_,.cons n t r=>by
  refine ya (kbd r) fun xs e1 e2=>?_
  exact (ja ((n,t) :: xs) (by simp [e1]) (by simp [e2]))
theorem yb5 (xs:List (Int×Tok)):preSum (numAt xs.toArray) xs.toArray.size=(xs.map (·.1)).sum:=by
 rw [preSum_eq,List.take_of_length_le (by simp)]
theorem wal:wt K (.builtin "sum") sumB:=by
 intro F fk hnh σ ρ s vs ws rel r;unfold sumB
 split
 ·rename_i l;refine yc (RepL.cons_iff.mp r) fun x r' o_159 r1 r2=>?_;obtain rfl:=o_159;obtain rfl:=RepL.nil_iff.mp r2
  cases hl:σ.st[l]? with
  | none=>exact Run.stuck
  | some c=>
   cases c with
   | set _=>exact Run.stuck
   | itr _ _ _=>exact Run.stuck
   | opq=>exact Run.stuck
   | tab=>exact Run.stuck
   | clo _ _=>exact Run.stuck
   | lst us=>
    dsimp only
    cases hi:y3 us with
    | none=>exact Run.stuck
    | some ns=>
     refine zh (rel.list r1 hl) fun a xs n o_160 hρ hL hr hn=>?_;clear r1 r;obtain rfl:=o_160;refine ya (kbd (qaf hr hi)) fun ps e1 e2=>?_
     have hl':s.heap.IsList a (intItems ps.toArray):=by
      have e:intItems ps.toArray=xs.toArray:=by rw [e1]; unfold intItems; simp
      rw [e]; exact hL.isList
     refine Run.ok (sum_intListG (fk.hd hnh) hl' fun h' tk t' hk=>(gc ρ (rel.kept hk rfl rfl) (Ext.kept hk) ?_));rw [yb5,← e2];exact Rep.int ..
 ·exact Run.stuck
noncomputable def ka3:V→V→M V
 | .int a,b=>mulV (.int a) b
 | .obj l,.int k=>fun σ=>match σ.st[l]? with
  | some (.lst xs)=>if 0≤k∧k < 1000∧xs.length < 1000 then .ok (.obj σ.st.length) {σ with st:=σ.st ++ [.lst (List.replicate k.toNat xs).flatten]} else .stuck
  | _=>.stuck
 | _,_=>fun _=>.stuck
theorem gbx {h:Heap} {ρ:List Addr} {vs:List V} {ws:List Value} (r:RepL K h ρ vs ws):∀ n:Nat,RepL K h ρ (List.replicate n vs).flatten (List.replicate n ws).flatten
 | 0=>RepL.nil
 | n + 1=>by
  rw [List.replicate_succ,List.replicate_succ,List.flatten_cons,List.flatten_cons];exact r.append (gbx r n)
theorem zby:qak K .Mult ka3:=by
 intro F fk σ ρ s a b wa wb rel ra rb
 cases a with
 | int i=>exact ya3 F fk σ ρ s (.int i) b wa wb rel ra rb
 | obj l=>
  cases b with
  | int k=>
   refine qb (Rep.int_iff.mp rb) fun u o_161=>?_;obtain rfl:=o_161;unfold ka3;dsimp only
   cases hl:σ.st[l]? with
   | none=>exact Run.stuck
   | some c=>
    cases c with
    | set _=>exact Run.stuck
    | itr _ _ _=>exact Run.stuck
    | opq=>exact Run.stuck
    | tab=>exact Run.stuck
    | clo _ _=>exact Run.stuck
    | lst xs=>
     dsimp only
     by_cases hz:0≤k∧k < 1000∧xs.length < 1000
     ·rw [if_pos hz];refine zh (rel.list ra hl) fun x ws n o_162 hρ hL hr hn=>?_;obtain rfl:=o_162;have hwl:ws.length=xs.length:=hr.length
      have hmul:ws.length * k.toNat≤1000000:=by
       have:ws.length * k.toNat≤1000 * 1000:=Nat.mul_le_mul (by lia) (by lia)
       exact kdk this
      have hbig:(List.replicate k.toNat xs).flatten.length≤1000000:=by
       rw [List.length_flatten,List.map_replicate,List.sum_replicate_nat,Nat.mul_comm,← hwl]; exact hmul
      refine Run.ok (wpAny_binaryOp_repeat_ref (T:= "list") (U:= "int") (by decide) ⟨_,hL,rfl⟩ (fun s'=>typeIs_int s' k u) noFill_list_mul PySem.F.fills_int_mul PySem.F.slot_int_rmul repeat_list PySem.F.slot_int_index.lookup
       (call_meets PySem.F.slot_int_rmul (typeIs_int s k u) PySem.F.entry_int_rmul (PySem.F.args_int_rmul_2 _ _) (lm_int_rmul_list_any k u x ws.toArray n none #[])
        ⟨hL,rfl,⟨_,hL,rfl⟩,call_meets PySem.F.slot_list_mul ⟨_,hL,rfl⟩ PySem.F.entry_list_mul (PySem.F.args_list_mul_2 _ _)
         (lm_list_mul_any x ws.toArray n none #[] k u (by simp [Builtin.List.listFitsIndex]; omega) (by simp only [List.size_toArray]; lia) (by simp [Builtin.List.listTooLong,sizeLine]; exact nL3 hmul))
         ⟨hL,?_⟩⟩))
      rw [listMul_foldl_if]
      refine kd (rel.newList (o:={cls:= .type "list",data:= .seq (List.replicate k.toNat ws).flatten.toArray}) rfl (gbx hr k.toNat) hbig s.toks) fun rel' x'=>?_
      exact (gc _ rel' x' (Rep.obj_iff.mpr (ja _ (by rw [← rel.len,List.getElem?_concat_length]) rfl)))
     ·rw [if_neg hz]; exact Run.stuck
  | _=>exact Run.stuck
 | _=>exact Run.stuck
end
section
variable {K:Glo} {F:Frm}
open PySem.SeqAt PySem.MeetsSeq PySem.MeetsSeq3
noncomputable def gtD:PyData→PyData→Option Bool
 | .int i,y=>match y with
  | .int j=>some (decide (j < i))
  | _=>none
 | _,_=>none
noncomputable def GtAt (A:Around) (s:Shared) (y x:Value) (b:Bool):Prop :=
 ∀ (prog:Program) (w:World) (E:Value→Shared→Prop) (Q:Value→Shared→Prop),Q (.bool b) s→wpAny (model prog w) A (richCompare .Gt y x) Q E s
theorem kc9 {da db:PyData} {A:Around} {s:Shared} {a b:Value} {as bs:List Addr} {r:Bool} (ra:Reads s.heap a da as) (rb:Reads s.heap b db bs) (e:gtD da db=some r):GtAt A s a b r:=by
 cases ra with
 | int i t=>
  cases rb with
  | int j u=>cases e; exact fun prog w E Q h=>gt_int h
  | _=>cases e
 | _=>cases e
end
section
variable {K:Glo} {F:Frm}
noncomputable def zao (cd:PyData→PyData→Option Bool) (ds:List PyData):Bool:=ds.all fun a=>ds.all fun b=>(cd a b).isSome
noncomputable def btOf (cd:PyData→PyData→Option Bool) (ds:List PyData) (i j:Nat):Bool:=match ds[i]?,ds[j]? with
 | some a,some b=>(cd a b).getD false
 | _,_=>false
theorem qce {cd:PyData→PyData→Option Bool} {ds:List PyData} {i j:Nat} {a b:PyData} (h:zao cd ds=true) (h1:ds[i]?=some a) (h2:ds[j]?=some b):∃ r,cd a b=some r:=by
 have:=(List.all_eq_true.mp ((List.all_eq_true.mp h) a (List.mem_of_getElem? h1))) b (List.mem_of_getElem? h2);exact Option.isSome_iff_exists.mp this
theorem yby {α β:Type} {f:α→Option β}:∀ {vs:List α} {ds:List β} {i:Nat} {v:α},mapO f vs=some ds→vs[i]?=some v→∃ d,ds[i]?=some d∧f v=some d
 | [],_,_,_,_,h=>by simp at h
 | u :: vs,ds,i,v,hd,h=>by
  unfold mapO at hd
  cases e1:f u with
  | none=>rw [e1] at hd; simp at hd
  | some d=>
   cases e2:mapO f vs with
   | none=>rw [e1,e2] at hd; simp at hd
   | some ds'=>
    rw [e1,e2] at hd;simp only [Option.some.injEq] at hd;subst hd
    cases i with
    | zero=>simp at h; subst h; exact (ja d (by simp) e1)
    | succ i=>
     refine ya (yby (i:=i) e2 (by simpa using h)) fun d' h1 h2=>?_
     exact (ja d' (by simpa using h1) h2)
section
variable {prog:Program} {w:World} {A:Around} {R:Result→Shared→Prop} {I:Addr} {fp wr:List Addr} {n:Nat} {P:Nat→Value→Prop} {St:Nat→Heap→Prop} {h₀:Heap}
end
section
variable {prog:Program} {w:World} {A:Around} {E:Value→Shared→Prop} {s:Shared}
end
section
end
section
variable {prog:Program} {w:World} {A:Around} {R:Result→Shared→Prop} {I:Addr} {fp wr:List Addr} {n:Nat} {P:Nat→Value→Prop} {St:Nat→Heap→Prop} {h₀:Heap}
end
section
variable {prog:Program} {w:World} {A:Around} {E:Value→Shared→Prop} {s:Shared}
end
section
end
end
section
variable {K:Glo} {F:Frm}
noncomputable def Glo.adds (K:Glo) (ow:List Addr):Glo:={K with own:=ow ++ K.own}
mutual
theorem Rep.adds {h:Heap} {ρ:List Addr} {ow:List Addr} (h0:∀ t∈ow,h.get? t=none):∀ {v:V} {w:Value},Rep K h ρ v w→Rep (K.adds ow) h ρ v w
 | .none,_,r=>by simpa only [Rep] using r
 | .bool _,_,r=>by simpa only [Rep] using r
 | .int _,_,r=>by simpa only [Rep] using r
 | .str _,_,r=>by simpa only [Rep] using r
 | .tup vs,w,r=>by
  refine yaf (Rep.tup_iff.mp r) fun hl a ws e t r q=>?_;refine Rep.tup_iff.mpr (x6 hl a ws e t (RepL.adds h0 r) (fun hm=>?_))
  rcases List.mem_append.mp hm with hm | hm
  ·refine ya t fun o e1 zZ=>?_
   try clear t
   rw [h0 a hm] at e1; (injection e1)
  ·exact q hm
 | .obj l,w,r=>by simpa only [Rep] using r
 | .fn x,_,r=>by simp only [Rep] at r ⊢; exact r
 | .rng _ _ _,_,r=>by simpa only [Rep] using r
theorem RepL.adds {h:Heap} {ρ:List Addr} {ow:List Addr} (h0:∀ t∈ow,h.get? t=none):∀ {vs:List V} {ws:List Value},RepL K h ρ vs ws→RepL (K.adds ow) h ρ vs ws
 | [],_,r=>by simpa only [RepL] using r
 | v :: vs,ws,r=>by
  refine yc (RepL.cons_iff.mp r) fun x r' e r1 r2=>?_;exact RepL.cons_iff.mpr (gk x r' e (Rep.adds h0 r1) (RepL.adds h0 r2))
end
mutual
theorem Rep.drop {h:Heap} {ρ:List Addr} {ow:List Addr}:∀ {v:V} {w:Value},Rep (K.adds ow) h ρ v w→Rep K h ρ v w
 | .none,_,r=>by simpa only [Rep] using r
 | .bool _,_,r=>by simpa only [Rep] using r
 | .int _,_,r=>by simpa only [Rep] using r
 | .str _,_,r=>by simpa only [Rep] using r
 | .tup vs,w,r=>by
  refine yaf (Rep.tup_iff.mp r) fun hl a ws e t r q=>?_;exact Rep.tup_iff.mpr (x6 hl a ws e t (RepL.drop' r) (fun hm=>q (List.mem_append_right _ hm)))
 | .obj l,w,r=>by simpa only [Rep] using r
 | .fn x,_,r=>by simp only [Rep] at r ⊢; exact r
 | .rng _ _ _,_,r=>by simpa only [Rep] using r
theorem RepL.drop' {h:Heap} {ρ:List Addr} {ow:List Addr}:∀ {vs:List V} {ws:List Value},RepL (K.adds ow) h ρ vs ws→RepL K h ρ vs ws
 | [],_,r=>by simpa only [RepL] using r
 | v :: vs,ws,r=>by
  refine yc (RepL.cons_iff.mp r) fun x r' e r1 r2=>?_;exact RepL.cons_iff.mpr (gk x r' e (Rep.drop r1) (RepL.drop' r2))
end
theorem jw.map {K K':Glo} {h:Heap} {ρ:List Addr} {cl:List (Str×Addr)} (f:∀ v w,Rep K h ρ v w→Rep K' h ρ v w):∀ {xs:List String} {vs:List V},jw K h ρ cl xs vs→jw K' h ρ cl xs vs
 | [],_,x=>x
 | _ :: _,_,⟨v,r,c,w,e1,e2,e3,e4,e5⟩=>(jk v r c w e1 e2 e3 (f _ _ e4) (jw.map f e5))
theorem qk.adds {h:Heap} {ρ:List Addr} {ow:List Addr} (h0:∀ t∈ow,h.get? t=none) {c:Cel} {a:Addr} (x:qk K h ρ c a):qk (K.adds ow) h ρ c a:=by
 cases c with
 | lst vs=>obtain ⟨h1,ws,n,h2,h3⟩:=x; exact (w8 h1 ws n h2 (h3.adds h0))
 | clo k cap=>obtain ⟨cl,pm,c,ct,e,e1,e2,e3⟩:=x; exact (zp cl pm c ct e e1 e2 (e3.map fun zZ zZ r=>r.adds h0))
 | _=>exact x
theorem qk.drop {h:Heap} {ρ:List Addr} {ow:List Addr} {c:Cel} {a:Addr} (x:qk (K.adds ow) h ρ c a):qk K h ρ c a:=by
 cases c with
 | lst vs=>obtain ⟨h1,ws,n,h2,h3⟩:=x; exact (w8 h1 ws n h2 h3.drop')
 | clo k cap=>obtain ⟨cl,pm,c,ct,e,e1,e2,e3⟩:=x; exact (zp cl pm c ct e e1 e2 (e3.map fun zZ zZ r=>r.drop))
 | _=>exact x
theorem GRel.drop {st:gb} {ρ:List Addr} {s:Shared} {ow:List Addr} (g:GRel (K.adds ow) st ρ s):GRel K st ρ s :=
 ⟨g.gens,g.os,g.base,g.len,fun l a c h1 h2=>(g.cell l a c h1 h2).drop,g.nodup,g.above,fun a ha=>g.own a (List.mem_append_right _ ha)⟩
theorem GRel.adds {st:gb} {ρ:List Addr} {s s':Shared} {ow:List Addr} (g:GRel K st ρ s) (h0:∀ t∈ow,s.heap.get? t=none) (hk:∀ b o,s.heap.get? b=some o→s'.heap.get? b=some o)
  (hg:s'.gens=s.gens) (ho:s'.os=s.os) (ht:∀ t∈ow,∃ o,s'.heap.get? t=some o∧o.cls = .type "tuple" ∧ ∃ xs n,o.data = .seq xs n):GRel (K.adds ow) st ρ s' where
 gens:=hg.trans g.gens
 os:=ho.trans g.os
 base:=fun b o e=>hk _ _ (g.base b o e)
 len:=g.len
 cell:=fun l a c h1 h2=>((g.cell l a c h1 h2).adds h0).mono (List.prefix_refl _) (zl hk) (fun zZ e zZ=>hk _ _ e) fun zZ zZ n=>n.keeps hk
 nodup:=g.nodup
 above:=g.above
 own:=fun a ha=>by
  rcases List.mem_append.mp ha with ha | ha
  ·exact ht a ha
  ·refine ya (g.own a ha) fun o e r=>?_; exact (ja o (hk _ _ e) r)
theorem Rel.adds {σ:S} {ρ:List Addr} {s s':Shared} {ow:List Addr} (r:Rel K F σ ρ s) (h0:∀ t∈ow,s.heap.get? t=none) (hk:∀ b o,s.heap.get? b=some o→s'.heap.get? b=some o)
  (hg:s'.gens=s.gens) (ho:s'.os=s.os) (ht:∀ t∈ow,∃ o,s'.heap.get? t=some o∧o.cls = .type "tuple" ∧ ∃ xs n,o.data = .seq xs n):Rel (K.adds ow) F σ ρ s' :=
 have r':=r.kept hk hg ho
 {toGRel:=r.toGRel.adds h0 hk hg ho ht
  vars:=fun x v e=>by
   refine ya (r.vars x v e) fun w h1 h2=>?_;exact (ja w (h1.mono (fun m n=>n.keeps hk) (fun c u zZ n=>n.keeps hk)) (Rep.mono' (List.prefix_refl _) (zl hk) (h2.adds h0)))
  loc:=r'.loc,cels:=r'.cels,mineAbove:=r'.mineAbove,mineApart:=r'.mineApart,mineLoc:=r'.mineLoc,frs:=r'.frs}
end
section
variable {K:Glo} {F:Frm}
noncomputable def zj (free:List String) (mc:Nat→(Nat→M (Option V))→M Unit) (nx:Nat→M (Option V)):M V:=fun σ=>match mc σ.st.length nx ⟨σ.st ++ [.lst []],jo free σ.lo⟩ with
  | .ok _ σ'=>.ok (.obj σ.st.length) ⟨σ'.st,σ.lo⟩
  | .exc _ _=>.stuck
  | .stuck=>.stuck
noncomputable def kce (K:Glo) (F:Frm) (target e:Expr) (mi:M (Nat→M (Option V))):Prop:= ∀ σ ρ s,Rel K F σ ρ s→mi σ≠.stuck→
 wpAny (model K.prog K.w) F.A (eval e F.env) (fun x s₁=>wpAny (model K.prog K.w) F.A (pyIter x) (fun it s₂ => ∃ I nx σ₁ s₁' ρ₁ fp St ow,it = .ref I∧mi σ = .ok nx σ₁∧Rel K F σ₁ ρ₁ s₁'∧Ext F.mine ρ ρ₁ s.heap s₁'.heap∧
  Rel (K.adds ow) F σ₁ ρ₁ s₂∧Ext [] ρ₁ ρ₁ s₁'.heap s₂.heap∧(∀ b∈fp,s₁'.heap.get? b=none)∧(∀ F':Frm,FOk F'→F'.nh=true→GIter (K.adds ow) F' target I fp St nx ρ₁ s₁'.heap)∧St 0 s₂.heap) (EO K F (mi σ) ρ s.heap) s₁) (EO K F (mi σ) ρ s.heap) s
noncomputable def jam (K:Glo) (F:Frm) (elt target:Expr) (gens:List Comprehension) (scope:Scope) (pos:Pos) (d:Nat) (m:Nat→(Nat→M (Option V))→M Unit):Prop :=
 ∀ (l:Nat) (a:Addr) (I:Addr) (fp:List Addr) (St:Nat→Heap→Prop) (nx:Nat→M (Option V)) σ ρ ρ₀ s h₀,GIter K F target I fp St nx ρ₀ h₀→Rel K F σ ρ s→ρ[l]?=some a→Ext F.mine ρ₀ ρ h₀ s.heap→(∀ b∈fp,h₀.get? b=none)→(∀ b∈fp,K.base.get? b=none)→
  (∀ b∈fp,b∉F.mine)→(∀ b∈fp,b∉ρ)→St 0 s.heap→m l nx σ≠.stuck→
  codeAny (model K.prog K.w) F.A (.compStart (.ListComp elt gens scope pos) d (.ref I) (.ref a) F.env) (fun r s'=>match r with
   | .ok _ => ∃ σ' ρ',m l nx σ = .ok () σ'∧Rel K F σ' ρ' s'∧Ext F.mine ρ₀ ρ' h₀ s'.heap∧ρ'[l]?=some a
   | .error v=>EO K F (m l nx σ) ρ₀ h₀ v s') s
noncomputable def xw (n:Nat) (t:V→M Unit) (c:M Bool) (mi:M Unit) (nx:Nat→M (Option V)):M Unit:=do
 let _ ← forN nx t (jl c mi) n 0
 pure ()
theorem ka5 {elt target iter:Expr} {ifs:List Expr} {gens:List Comprehension} {scope:Scope} {pos:Pos} {d:Nat} {test:Option Expr} {inner:Value→Sem Unit} {t:V→M Unit} {c:M Bool} {mi:Nat→M Unit} (n:Nat)
  (hg:gens[d]?=some ⟨target,iter,ifs,0⟩)
  (hto:∀ acc,kan (.ListComp elt gens scope pos) d F.env acc target test (inner acc)) (ht:SimT K F target t) (hc:gag K F test c) (hin:∀ l a,SimA K F l a (inner (.ref a)) (mi l)) :
  jam K F elt target gens scope pos d (fun l nx=>xw n t c (mi l) nx):=by
 intro l a I fp St nx σ ρ ρ₀ s h₀ hI rel hla x₀ h0 hb hm hρ hs hne
 have hne':forN nx t (jl c (mi l)) n 0 σ≠.stuck:=fun e=>hne (by show xw n t c (mi l) nx σ=_; unfold xw; rw [M.bind_def,e])
 refine yad hg ?_ (fun Q E q=>hI.self s _ Q E hs q);refine codeAny_mono (wau qas (hto _) ht hc (hin l a) hI rel hla x₀ h0 hb hm hρ hs n hne') fun r s' h=>?_
 cases r with
 | ok f=>
  refine ze h fun f' σ' ρ' e r1 r2 r4=>?_
  try clear h
  exact (zn σ' ρ' (by show xw n t c (mi l) nx σ=_; unfold xw; rw [M.bind_def,e]; rfl) r1 r2 r4)
 | error v=>
  refine ze h fun x σ' ρ' e r1 r2 r3=>?_
  try clear h
  exact (zd x σ' ρ' (by show xw n t c (mi l) nx σ=_; unfold xw; rw [M.bind_def,e]) r1 r2 r3)
theorem wcq (fk:FOk F) {elt target iter:Expr} {ifs:List Expr} {gs:List Comprehension} {scope:Scope} {pos fpos:Pos} {cl:List (Str×Addr)} {free:List String} {mi:M (Nat→M (Option V))} {mc:Nat→(Nat→M (Option V))→M Unit}
  {use:Option (Value→Sem Unit)} {Q:Value→Shared→Prop} {E:Value→Shared→Prop} (hs:∀ x,foldedSetIterable iter F.env x=pure x) (ck:CompOk F scope cl free) (hi:kce K F target iter mi)
  (hc:∀ ow C,jam (K.adds ow) (j0 F scope cl C) elt target (⟨target,iter,ifs,0⟩ :: gs) scope pos 0 mc) {σ:S} {ρ:List Addr} {s:Shared} (rel:Rel K F σ ρ s) (hne:(mi >>= zj free mc) σ≠.stuck) (hnh:F.nh=true)
  (hQ:∀ v σ' ρ' s' w C m,(mi >>= zj free mc) σ = .ok v σ'→Rel K F σ' ρ' s'→Ext F.mine ρ ρ' s.heap s'.heap→Rep K s'.heap ρ' v w→s'.heap.Ns C m→C∉F.mine→C∉ρ'→K.base.get? C=none→s.heap.get? C=none→
   compPost (model K.prog K.w) F.A E use Q w C (.ok .next) s')
  (hE:∀ v s',EO K F ((mi >>= zj free mc) σ) ρ s.heap v s'→E v s') :
  wpAny (model K.prog K.w) F.A (comprehension (.ListComp elt (⟨target,iter,ifs,0⟩ :: gs) scope pos) scope F.env fpos (newList []) false (eval iter F.env) use) Q E s:=by
 refine wpAny_comprehension_free (use:=use) rfl hs ck.clos ck.kind ck.names ?_
 have hne0:mi σ≠.stuck:=fun e=>hne (by rw [M.bind_def,e])
 have hEx:∀ v s',EO K F (mi σ) ρ s.heap v s'→E v s':=by
  rintro v s' ⟨x,σ',ρ',e1,r1,r2,r3⟩
  exact hE v s' ⟨x,σ',ρ',by rw [M.bind_def,e1],r1,r2,r3⟩
 refine wpAny_mono (hi σ ρ s rel hne0) (fun x s₁ h₁=>wpAny_mono h₁ (fun it s₂ h₂=>?_) hEx) hEx;refine wrap fun G_ hG_=>?_;obtain ⟨I,nx,σ₁,s₁',ρ₁,fp,St,ow,o_175,e1,rel₀,x₁,rel₁,x₁₂,hfp,hIt,hsrc⟩:=h₂;refine hG_ ?_;clear hG_ G_;obtain rfl:=o_175;have e2:(mi >>= zj free mc) σ=zj free mc nx σ₁:=M.bind_ok e1;rw [e2] at hne hQ hE
 have eT:zj free mc nx σ₁=(match mc σ₁.st.length nx ⟨σ₁.st ++ [.lst []],jo free σ₁.lo⟩ with
   | .ok _ σ'=>.ok (.obj σ₁.st.length) ⟨σ'.st,σ₁.lo⟩
   | .exc _ _=>.stuck
   | .stuck=>.stuck):=rfl
 refine wpAny_newList ?_ (by simp [sizeLine_eq])
 refine kd (rel₁.newList (vs:=[]) (ws:=[]) (o:={cls:= .type "list",data:= .seq ([]:List Value).toArray}) rfl RepL.nil (by simp) s₂.toks) fun rel₃ x₃=>?_
 refine wpAny_newFunctionEnv ck.nocell (by intro y hy; simp at hy) (fun h₄ hns hsb=>?_) ck.kind
 dsimp only at hns hsb rel₃ x₃ ⊢
 generalize hH:s₂.heap.push {cls:= .type "list",data:= .seq ([]:List Value).toArray}=H at hns hsb rel₃ x₃ ⊢
 have hC:H.objs.size=s₂.heap.objs.size + 1:=by rw [← hH,Heap.size_push]
 generalize hCd:H.objs.size=C at hns hsb hC ⊢
 have hkeep:∀ b o,H.get? b=some o→h₄.get? b=some o:=fun b o e=>(hsb.2 b (by rw [← hCd]; exact Nat.ne_of_lt (Heap.lt_size e))).trans (Heap.get?_push_of_some _ e)
 have hkeep2:∀ b o,s₂.heap.get? b=some o→h₄.get? b=some o:=fun b o e=>hkeep b o (by rw [← hH]; exact Heap.get?_push_of_some _ e)
 have fC:s₂.heap.get? C=none:=Heap.get?_none_of_le (by rw [hC]; exact nL40)
 have fC1:s₁'.heap.get? C=none:=by
  cases e:s₁'.heap.get? C with
  | none=>rfl
  | some o=>obtain ⟨o',e'⟩:=x₁₂.alive _ _ e; rw [fC] at e'; (injection e')
 have bC:K.base.get? C=none:=by
  cases e:K.base.get? C with
  | none=>rfl
  | some o=>have:=rel₁.base _ _ e; rw [fC] at this; (injection this)
 have rel₄:Rel (K.adds ow) (j0 F scope cl C) ⟨σ₁.st ++ [.lst []],jo free σ₁.lo⟩ (ρ₁ ++ [s₂.heap.objs.size]) {s₂ with heap:=h₄,toks:=s₂.toks + 0}:=by
  refine {toGRel:=rel₃.toGRel.kept hkeep rfl rfl,vars:=?_,loc:=⟨_,hns⟩,cels:=?_,mineAbove:=?_,mineApart:=?_,mineLoc:=List.mem_singleton.mpr rfl,frs:=(rel₃.frs.kept hkeep).comp}
  ·intro x v' e
   have hx:x∈free:=by
    by_cases h:x∈free
    ·exact h
    ·simp only [jo,if_neg h] at e; (injection e)
   simp only [jo,if_pos hx] at e;refine ya (rel₃.vars x v' e) fun w' h1 h2=>?_;refine (ja w' ?_ (Rep.mono' (List.prefix_refl _) (zl hkeep) h2));refine yt (ck.free x hx) fun q1 q2 q3=>?_
   rcases h1 with ⟨k1,_⟩ | ⟨k1,c,ec,n⟩
   ·exact absurd k1 q2
   ·exact .inr (jp q1 c (q3 c ec) (n.keeps hkeep))
  ·intro x c e;refine qb (rel₃.cels x c (ck.cells x c e)) fun v' n=>?_;exact ⟨v',n.keeps hkeep⟩
  ·intro a ha;have:a=C:=List.mem_singleton.mp ha;clear hsb hC;subst this;refine wm hns fun o zZ zZ e zZ=>?_
   try clear hns
   exact (qh bC o e)
  ·intro a ha hb;have:a=C:=List.mem_singleton.mp ha;clear hns hsb hC;subst this;refine ya (rel₃.toGRel.alive hb) fun o e zZ=>?_
   rw [Heap.get?_none_of_le (by rw [hCd]; exact Nat.le_refl _)] at e; (injection e)
 have x₄:Ext [C] ρ₁ (ρ₁ ++ [s₂.heap.objs.size]) s₁'.heap h₄:=by
  refine ⟨x₁₂.pre.trans (List.prefix_append _ _),fun b o e=>?_,fun a ha=>?_,fun b o e n1 n2=>?_,fun b o e f=>hkeep2 b o (x₁₂.froz b o e f)⟩
  ·refine qb (x₁₂.alive b o e) fun o' e'=>?_;exact ⟨o',hkeep2 b o' e'⟩
  ·rcases List.mem_append.mp ha with ha | ha
   ·exact x₁₂.new a ha
   ·have:=List.mem_singleton.mp ha;clear ha;subst this;refine .inr ?_
    cases e:s₁'.heap.get? s₂.heap.objs.size with
    | none=>rfl
    | some o=>obtain ⟨o',e'⟩:=x₁₂.alive _ _ e; exact absurd (Heap.lt_size e') (Nat.lt_irrefl _)
  ·refine ya (x₁₂.keep b o e n1 (by simp)) fun o' e' l=>?_
   exact (ja o' (hkeep2 b o' e') l)
 have hne':mc σ₁.st.length nx ⟨σ₁.st ++ [.lst []],jo free σ₁.lo⟩≠.stuck:=fun e=>hne (by rw [eT,e])
 have hb1:∀ b∈fp,K.base.get? b=none:=fun b hb=>by
  cases e:K.base.get? b with
  | none=>rfl
  | some o=>have:=rel₀.base _ _ e; rw [hfp b hb] at this; (injection this)
 have hfC:∀ b∈fp,b≠C:=fun b hb q=>by
  refine ya ((hIt _ (fk.comp ck.kind (cl:=cl) (C:=C)) hnh).hid 0 _ hsrc b hb) fun o g zZ=>?_;rw [q,fC] at g; (injection g)
 have hfr:∀ b∈fp,b∉ρ₁ ++ [s₂.heap.objs.size]:=fun b hb h=>by
  rcases List.mem_append.mp h with h | h
  ·refine ya (rel₀.toGRel.alive h) fun o e zZ=>?_;rw [hfp b hb] at e; (injection e)
  ·have:=List.mem_singleton.mp h;subst this;refine ya ((hIt _ (fk.comp ck.kind (cl:=cl) (C:=C)) hnh).hid 0 _ hsrc _ hb) fun o g zZ=>?_;exact absurd (Heap.lt_size g) (Nat.lt_irrefl _)
 have main:=hc ow C σ₁.st.length s₂.heap.objs.size I fp St nx ⟨σ₁.st ++ [.lst []],jo free σ₁.lo⟩ (ρ₁ ++ [s₂.heap.objs.size]) ρ₁ {s₂ with heap:=h₄,toks:=s₂.toks + 0} s₁'.heap
   (hIt _ (fk.comp ck.kind) hnh) rel₄ (by simp only [← rel₁.len,List.getElem?_concat_length]) x₄ hfp hb1 (fun b hb h=>hfC b hb (List.mem_singleton.mp h)) hfr
   ((hIt _ (fk.comp ck.kind (cl:=cl) (C:=C)) hnh).frame0 _ _ hsrc fun b o e=>hkeep2 b o e) hne'
 refine codeAny_mono main fun r s' h=>?_
 cases r with
 | error v'=>
  refine ze h fun x σ' ρ' em r1 r2 r3=>?_
  try clear h
  rw [em] at eT;exact absurd eT hne
 | ok f=>
  refine ym h fun σ' ρ' em r1 r2 r4=>?_
  try clear h
  rw [em] at eT
  have xn:Ext [] ρ₁ ρ' s₁'.heap s'.heap:=⟨r2.pre,r2.alive,r2.new,fun b o e n1 zZ=>r2.keep b o e n1 (fun hm=>by have:=List.mem_singleton.mp hm; subst this; rw [fC1] at e; (injection e)),r2.froz⟩
  have relF:=rel₀.called r1.toGRel.drop xn fk;refine qb r1.loc fun m hm=>?_
  have hsC:s.heap.get? C=none:=by
   cases e:s.heap.get? C with
   | none=>rfl
   | some o=>obtain ⟨o',e'⟩:=x₁.alive _ _ e; rw [fC1] at e'; (injection e')
  have hmC:C∉F.mine:=fun h=>by
   refine xl (rel₀.mineAbove _ h) fun zZ o e=>?_;rw [fC1] at e; (injection e)
  have:=hQ (.obj σ₁.st.length) ⟨σ'.st,σ₁.lo⟩ ρ' s' (.ref s₂.heap.objs.size) C m eT relF (x₁.trans (z0 xn)) (Rep.obj_iff.mpr (ja _ r4 rfl)) hm hmC (r1.mineApart C (List.mem_singleton.mpr rfl)) bC hsC
  cases use <;> exact this
theorem zaf (fk:FOk F) {elt target iter:Expr} {ifs:List Expr} {gs:List Comprehension} {scope:Scope} {pos spos tpos:Pos} {cl:List (Str×Addr)} {free:List String} {mi:M (Nat→M (Option V))} {mc:Nat→(Nat→M (Option V))→M Unit} {x:String} {mt:V→M Unit}
  (ck:CompOk F scope cl free) (ht:SimT K F (.Name (Str.ofString x) tpos) mt) (hi:kce K F target iter mi)
  (hc:∀ ow C,jam (K.adds ow) (j0 F scope cl C) elt target (⟨target,iter,ifs,0⟩ :: gs) scope pos 0 mc)
  (hsw:swapsWith (.ListComp elt (⟨target,iter,ifs,0⟩ :: gs) scope pos) (some (.Name (Str.ofString x) tpos)) spos.line F.env=pure true:=by rfl)
  (hs:∀ x,foldedSetIterable iter F.env x=pure x:=by intro _; rfl) (hnh:F.nh=true:=by rfl) :
  SimS K F (.Assign [.Name (Str.ofString x) tpos] (.ListComp elt (⟨target,iter,ifs,0⟩ :: gs) scope pos) spos) (do let v ← mi >>= zj free mc; mt v; pure .next):=by
 intro σ ρ s rel;rw [exec_Assign_Name_used _ _ _ _ hsw];refine Run.standAt ?_;refine Run.of_wp fun hne=>?_
 have hne1:(mi >>= zj free mc) σ≠.stuck:=fun e=>hne (by rw [M.bind_def,e])
 refine wpAny_bind ?_
 show wpAny _ _ (do let _ ← comprehension (.ListComp elt (⟨target,iter,ifs,0⟩ :: gs) scope pos) scope F.env _ (newList []) false (eval iter F.env) (some (assign (.Name (Str.ofString x) tpos) F.env))) _ _ s
 refine wpAny_bind (wpAny_mono (wcq fk (use:=some (assign (.Name (Str.ofString x) tpos) F.env)) (Q:=fun zZ s'=>QO K F (qs K) ((do let v ← mi >>= zj free mc; mt v; pure .next:M Fl) σ) ρ s.heap .next s') (E:=EO K F ((do let v ← mi >>= zj free mc; mt v; pure .next:M Fl) σ) ρ s.heap) hs ck hi hc rel hne1 hnh ?_ ?_)
  (fun zZ s' hq=>wpAny_pure (wpAny_pure hq)) fun zZ zZ e=>e)
 ·intro v σ' ρ' s' w C m e r1 x1 rv hm q1 q2 q3 q4
  have e2:(do let v ← mi >>= zj free mc; mt v; pure .next:M Fl) σ=(mt v >>= fun zZ=>(Pure.pure Fl.next:M Fl)) σ':=M.bind_ok e
  rw [e2] at hne ⊢;show wpAny _ _ (assign (.Name (Str.ofString x) tpos) F.env w) _ _ s'
  refine wpAny_mono (Run.bindWp (P:=fun zZ s'' => ∃ m,s''.heap.Ns C m∧∀ h',Heap.SameBut C s''.heap h'→QO K F (qs K) ((mt v >>= fun zZ=>(Pure.pure Fl.next:M Fl)) σ') ρ s.heap .next {s'' with heap:=h'}) (ht σ' ρ' s' v w r1 rv) hne ?_) (fun zZ zZ q=>q) (fun v s'' q=>q.up x1)
  intro u σ₂ ρ₂ s₂ _ e3 e4 rel₂ x₂ _;rw [e4];refine ze hm fun o es ep g d k f=>?_
  try clear hm
  refine ya (x₂.keep C o g q2 q1) fun o' g' l=>?_
  have hC':C∉ρ₂:=fun hin=>by
   rcases x₂.new C hin with h1 | h1
   ·exact q2 h1
   ·rw [g] at h1; (injection h1)
  have hm':s₂.heap.Ns C m:=⟨o',es,ep,g',l.data.1.trans d,k,f⟩;exact (ja m hm' (fun h' hsb=>(zd .next σ₂ ρ₂ rfl (rel₂.butC q3 q1 hC' hm' hsb rfl rfl (rel.noFrame q4)) ((x1.trans x₂).butC q4 hsb) rfl)))
 ·intro v s' q;refine ze q fun e σ' ρ' e1 r1 r2 r3=>?_
  try clear q
  exact (zd e σ' ρ' (by rw [M.bind_def,e1]) r1 r2 r3)
end
section
variable {K:Glo} {F:Frm}
section
variable {prog:Program} {w:World} {A:Around} {E:Value→Shared→Prop} {s:Shared}
end
end
section
variable {K:Glo} {F:Frm}
noncomputable def Fh (F:Frm) (v:Value):Frm:=⟨F.env,F.A.mark (some v),F.mine,false⟩
theorem FOk.h (fk:FOk F) (v:Value):FOk (Fh F v):=⟨fk.kind,fk.glob,fk.blt,(fun q=>by (injection q)),fk.units⟩
theorem Rel.h {σ:S} {ρ:List Addr} {s:Shared} (rel:Rel K F σ ρ s) (v:Value):Rel K (Fh F v) σ ρ s :=
 {toGRel:=rel.toGRel,vars:=rel.vars,loc:=rel.loc,cels:=rel.cels,mineAbove:=rel.mineAbove,mineApart:=rel.mineApart,mineLoc:=rel.mineLoc,frs:=rel.frs}
theorem Rel.unh {σ:S} {ρ:List Addr} {s:Shared} {v:Value} (rel:Rel K (Fh F v) σ ρ s):Rel K F σ ρ s :=
 {toGRel:=rel.toGRel,vars:=rel.vars,loc:=rel.loc,cels:=rel.cels,mineAbove:=rel.mineAbove,mineApart:=rel.mineApart,mineLoc:=rel.mineLoc,frs:=rel.frs}
section
variable {P:Heap→Prop}
end
end
section
variable {K:Glo} {F:Frm}
noncomputable def wc4 (K:Glo) (F:Frm) (hs:List ExceptHandler) (h:Exc→M Fl):Prop:= ∀ e σ ρ ρ₀ h₀ s v,Rel K F σ ρ s→Ext F.mine ρ₀ ρ h₀ s.heap→xbs K F e h₀ v s→h e σ≠.stuck→
 wpAny (model K.prog K.w) F.A (handleBy v F.env hs) (QO K F (qs K) (h e σ) ρ₀ h₀) (EO K F (h e σ) ρ₀ h₀) s
structure ExcT (T:String):Prop where
 exc:isSubtype (.type T) (.type "BaseException")=pure true
 nt:isSubtype (.type ((Manifest.find? T).elim "type" fun x=>x.metatype)) (.type "tuple")=pure false
 self:isSubtype (.type T) (.type T)=pure true
 ix : "IndexError" ≠ T→isSubtype (.type "IndexError") (.type T)=pure false
 ty : "TypeError" ≠ T→isSubtype (.type "TypeError") (.type T)=pure false
theorem x9:ExcT "TypeError" :=⟨by rw [isSubtype_type]; kernel_rfl,by rw [isSubtype_type]; kernel_rfl,by rw [isSubtype_type]; kernel_rfl,fun zZ=>by rw [isSubtype_type]; kernel_rfl,fun h=>absurd rfl h⟩
end
section
variable {K:Glo} {F:Frm}
end
section
variable {K:Glo} {F:Frm}
open PySem.SeqAt PySem.MeetsSeq PySem.MeetsSeq3
section
variable {prog:Program} {w:World} {A:Around} {E:Value→Shared→Prop} {s:Shared}
end
end
section
variable {K:Glo} {F:Frm}
noncomputable def qal (mc:Nat→(S→Nat→Option (Option V))→M Unit) (l:Nat) (v:V):M Unit:=fun σ=>match jf v σ with
 | .ok _ _=>match mc l (yf v) σ with
  | .ok _ σ'=>.ok () σ'
  | _=>.stuck
 | _=>.stuck
theorem ycj (fk:FOk F) {elt iter:Expr} {gens:List Comprehension} {scope:Scope} {pos:Pos} {d:Nat} {mi:M V} {mc:Nat→(S→Nat→Option (Option V))→M Unit} (hi:SimE K F iter mi)
  (hc:w7 K F (.ListComp elt gens scope pos) (d + 1) mc) (l:Nat) (a:Addr) (hs:∀ x,foldedSetIterable iter F.env x=pure x:=by intro _; rfl) (hnh:F.nh=true:=by rfl) :
  SimA K F l a (xbc (.ListComp elt gens scope pos) d iter F.env (.ref a)) (mi >>= qal mc l):=by
 intro σ ρ s rel hla;unfold xbc;refine Run.bind (hi σ ρ s rel) fun v σ₁ ρ₁ s₁ w zZ rel₁ x₁ rv=>?_;refine Run.standAt ?_;rw [hs w,pure_bind];refine Run.of_wp fun hne=>?_
 cases hok:jf v σ₁ with
 | stuck=>exact absurd (by unfold qal; rw [hok]) hne
 | exc e y=>exact absurd (by unfold qal; rw [hok]) hne
 | ok u y=>
  have hok':=xbm hok
  have eT:qal mc l v σ₁=(match mc l (yf v) σ₁ with
   | .ok _ σ'=>.ok () σ'
   | _=>.stuck):=by unfold qal; rw [hok]
  cases hm:mc l (yf v) σ₁ with
  | stuck=>rw [hm] at eT; exact absurd eT hne
  | exc e y=>rw [hm] at eT; exact absurd eT hne
  | ok u σ₂=>
   rw [hm] at eT;dsimp only at eT;refine ym (qbm rel₁ rv hok') fun obj Src hsrc hfr hIt hpy=>?_;refine xj (j2 rel₁) fun f0 f1 f2 f3=>?_;refine wpAny_bind (wpAny_holding (hpy _ _ _ ?_));have rel₂:=rel₁.push obj s₁.toks
   have main:=hc l a s₁.heap.objs.size Src (yf v) σ₁ ρ₁ ρ₁ {s₁ with heap:=s₁.heap.push obj} s₁.heap obj (hIt F fk hnh) rel₂ (getElem?_prefix x₁.pre hla) (Ext.push obj) f0 f1 f2 f3 (Heap.get?_push_size _ hfr) hsrc (by rw [hm]; simp)
   refine wpAny_bind (wpAny_runOwn (codeAny_mono main fun r s' h=>?_))
   cases r with
   | error v'=>obtain ⟨x,σ',ρ',em,_⟩:=h; rw [hm] at em; (injection em)
   | ok f=>
    refine ym h fun σ' ρ' em r1 r2 r4=>?_
    try clear h
    rw [hm] at em; (injection em with c_1 c_2; subst c_1 c_2)
    exact wpAny_pure (zd () σ₂ ρ' eT r1 r2 trivial)
end
section
variable {K:Glo} {F:Frm}
end
section
variable {K:Glo} {F:Frm}
end
section
section
variable {α:Type} [Inhabited α]
noncomputable def nth (vs:List α) (i:Nat):α:=vs[i]?.getD default
theorem xk {vs:List α} {i:Nat} {x:α} (h:i < vs.length):nth (vs.set i x) i=x:=by
 unfold nth; rw [List.getElem?_set_self h]; rfl
theorem qf {vs:List α} {i j:Nat} {x:α} (h:i≠j):nth (vs.set i x) j=nth vs j:=by
 unfold nth; rw [List.getElem?_set_ne h]
theorem jby {vs:List α} {i:Nat} (h:i < vs.length):vs[i]?=some (nth vs i):=by
 unfold nth; rw [List.getElem?_eq_getElem h]; rfl
theorem kab {vs:List α} {i:Nat} (h:i < vs.length):nth vs i=vs[i]:=by
 unfold nth; rw [List.getElem?_eq_getElem h]; rfl
theorem xi {vs:List α} {i:Nat} (h:i < vs.length):nth vs i∈vs:=by rw [kab h]; exact List.getElem_mem h
noncomputable def sd (lt:α→α→Bool) (x:α) (start:Nat) (vs:List α) (pos:Nat):List α :=
 WellFounded.fix (C:=fun _:Nat=>List α→List α) Nat.lt_wfRel.wf (fun pos rec vs=>
  if h:start < pos then
   if lt x (nth vs ((pos - 1) / 2))=true then rec ((pos - 1) / 2) (show (pos - 1) / 2 < pos by exact ya2 h) (vs.set pos (nth vs ((pos - 1) / 2)))
   else vs.set pos x
  else vs.set pos x) pos vs
theorem xbd (lt:α→α→Bool) (x:α) (start:Nat) (vs:List α) (pos:Nat):sd lt x start vs pos =
  if h:start < pos then
   if lt x (nth vs ((pos - 1) / 2))=true then sd lt x start (vs.set pos (nth vs ((pos - 1) / 2))) ((pos - 1) / 2)
   else vs.set pos x
  else vs.set pos x:=by
 conv=>lhs; unfold sd; rw [WellFounded.fix_eq]
 rfl
noncomputable def kid (lt:α→α→Bool) (vs:List α) (pos:Nat):Nat :=
 if 2 * pos + 2 < vs.length∧lt (nth vs (2 * pos + 1)) (nth vs (2 * pos + 2))=false then 2 * pos + 2 else 2 * pos + 1
theorem yao (lt:α→α→Bool) (vs:List α) (pos:Nat):pos < kid lt vs pos:=by unfold kid; split <;> (first | lia | omega)
theorem yay {lt:α→α→Bool} {vs:List α} {pos:Nat} (h:2 * pos + 1 < vs.length):kid lt vs pos < vs.length:=by unfold kid; split <;> (first | lia | omega)
theorem kc5 (lt:α→α→Bool) (vs:List α) (pos:Nat):(kid lt vs pos - 1) / 2=pos:=by unfold kid; split <;> (first | lia | omega)
noncomputable def down (lt:α→α→Bool) (vs:List α) (pos:Nat):List α×Nat :=
 WellFounded.fix (C:=fun _:List α×Nat=>List α×Nat) (measure fun p:List α×Nat=>p.1.length - p.2).wf (fun p rec=>
  if h:2 * p.2 + 1 < p.1.length then rec (p.1.set p.2 (nth p.1 (kid lt p.1 p.2)),kid lt p.1 p.2) (show (p.1.set p.2 (nth p.1 (kid lt p.1 p.2))).length - kid lt p.1 p.2 < p.1.length - p.2 by
   have:=yao lt p.1 p.2;have:=yay (lt:=lt) h
   rw [List.length_set]; exact xdk this (by assumption)) else p) (vs,pos)
theorem g9 (lt:α→α→Bool) (vs:List α) (pos:Nat):down lt vs pos=if h:2 * pos + 1 < vs.length then down lt (vs.set pos (nth vs (kid lt vs pos))) (kid lt vs pos) else (vs,pos):=by
 conv=>lhs; unfold down; rw [WellFounded.fix_eq]
 rfl
noncomputable def su (lt:α→α→Bool) (vs:List α) (pos:Nat):List α :=
 sd lt (nth vs pos) pos ((down lt vs pos).1.set (down lt vs pos).2 (nth vs pos)) (down lt vs pos).2
structure SWO (P:α→Prop) (lt:α→α→Bool):Prop where
 asymm:∀ a b,P a→P b→lt a b=true→lt b a=false
 trans:∀ a b c,P a→P b→P c→lt b a=false→lt c b=false→lt c a=false
theorem jcj (lt:α→α→Bool) (x:α) (start:Nat):∀ (pos:Nat) (vs:List α),(sd lt x start vs pos).length=vs.length:=by
 intro pos
 induction pos using Nat.strongRecOn with
 | _ pos ih=>
  intro vs;rw [xbd]
  split
  ·split
   ·rw [ih _ (by exact ya2 (by assumption))]; simp
   ·simp
  ·simp
theorem xa5 (lt:α→α→Bool):∀ (k:Nat) (vs:List α) (pos:Nat),vs.length - pos≤k→(down lt vs pos).1.length=vs.length:=by
 intro k
 induction k with
 | zero=>intro vs pos h; rw [g9,dif_neg (by exact gdk h)]
 | succ k ih=>
  intro vs pos h;rw [g9]
  split
  ·rename_i hc;have:=yao lt vs pos
   rw [ih _ _ (by simp; exact qbr h this)]; simp
  ·rfl
theorem jb5 (lt:α→α→Bool):∀ (k:Nat) (vs:List α) (pos:Nat),vs.length - pos≤k→pos < vs.length→(down lt vs pos).2 < vs.length:=by
 intro k
 induction k with
 | zero=>intro vs pos h h2; exact zdl h h2
 | succ k ih=>
  intro vs pos h h2;rw [g9]
  split
  ·rename_i hc;have h3:=yao lt vs pos;have h4:=yay (lt:=lt) hc
   have:=ih (vs.set pos (nth vs (kid lt vs pos))) (kid lt vs pos) (by simp; exact qbr h h3) (by simpa using h4)
   simpa using this
  ·exact h2
theorem jay (lt:α→α→Bool) (vs:List α) (pos:Nat):(su lt vs pos).length=vs.length:=by
 unfold su; rw [jcj,List.length_set,xa5 lt _ _ _ (Nat.le_refl _)]
theorem wbn {vs:List α} {i j:Nat} {x:α} (hi:i < vs.length) (hj:j < vs.length) (hne:i≠j):((vs.set i (nth vs j)).set j x).Perm (vs.set i x):=by
 have h:=List.set_set_perm (as:=vs.set i x) (i:=i) (j:=j) (by simpa using hi) (by simpa using hj)
 have e1:(vs.set i x)[j]'(by simpa using hj)=nth vs j:=by
  rw [List.getElem_set_ne hne,kab hj]
 have e2:(vs.set i x)[i]'(by simpa using hi)=x:=by rw [List.getElem_set_self]
 rw [e1,e2,List.set_set] at h;exact h
theorem xc5 (lt:α→α→Bool) (x:α) (start:Nat):∀ (pos:Nat) (vs:List α),pos < vs.length→(sd lt x start vs pos).Perm (vs.set pos x):=by
 intro pos
 induction pos using Nat.strongRecOn with
 | _ pos ih=>
  intro vs hp;rw [xbd]
  split
  ·split
   ·refine (ih _ (by exact ya2 (by assumption)) _ (by simp; exact yar hp)).trans ?_
    exact wbn hp (by exact yar hp) (by exact xcb (by assumption))
   ·exact List.Perm.refl _
  ·exact List.Perm.refl _
theorem wcj (lt:α→α→Bool) (x:α):∀ (k:Nat) (vs:List α) (pos:Nat),vs.length - pos≤k→pos < vs.length→((down lt vs pos).1.set (down lt vs pos).2 x).Perm (vs.set pos x):=by
 intro k
 induction k with
 | zero=>intro vs pos h h2; (exfalso; exact qcx h h2)
 | succ k ih=>
  intro vs pos h h2;rw [g9]
  split
  ·rename_i hc;have h3:=yao lt vs pos;have h4:=yay (lt:=lt) hc
   exact (ih _ _ (by simp; exact qbr h h3) (by simpa using h4)).trans (wbn h2 h4 (by exact kcx h3))
  ·exact List.Perm.refl _
theorem gc5 {vs:List α} {i:Nat}:vs.set i (nth vs i)=vs:=by
 by_cases h:i < vs.length
 ·rw [kab h]; exact List.set_getElem_self h
 ·exact List.set_eq_of_length_le (by exact nL2 h)
theorem xa3 (lt:α→α→Bool) (vs:List α) (pos:Nat) (h:pos < vs.length):(su lt vs pos).Perm vs:=by
 unfold su;have h1:=jb5 lt _ vs pos (Nat.le_refl _) h;have h2:=xa5 lt _ vs pos (Nat.le_refl _)
 refine (xc5 lt _ _ _ _ (by simp only [List.length_set,h2]; exact h1)).trans ?_
 rw [List.set_set];refine (wcj lt _ _ vs pos (Nat.le_refl _) h).trans ?_;rw [gc5]
noncomputable def jr (lt:α→α→Bool) (s:Nat) (vs:List α):Prop:= ∀ j,0 < j→j < vs.length→s≤(j - 1) / 2→lt (nth vs j) (nth vs ((j - 1) / 2))=false
noncomputable def Desc (s p:Nat):Prop:=WellFounded.fix (C:=fun _:Nat=>Prop) Nat.lt_wfRel.wf (fun p rec=>if h:s < p then rec ((p - 1) / 2) (show (p - 1) / 2 < p by exact ya2 h) else p=s) p
theorem qcq (s p:Nat):Desc s p=if h:s < p then Desc s ((p - 1) / 2) else p=s:=by
 conv=>lhs; unfold Desc; rw [WellFounded.fix_eq]
 rfl
theorem yat (s p:Nat):Desc s p↔p=s∨(s < p∧Desc s ((p - 1) / 2)):=by
 rw [qcq]
 split
 ·rename_i h
  exact ⟨fun x=>.inr ⟨h,x⟩,fun x=>by
   rcases x with x | x
   ·(exfalso; exact xcx h x)
   ·exact x.2⟩
 ·rename_i h
  exact ⟨fun x=>.inl x,fun x=>by
   rcases x with x | x
   ·exact x
   ·exact absurd x.1 h⟩
theorem Desc.refl (s:Nat):Desc s s:=by rw [yat]; exact .inl rfl
theorem Desc.up {s p:Nat} (h:Desc s p) (hlt:s < p):Desc s ((p - 1) / 2):=by
 rw [yat] at h; rcases h with h | h
 ·(exfalso; exact xcx hlt h)
 ·exact h.2
theorem Desc.le {s p:Nat} (h:Desc s p):s≤p:=by
 rw [yat] at h; rcases h with h | h <;> (first | lia | omega)
theorem Desc.kid {s p c:Nat} (h:Desc s p) (hc:(c - 1) / 2=p) (hlt:p < c):Desc s c:=by
 rw [yat]; right;have:=h.le
 exact ⟨by exact ydl this hlt,by rw [hc]; exact h⟩
structure Hole (lt:α→α→Bool) (s:Nat) (vs:List α) (pos:Nat):Prop where
 pair:∀ j,0 < j→j < vs.length→s≤(j - 1) / 2→j≠pos→(j - 1) / 2≠pos→lt (nth vs j) (nth vs ((j - 1) / 2))=false
 skip:s < pos→∀ j,0 < j→j < vs.length→(j - 1) / 2=pos→lt (nth vs j) (nth vs ((pos - 1) / 2))=false
 desc:Desc s pos
 lt:pos < vs.length
theorem Hole.set {lt:α→α→Bool} {s:Nat} {vs:List α} {pos:Nat} (h:Hole lt s vs pos) (x:α):Hole lt s (vs.set pos x) pos where
 pair:=fun j h0 hl hs hj hp=>by
  rw [List.length_set] at hl;rw [qf (Ne.symm hj),qf (Ne.symm hp)]; exact h.pair j h0 hl hs hj hp
 skip:=fun hs j h0 hl hp=>by
  rw [List.length_set] at hl;have:=h.lt
  rw [qf (by exact jdl hp h0),qf (by exact xcb hs)]; exact h.skip hs j h0 hl hp
 desc:=h.desc
 lt:=by rw [List.length_set]; exact h.lt
variable {P:α→Prop} {lt:α→α→Bool}
omit [Inhabited α] in
theorem zaa {vs:List α} {i:Nat} {x:α} (h:∀ a∈vs,P a) (hx:P x):∀ a∈vs.set i x,P a:=by
 intro a ha
 rcases List.mem_or_eq_of_mem_set ha with h1 | h1
 ·exact h a h1
 ·clear ha;subst h1; exact hx
theorem zc6 (O:SWO P lt) (x:α) (s:Nat) (hx:P x):∀ (pos:Nat) (vs:List α),(∀ a∈vs,P a)→Hole lt s vs pos→(∀ j,0 < j→j < vs.length→(j - 1) / 2=pos→lt (nth vs j) x=false)→jr lt s (sd lt x s vs pos):=by
 intro pos
 induction pos using Nat.strongRecOn with
 | _ pos ih=>
  intro vs hP hh hb;have hpl:=hh.lt;rw [xbd]
  split
  ·rename_i hsp;have hpar:s≤(pos - 1) / 2:=(hh.desc.up hsp).le
   have hpp:P (nth vs ((pos - 1) / 2)):=hP _ (xi (by exact yar hpl))
   split
   ·rename_i hlt
    refine ih _ (by exact ya2 hsp) _ (zaa hP hpp) ⟨?_,?_,hh.desc.up hsp,by simp; exact yar hpl⟩ ?_
    ·intro j h0 hl hs hj hp;rw [List.length_set] at hl
     by_cases hjp:j=pos
     ·clear ih hj;subst hjp; exact absurd rfl hp
     ·rw [qf (Ne.symm hjp)]
      by_cases hp2:(j - 1) / 2=pos
      ·rw [hp2,xk hpl]; exact hh.skip hsp j h0 hl hp2
      ·rw [qf (Ne.symm hp2)]; exact hh.pair j h0 hl hs hjp hp2
    ·intro hs2 j h0 hl hp;rw [List.length_set] at hl;have hgp:s≤((pos - 1) / 2 - 1) / 2:=((hh.desc.up hsp).up hs2).le
     have hq:nth (vs.set pos (nth vs ((pos - 1) / 2))) (((pos - 1) / 2 - 1) / 2)=nth vs (((pos - 1) / 2 - 1) / 2):=qf (by exact wdl hs2)
     rw [hq]
     have hpair:=hh.pair ((pos - 1) / 2) (by exact qdl hs2) (by exact kdl hp hl) hgp (by exact xdl hs2) (by exact gdl hs2)
     by_cases hjp:j=pos
     ·clear ih hq;subst hjp; rw [xk hpl]; exact hpair
     ·rw [qf (Ne.symm hjp)]
      have h2:=hh.pair j h0 hl (by exact zdm hp hgp) hjp (by exact ydm hp hs2)
      rw [hp] at h2
      exact O.trans _ _ _ (hP _ (xi (by exact jdm hp hl))) hpp (hP _ (xi hl)) hpair h2
    ·intro j h0 hl hp;rw [List.length_set] at hl
     by_cases hjp:j=pos
     ·clear ih;subst hjp; rw [xk hpl]; exact O.asymm _ _ hx hpp hlt
     ·rw [qf (Ne.symm hjp)]
      have h2:=hh.pair j h0 hl (by exact wdm hp hpar) hjp (by exact qdm hp hsp)
      rw [hp] at h2;exact O.trans _ _ _ hx hpp (hP _ (xi hl)) (O.asymm _ _ hx hpp hlt) h2
   ·rename_i hlt
    have hlt':lt x (nth vs ((pos - 1) / 2))=false:=by simpa using hlt
    intro j h0 hl hs;rw [List.length_set] at hl
    by_cases hjp:j=pos
    ·clear ih hpar hpp hlt
     subst hjp; rw [xk hpl,qf (by exact xcb hsp)]; exact hlt'
    ·rw [qf (Ne.symm hjp)]
     by_cases hp2:(j - 1) / 2=pos
     ·rw [hp2,xk hpl]; exact hb j h0 hl hp2
     ·rw [qf (Ne.symm hp2)]; exact hh.pair j h0 hl hs hjp hp2
  ·rename_i hsp;intro j h0 hl hs;rw [List.length_set] at hl;have hds:=hh.desc.le
   by_cases hjp:j=pos
   ·(exfalso; exact kdm h0 hjp hs hsp)
   ·rw [qf (Ne.symm hjp)]
    by_cases hp2:(j - 1) / 2=pos
    ·rw [hp2,xk hpl]; exact hb j h0 hl hp2
    ·rw [qf (Ne.symm hp2)]; exact hh.pair j h0 hl hs hjp hp2
theorem yc6 (O:SWO P lt) {vs:List α} {pos j:Nat} (hP:∀ a∈vs,P a) (hc:2 * pos + 1 < vs.length) (h0:0 < j) (hl:j < vs.length) (hp:(j - 1) / 2=pos):lt (nth vs j) (nth vs (kid lt vs pos))=false:=by
 have refl:∀ a,P a→lt a a=false:=fun a ha=>by
  cases e:lt a a with
  | false=>rfl
  | true=>have:=O.asymm a a ha ha e; rw [e] at this; (exfalso; exact nomatch this)
 unfold kid
 split
 ·rename_i h
  rcases (show j=2 * pos + 1∨j=2 * pos + 2 by exact gcx hp h0) with rfl | rfl
  ·exact h.2
  ·exact refl _ (hP _ (xi hl))
 ·rename_i h
  rcases (show j=2 * pos + 1∨j=2 * pos + 2 by exact gcx hp h0) with rfl | rfl
  ·exact refl _ (hP _ (xi hl))
  ·have:lt (nth vs (2 * pos + 1)) (nth vs (2 * pos + 2))=true:=by
    cases e:lt (nth vs (2 * pos + 1)) (nth vs (2 * pos + 2)) with
    | true=>rfl
    | false=>exact absurd ⟨hl,e⟩ h
   exact O.asymm _ _ (hP _ (xi hc)) (hP _ (xi hl)) this
theorem qcj (O:SWO P lt) (s:Nat):∀ (k:Nat) (vs:List α) (pos:Nat),vs.length - pos≤k→(∀ a∈vs,P a)→Hole lt s vs pos→
  Hole lt s (down lt vs pos).1 (down lt vs pos).2∧(∀ a∈(down lt vs pos).1,P a)∧¬ 2 * (down lt vs pos).2 + 1 < (down lt vs pos).1.length:=by
 intro k
 induction k with
 | zero=>intro vs pos h hP hh; have:=hh.lt; (exfalso; exact qcx h this)
 | succ k ih=>
  intro vs pos h hP hh;rw [g9]
  split
  ·rename_i hc;have h3:=yao lt vs pos;have h4:=yay (lt:=lt) hc;have h5:=kc5 lt vs pos;have hpl:=hh.lt;have hds:=hh.desc.le
   refine ih _ _ (by simp; exact qbr h h3) (zaa hP (hP _ (xi h4))) ⟨?_,?_,hh.desc.kid h5 h3,by simpa using h4⟩
   ·intro j h0 hl hs hj hp;rw [List.length_set] at hl
    by_cases hjp:j=pos
    ·clear h h3 hds hj;subst hjp
     rw [xk hpl,qf (by exact xdm h0)]
     exact hh.skip (by exact gdm h0 hs) _ (by exact zdn h5 hp) h4 h5
    ·rw [qf (Ne.symm hjp)]
     by_cases hp2:(j - 1) / 2=pos
     ·rw [hp2,xk hpl]; exact yc6 O hP hc h0 hl hp2
     ·rw [qf (Ne.symm hp2)]; exact hh.pair j h0 hl hs hjp hp2
   ·intro hs2 j h0 hl hp;rw [List.length_set] at hl
    rw [h5,xk hpl,qf (by exact ydn hp h5 h0)]
    have:=hh.pair j h0 hl (by exact jdn hp hs2) (by exact wdn hp h5 h0) (by exact qdn hp h5 hs2)
    rw [hp] at this; exact this
  ·rename_i hc;exact ⟨hh,hP,hc⟩
theorem yb8 (O:SWO P lt) (vs:List α) (pos:Nat) (hP:∀ a∈vs,P a) (hl:pos < vs.length) (hh:jr lt (pos + 1) vs):jr lt pos (su lt vs pos):=by
 have h0:Hole lt pos vs pos:=⟨fun j h0 hl hs hj hp=>hh j h0 hl (by exact kdn hp hs),fun h=>by (exfalso; exact xdn h),Desc.refl _,hl⟩
 refine yt (qcj O pos _ vs pos (Nat.le_refl _) hP h0) fun h1 h2 h3=>?_;unfold su;have hx:P (nth vs pos):=hP _ (xi hl);refine zc6 O _ _ hx _ _ (zaa h2 hx) (h1.set _) ?_;intro j hj hjl hjp;rw [List.length_set] at hjl
 (exfalso; exact gdn hjp hj hjl h3)
noncomputable def hpfy (lt:α→α→Bool):Nat→List α→List α
 | 0,vs=>vs
 | k + 1,vs=>hpfy lt k (su lt vs k)
theorem qbn (lt:α→α→Bool):∀ (k:Nat) (vs:List α),k≤vs.length→(hpfy lt k vs).Perm vs
 | 0,vs,_=>List.Perm.refl _
 | k + 1,vs,h=>(qbn lt k _ (by rw [jay]; exact nL73 h)).trans (xa3 lt vs k (by exact gcb h))
theorem kbn (O:SWO P lt):∀ (k:Nat) (vs:List α),k≤vs.length→(∀ a∈vs,P a)→jr lt k vs→jr lt 0 (hpfy lt k vs)
 | 0,vs,_,_,h=>h
 | k + 1,vs,hk,hP,h=>kbn O k _ (by rw [jay]; exact nL73 hk) (fun a ha=>hP a ((xa3 lt vs k (by exact gcb hk)).mem_iff.mp ha)) (yb8 O vs k hP (by exact gcb hk) h)
theorem wbp (lt:α→α→Bool) (vs:List α):jr lt (vs.length / 2) vs:=by
 intro j h0 hl hs; (exfalso; exact zdo hs h0 hl)
theorem kcq (O:SWO P lt) {vs:List α} (hP:∀ a∈vs,P a) (hh:jr lt 0 vs):∀ j,j < vs.length→lt (nth vs j) (nth vs 0)=false:=by
 intro j
 induction j using Nat.strongRecOn with
 | _ j ih=>
  intro hl
  by_cases h0:j=0
  ·subst h0
   cases e:lt (nth vs 0) (nth vs 0) with
   | false=>rfl
   | true=>have:=O.asymm _ _ (hP _ (xi hl)) (hP _ (xi hl)) e; rw [e] at this; (exfalso; exact nomatch this)
  ·have h1:=ih ((j - 1) / 2) (by exact ydo h0) (by exact yar hl)
   have h2:=hh j (by exact zcw h0) hl (by exact zcy)
   exact O.trans _ _ _ (hP _ (xi (by exact zak hl))) (hP _ (xi (by exact yar hl))) (hP _ (xi hl)) h1 h2
noncomputable def gbd (lt:α→α→Bool) (vs:List α) (x:α):List α:=sd lt x 0 (vs ++ [x]) vs.length
end
end
section
noncomputable def kau:M Bool:=(do let a ← (getv "pos"); let b ← (getv "startpos"); let c ← gtV a b; truV c)
noncomputable def xau:M Fl:=(seqM (do let v ← (do let a ← (do let a ← (getv "pos"); let b ← (pure (V.int 1):M V); subV a b); let b ← (pure (V.int 1):M V); shrV a b); (fun v=>setv "parentpos" v) v; pure .next:M Fl) (seqM (do let v ← (do let o ← (getv "heap"); let i ← (getv "parentpos"); getI o i); (fun v=>setv "parent" v) v; pure .next:M Fl) (seqM (do if (← (do let a ← (getv "newitem"); let b ← (getv "parent"); let c ← ltV a b; truV c))=true then (seqM (do let v ← (getv "parent"); (fun v=>do let a ← (getv "heap"); let b ← (getv "pos"); setI a b v) v; pure .next:M Fl) (seqM (do let v ← (getv "parentpos"); (fun v=>setv "pos" v) v; pure .next:M Fl) (pure .cont:M Fl))) else (pure .next:M Fl):M Fl) (pure .brk:M Fl))))
noncomputable def jat:M Fl:=(seqM (do let v ← (do let o ← (getv "heap"); let i ← (getv "pos"); getI o i); (fun v=>setv "newitem" v) v; pure .next:M Fl) (seqM (qw kau xau 4096) (do let v ← (getv "newitem"); (fun v=>do let a ← (getv "heap"); let b ← (getv "pos"); setI a b v) v; pure .next:M Fl)))
noncomputable def z8:Fun:=funM ["heap", "startpos", "pos"] jat
noncomputable def ga5:M Bool:=(do let a ← (getv "childpos"); let b ← (getv "endpos"); let c ← ltV a b; truV c)
noncomputable def za6:M Fl:=(seqM (do let v ← (do let a ← (getv "childpos"); let b ← (pure (V.int 1):M V); addV a b); (fun v=>setv "rightpos" v) v; pure .next:M Fl) (seqM (do if (← (do if (← (do let a ← (getv "rightpos"); let b ← (getv "endpos"); let c ← ltV a b; truV c))=true then (do if (← (do let b ← (do let a ← (do let o ← (getv "heap"); let i ← (getv "childpos"); getI o i); let b ← (do let o ← (getv "heap"); let i ← (getv "rightpos"); getI o i); let c ← ltV a b; truV c); pure (!b)))=true then (pure true:M Bool) else pure false) else pure false))=true then (do let v ← (getv "rightpos"); (fun v=>setv "childpos" v) v; pure .next:M Fl) else (pure .next:M Fl):M Fl) (seqM (do let v ← (do let o ← (getv "heap"); let i ← (getv "childpos"); getI o i); (fun v=>do let a ← (getv "heap"); let b ← (getv "pos"); setI a b v) v; pure .next:M Fl) (seqM (do let v ← (getv "childpos"); (fun v=>setv "pos" v) v; pure .next:M Fl) (do let v ← (do let a ← (do let a ← (pure (V.int 2):M V); let b ← (getv "pos"); mulV a b); let b ← (pure (V.int 1):M V); addV a b); (fun v=>setv "childpos" v) v; pure .next:M Fl)))))
noncomputable def wa9:M Fl:=(seqM (do let v ← (do let vs ← (do let v ← (getv "heap"); let vs ← (pure []:M (List V)); pure (v :: vs)); lenB vs); (fun v=>setv "endpos" v) v; pure .next:M Fl) (seqM (do let v ← (getv "pos"); (fun v=>setv "startpos" v) v; pure .next:M Fl) (seqM (do let v ← (do let o ← (getv "heap"); let i ← (getv "pos"); getI o i); (fun v=>setv "newitem" v) v; pure .next:M Fl) (seqM (do let v ← (do let a ← (do let a ← (pure (V.int 2):M V); let b ← (getv "pos"); mulV a b); let b ← (pure (V.int 1):M V); addV a b); (fun v=>setv "childpos" v) v; pure .next:M Fl) (seqM (qw ga5 za6 4096) (seqM (do let v ← (getv "newitem"); (fun v=>do let a ← (getv "heap"); let b ← (getv "pos"); setI a b v) v; pure .next:M Fl) (do let _ ← (do let vs ← (do let v ← (getv "heap"); let vs ← (do let v ← (getv "startpos"); let vs ← (do let v ← (getv "pos"); let vs ← (pure []:M (List V)); pure (v :: vs)); pure (v :: vs)); pure (v :: vs)); xh z8 vs); pure .next:M Fl)))))))
noncomputable def jz:Fun:=funM ["heap", "pos"] wa9
noncomputable def kae:M Fl:=(seqM (do let v ← (do let o ← (getv "heap"); let i ← (pure (V.int 0):M V); getI o i); (fun v=>setv "returnitem" v) v; pure .next:M Fl) (seqM (do let v ← (getv "item"); (fun v=>do let a ← (getv "heap"); let b ← (pure (V.int 0):M V); setI a b v) v; pure .next:M Fl) (seqM (do let _ ← (do let vs ← (do let v ← (getv "heap"); let vs ← (do let v ← (pure (V.int 0):M V); let vs ← (pure []:M (List V)); pure (v :: vs)); pure (v :: vs)); xh jz vs); pure .next:M Fl) (do let v ← (getv "returnitem"); pure (.ret v):M Fl))))
noncomputable def gw:Fun:=funM ["heap", "item"] kae
noncomputable def way:V→M Unit:=(fun v=>setv "i" v)
noncomputable def qay:M Fl:=(do let _ ← (do let vs ← (do let v ← (getv "x"); let vs ← (do let v ← (getv "i"); let vs ← (pure []:M (List V)); pure (v :: vs)); pure (v :: vs)); xh jz vs); pure .next:M Fl)
noncomputable def kay:M Fl:=(seqM (do let v ← (do let vs ← (do let v ← (getv "x"); let vs ← (pure []:M (List V)); pure (v :: vs)); lenB vs); (fun v=>setv "n" v) v; pure .next:M Fl) (do let v ← (do let vs ← (do let v ← (do let a ← (getv "n"); let b ← (pure (V.int 2):M V); yal a b); let vs ← (pure []:M (List V)); pure (v :: vs)); zu vs); let r ← revR v; forG (yf r) way qay 4096 0))
noncomputable def qad:Fun:=funM ["x"] kay
end
section
noncomputable def MW {α:Type} (m:M α) (σ:S) (Q:α→S→Prop):Prop:= ∃ a σ',m σ = .ok a σ'∧Q a σ'
section
variable {α β:Type} {σ:S}
theorem MW.mono {m:M α} {Q Q':α→S→Prop} (h:MW m σ Q) (k:∀ a σ',Q a σ'→Q' a σ'):MW m σ Q':=by
 refine jm h fun a σ' e q=>?_
 try clear h; exact (yh a σ' e (k _ _ q))
theorem yb {m:S→Res S α} {Q:α→S→Prop} {a:α} {σ':S} (e:m σ = .ok a σ'):MW m σ Q↔Q a σ':=by
 constructor
 ·rintro ⟨a',σ'',e',q⟩; rw [e] at e'; (injection e' with c_1 c_2; subst c_1 c_2); exact q
 ·exact fun q=>(yh a σ' e q)
theorem xc {a:α} {Q:α→S→Prop}:MW (pure a:M α) σ Q↔Q a σ:=yb rfl
theorem jc {m:M α} {f:α→M β} {Q:β→S→Prop}:MW (m >>= f) σ Q↔MW m σ (fun a σ'=>MW (f a) σ' Q):=by
 constructor
 ·rintro ⟨b,σ',e,q⟩
  rw [M.bind_def] at e
  cases em:m σ with
  | ok a σ₁=>rw [em] at e; exact ⟨a,σ₁,em,b,σ',e,q⟩
  | exc x y=>rw [em] at e; (injection e)
  | stuck=>rw [em] at e; (injection e)
 ·rintro ⟨a,σ₁,em,b,σ',e,q⟩
  exact (yh b σ' (by rw [M.bind_def,em]; exact e) q)
theorem yo {a b:M Fl} {Q:Fl→S→Prop}:MW (seqM a b) σ Q↔MW a σ (fun f σ'=>match f with | .next=>MW b σ' Q | .brk=>Q .brk σ' | .cont=>Q .cont σ' | .ret v=>Q (.ret v) σ'):=by
 unfold seqM;rw [jc]
 constructor
 ·rintro ⟨f,σ',e,q⟩
  refine (yh f σ' e ?_)
  cases f <;> first | exact q | exact xc.mp q
 ·rintro ⟨f,σ',e,q⟩
  refine (yh f σ' e ?_)
  cases f <;> first | exact q | exact xc.mpr q
theorem je {x:String} {Q:V→S→Prop}:MW (getv x) σ Q↔∃ v,σ.lo x=some v∧Q v σ:=by
 constructor
 ·rintro ⟨a,σ',e,q⟩
  unfold getv at e
  cases h:σ.lo x with
  | none=>rw [h] at e; (injection e)
  | some v=>rw [h] at e; cases e; exact (ja _ rfl q)
 ·rintro ⟨v,e,q⟩
  exact (yh v σ (by unfold getv; rw [e]) q)
theorem jh {x:String} {v:V} {Q:Unit→S→Prop}:MW (setv x v) σ Q↔Q () (σ.put x v):=yb rfl
theorem wh {x:String} {v:V}:(σ.put x v).st=σ.st:=rfl
theorem zb {x y:String} {v:V}:(σ.put x v).lo y=if y=x then some v else σ.lo y:=rfl
theorem qc4 {a b:Int} {Q:V→S→Prop}:MW (gtV (.int a) (.int b)) σ Q↔Q (.bool (decide (b < a))) σ:=yb rfl
theorem kcj {a b:Int} {Q:V→S→Prop}:MW (addV (.int a) (.int b)) σ Q↔Q (.int (a + b)) σ:=yb rfl
theorem xc9 {a b:Int} {Q:V→S→Prop}:MW (subV (.int a) (.int b)) σ Q↔Q (.int (a - b)) σ:=yb rfl
theorem wby {a:Int} {Q:V→S→Prop}:MW (negV (.int a)) σ Q↔Q (.int (-a)) σ:=yb rfl
theorem kad {b:Bool} {Q:Bool→S→Prop}:MW (truV (.bool b)) σ Q↔Q b σ:=yb rfl
theorem xcj {a b:Int} {Q:V→S→Prop}:MW (ltV (.int a) (.int b)) σ Q↔Q (.bool (decide (a < b))) σ:=by
 refine yb ?_
 rfl
theorem gc9 {a:Int} {Q:V→S→Prop}:MW (shrV (.int a) (.int 1)) σ Q↔0≤a∧Q (.int (a / 2)) σ:=by
 by_cases h:0≤a
 ·rw [yb (a:= .int (a / 2)) (σ':=σ) (by show (if 0≤a then Res.ok (V.int (a / 2)) σ else .stuck)=_; rw [if_pos h])]; simp [h]
 ·constructor
  ·rintro ⟨_,_,e,_⟩; have e:(if 0≤a then Res.ok (V.int (a / 2)) σ else .stuck)=_:=e; rw [if_neg h] at e; (injection e)
  ·exact fun q=>absurd q.1 h
theorem qby {a b:Int} {Q:V→S→Prop}:MW (mulV (.int a) (.int b)) σ Q↔(-1000000000 < a∧a < 1000000000)∧Q (.int (a * b)) σ:=by
 by_cases h : -1000000000 < a∧a < 1000000000
 ·rw [yb (a:= .int (a * b)) (σ':=σ) (by unfold mulV; dsimp only; rw [if_pos h])]; simp [h]
 ·constructor
  ·rintro ⟨_,_,e,_⟩; unfold mulV at e; dsimp only at e; rw [if_neg h] at e; (injection e)
  ·exact fun q=>absurd q.1 h
theorem ybi {a b:Int} {Q:V→S→Prop}:MW (yal (.int a) (.int b)) σ Q↔(0 < b∧b < 1000000000)∧Q (.int (a / b)) σ:=by
 by_cases h:0 < b∧b < 1000000000
 ·rw [yb (a:= .int (a / b)) (σ':=σ) (by unfold yal; dsimp only; rw [if_pos h])]; simp [h]
 ·constructor
  ·rintro ⟨_,_,e,_⟩; unfold yal at e; dsimp only at e; rw [if_neg h] at e; (injection e)
  ·exact fun q=>absurd q.1 h
theorem jao {a b:Int} {Q:V→S→Prop}:MW (wab (.int a) (.int b)) σ Q↔(0 < b∧b < 1000000000)∧Q (.int (a % b)) σ:=by
 by_cases h:0 < b∧b < 1000000000
 ·rw [yb (a:= .int (a % b)) (σ':=σ) (by unfold wab; dsimp only; rw [if_pos h])]; simp [h]
 ·constructor
  ·rintro ⟨_,_,e,_⟩; unfold wab at e; dsimp only at e; rw [if_neg h] at e; (injection e)
  ·exact fun q=>absurd q.1 h
theorem ju {n j:Nat}:ix n (j:Int)=if j < n then some j else none:=by
 unfold ix; rw [if_pos (by exact ja2)]; simp
theorem qp {l:Nat} {k:Int} {vs:List V} {j:Nat} {v:V} {Q:V→S→Prop} (h:σ.st[l]?=some (.lst vs)) (hk:ix vs.length k=some j) (hv:vs[j]?=some v):MW (getI (.obj l) (.int k)) σ Q↔Q v σ:=by
 refine yb ?_;unfold getI;dsimp only;rw [h];dsimp only;rw [hk];dsimp only;rw [hv]
theorem jbi {vs:List V} {k:Int} {j:Nat} {v:V} {Q:V→S→Prop} (hk:ix vs.length k=some j) (hv:vs[j]?=some v):MW (getI (.tup vs) (.int k)) σ Q↔Q v σ:=by
 refine yb ?_;unfold getI;dsimp only;rw [hk];dsimp only;rw [hv]
theorem wu {l:Nat} {k:Int} {vs:List V} {v:V} {j:Nat} {Q:Unit→S→Prop} (h:σ.st[l]?=some (.lst vs)) (hl:l≠0) (hk:k=j) (hj:j < vs.length) :
  MW (setI (.obj l) (.int k) v) σ Q↔Q () {σ with st:=σ.st.set l (.lst (vs.set j v))}:=by
 refine yb ?_;subst hk;unfold setI;dsimp only;rw [h];dsimp only
 rw [Int.toNat_natCast,if_pos ⟨hl,by exact ja2,hj⟩]
theorem zq {l:Nat} {vs:List V} {Q:V→S→Prop} (h:σ.st[l]?=some (.lst vs)):MW (lenB [.obj l]) σ Q↔Q (.int vs.length) σ:=by
 refine yb ?_;unfold lenB;dsimp only;rw [h]
theorem jc6 {l:Nat} {vs:List V} {Q:Bool→S→Prop} (h:σ.st[l]?=some (.lst vs)):MW (truV (.obj l)) σ Q↔Q (!vs.isEmpty) σ:=by
 refine yb ?_;unfold truV;dsimp only;rw [h]
theorem wc6 {l:Nat} {vs:List V} {Q:Unit→S→Prop} (h:σ.st[l]?=some (.lst vs)):MW (chkL (.obj l)) σ Q↔Q () σ:=yb (wan h)
theorem gcj {l:Nat} {vs:List V} {v:V} {Q:V→S→Prop} (h:σ.st[l]?=some (.lst vs)) (hl:l≠0) (hn:vs.length < 1000000):MW (xag (.obj l) [v]) σ Q↔Q .none {σ with st:=σ.st.set l (.lst (vs ++ [v]))}:=by
 refine yb ?_;unfold xag;dsimp only;rw [h];dsimp only;rw [if_pos ⟨hl,hn⟩]
theorem jb8 {vs:List V} {Q:V→S→Prop} (hn:vs.length≤1000000):MW (newL vs) σ Q↔Q (.obj σ.st.length) {σ with st:=σ.st ++ [.lst vs]}:=by
 refine yb ?_;simp only [newL,if_pos hn]
theorem zbe {vs:List V} {Q:V→S→Prop} (hn:vs.length≤1000000):MW (mkT vs) σ Q↔Q (.tup vs) σ:=by
 refine yb ?_;simp only [mkT,if_pos hn]
theorem yaa {g:Fun} {vs:List V} {v:V} {st':gb} {Q:V→S→Prop} (h:g vs σ.st = .ok v st'):MW (xh g vs) σ Q↔Q v {σ with st:=st'}:=by
 refine yb ?_;unfold xh;rw [h]
theorem kby {c:M Bool} {b:M Fl} {Q:Fl→S→Prop} (I:Nat→S→Prop)
  (h:∀ k σ,I k σ→MW c σ (fun t σ₁=>if t=true then MW b σ₁ (fun f σ₂=>match f with | .next => ∃ j,j < k∧I j σ₂ | .cont => ∃ j,j < k∧I j σ₂ | .brk=>Q .next σ₂ | .ret v=>Q (.ret v) σ₂) else Q .next σ₁)) :
  ∀ (n k:Nat) (σ:S),k < n→I k σ→MW (qw c b n) σ Q:=by
 intro n
 induction n with
 | zero=>intro k σ hk; (exfalso; exact qcw hk)
 | succ n ih=>
  intro k σ hk hI;unfold qw;simp only [jc];refine (h k σ hI).mono fun t σ₁ ht=>?_
  cases t with
  | false=>simp only [Bool.false_eq_true,if_false] at ht ⊢; exact xc.mpr ht
  | true=>
   simp only [if_true] at ht ⊢;simp only [jc];refine ht.mono fun f σ₂ hf=>?_
   cases f with
   | next=>obtain ⟨j,hj,hI'⟩:=hf; exact ih j σ₂ (by exact ycy hj hk) hI'
   | cont=>obtain ⟨j,hj,hI'⟩:=hf; exact ih j σ₂ (by exact ycy hj hk) hI'
   | brk=>exact xc.mpr hf
   | ret v=>exact xc.mpr hf
theorem xad {nxt:S→Nat→Option (Option V)} {t:V→M Unit} {b:M Fl} {Q:Fl→S→Prop} (N:Nat) (I:Nat→S→Prop)
  (hend:∀ σ,I N σ→nxt σ N=some none∧Q .next σ)
  (h:∀ i σ,i < N→I i σ→∃ v,nxt σ i=some (some v)∧MW (t v) σ (fun zZ σ₁=>MW b σ₁ (fun f σ₂=>match f with | .next=>I (i + 1) σ₂ | .cont=>I (i + 1) σ₂ | .brk=>Q .next σ₂ | .ret v=>Q (.ret v) σ₂))) :
  ∀ (n i:Nat) (σ:S),i≤N→N - i < n→I i σ→MW (forG nxt t b n i) σ Q:=by
 intro n
 induction n with
 | zero=>intro i σ _ hk; (exfalso; exact zcc hk)
 | succ n ih=>
  intro i σ hi hk hI
  by_cases hN:i=N
  ·subst hN;refine kd (hend σ hI) fun e q=>?_;refine (yh .next σ ?_ q);rw [forG]; dsimp only; rw [e]
  ·obtain ⟨v,e,hw⟩:=h i σ (by exact ycc hi hN) hI
   have key:MW (do
    t v
    match ← b with
    | .next=>forG nxt t b n (i + 1)
    | .cont=>forG nxt t b n (i + 1)
    | .brk=>pure .next
    | .ret v=>pure (.ret v)) σ Q:=by
    rw [jc];refine hw.mono fun zZ σ₁ h1=>?_;simp only [jc];refine h1.mono fun f σ₂ hf=>?_
    cases f with
    | next=>exact ih (i + 1) σ₂ (by exact kbr hi hN) (by exact xbr hk hi hN) hf
    | cont=>exact ih (i + 1) σ₂ (by exact kbr hi hN) (by exact xbr hk hi hN) hf
    | brk=>exact xc.mpr hf
    | ret v=>exact xc.mpr hf
   refine jm key fun a σ' e2 q=>?_
   try clear key
   refine (yh a σ' ?_ q);rw [forG]; dsimp only; rw [e]; exact e2
end
section
variable {α β γ:Type} {σ:S}
theorem w_as {m:M α} {f:α→M β} {g:β→M γ} {Q:γ→S→Prop} (k:MW (m >>= fun a=>f a >>= g) σ Q):MW ((m >>= f) >>= g) σ Q :=
 jc.mpr (jc.mpr ((jc.mp k).mono fun zZ zZ h=>jc.mp h))
theorem we {a:α} {f:α→M β} {Q:β→S→Prop} (k:MW (f a) σ Q):MW ((pure a:M α) >>= f) σ Q:=k
theorem w_if {c:Prop} [Decidable c] {a b:M α} {f:α→M β} {Q:β→S→Prop} (k:MW (if c then a >>= f else b >>= f) σ Q):MW ((if c then a else b) >>= f) σ Q:=by
 split at k
 ·rename_i h; rw [if_pos h]; exact k
 ·rename_i h; rw [if_neg h]; exact k
theorem w_t {a b:M α} {Q:α→S→Prop} (k:MW a σ Q):MW (if true=true then a else b) σ Q:=k
theorem w_f {a b:M α} {Q:α→S→Prop} (k:MW b σ Q):MW (if false=true then a else b) σ Q:=k
theorem zg {x:String} {v:V} {f:V→M β} {Q:β→S→Prop} (h:σ.lo x=some v) (k:MW (f v) σ Q):MW (getv x >>= f) σ Q:=jc.mpr (je.mpr (ja v h k))
theorem yg {x:String} {v:V} {f:Unit→M β} {Q:β→S→Prop} (k:MW (f ()) (σ.put x v) Q):MW (setv x v >>= f) σ Q:=k
theorem jg {a b:Int} {f:V→M β} {Q:β→S→Prop} (k:MW (f (.int (a + b))) σ Q):MW (addV (.int a) (.int b) >>= f) σ Q:=k
theorem wg {a b:Int} {f:V→M β} {Q:β→S→Prop} (k:MW (f (.int (a - b))) σ Q):MW (subV (.int a) (.int b) >>= f) σ Q:=k
theorem zd6 {a:Int} {f:V→M β} {Q:β→S→Prop} (k:MW (f (.int (-a))) σ Q):MW (negV (.int a) >>= f) σ Q:=k
theorem qg {b:Bool} {f:Bool→M β} {Q:β→S→Prop} (k:MW (f b) σ Q):MW (truV (.bool b) >>= f) σ Q:=k
theorem w_lt {a b:Int} {f:V→M β} {Q:β→S→Prop} (k:MW (f (.bool (decide (a < b)))) σ Q):MW (ltV (.int a) (.int b) >>= f) σ Q:=jc.mpr (xcj.mpr k)
theorem w_gt {a b:Int} {f:V→M β} {Q:β→S→Prop} (k:MW (f (.bool (decide (b < a)))) σ Q):MW (gtV (.int a) (.int b) >>= f) σ Q:=k
theorem w_ge {a b:Int} {f:V→M β} {Q:β→S→Prop} (k:MW (f (.bool (decide (b≤a)))) σ Q):MW (geV (.int a) (.int b) >>= f) σ Q:=k
theorem w_le {a b:Int} {f:V→M β} {Q:β→S→Prop} (k:MW (f (.bool (decide (a≤b)))) σ Q):MW (leV (.int a) (.int b) >>= f) σ Q:=k
theorem kg {m:M α} {f:α→M β} {Q:β→S→Prop} (k:MW m σ (fun a σ'=>MW (f a) σ' Q)):MW (m >>= f) σ Q:=jc.mpr k
theorem gq {a b:M Fl} {Q:Fl→S→Prop} (k:MW a σ (fun f σ'=>match f with | .next=>MW b σ' Q | .brk=>Q .brk σ' | .cont=>Q .cont σ' | .ret v=>Q (.ret v) σ')):MW (seqM a b) σ Q:=yo.mpr k
theorem ye {a:α} {Q:α→S→Prop} (k:Q a σ):MW (pure a:M α) σ Q:=⟨a,σ,rfl,k⟩
theorem xg {x:String} {v:V} {Q:Unit→S→Prop} (k:Q () (σ.put x v)):MW (setv x v) σ Q:=jh.mpr k
theorem gg {b:Bool} {Q:Bool→S→Prop} (k:Q b σ):MW (truV (.bool b)) σ Q:=kad.mpr k
theorem yd6 {x:String} {v:V} {Q:V→S→Prop} (h:σ.lo x=some v) (k:Q v σ):MW (getv x) σ Q:=je.mpr (ja v h k)
end
theorem wao {params:List String} {body:M Fl} {vs:List V} {st st':gb} {v:V} (hl:vs.length=params.length)
  (h:MW body ⟨st,ke params vs⟩ (fun f σ'=>(match f with | .ret u=>u | _=>.none)=v∧σ'.st=st')):funM params body vs st = .ok v st':=by
 refine yc h fun f σ' e h1 h2=>?_
 try clear h
 unfold funM;rw [if_pos hl,e];subst h1 h2
 cases f <;> rfl
noncomputable def gaf (st:gb) (l:Nat) (P:V→Prop) (lt:V→V→Bool):Prop :=
 ∀ ws:List V,∀ a b,P a→P b→∀ lo,ltV a b ⟨st.set l (.lst ws),lo⟩ = .ok (.bool (lt a b)) ⟨st.set l (.lst ws),lo⟩
section
theorem zda {σ:S} {β:Type} {a b:Int} {f:V→M β} {Q:β→S→Prop} (k:MW (f (.int (a + b))) σ Q):MW (wbd (.int a) (.int b) >>= f) σ Q:=k
theorem yda {σ:S} {β:Type} {a b:Int} {f:V→M β} {Q:β→S→Prop} (k:MW (f (.int (a - b))) σ Q):MW (xas (.int a) (.int b) >>= f) σ Q:=k
theorem jda {σ:S} {β:Type} {n:Int} {f:V→M β} {Q:β→S→Prop} (k:MW (f (.rng 0 n 1)) σ Q):MW (zu [.int n] >>= f) σ Q:=k
theorem gd5 {σ:S} {β:Type} {n:Int} {f:V→M β} {Q:β→S→Prop} (k:MW (f (.rng 0 n 1)) σ Q):MW (gp [.int n] >>= f) σ Q:=k
theorem wda {σ:S} {β:Type} {a b:Int} {f:V→M β} {Q:β→S→Prop} (k:MW (f (.rng a b 1)) σ Q):MW (gp [.int a,.int b] >>= f) σ Q:=k
theorem qda {σ:S} {β:Type} {a b:Int} {f:V→M β} {Q:β→S→Prop} (k:MW (f (.int (if b < a then b else a))) σ Q):MW (minB [.int a,.int b] >>= f) σ Q:=k
noncomputable def seqQ (b:M Fl) (Q:Fl→S→Prop):Fl→S→Prop:=fun f σ'=>match f with
 | .next=>MW b σ' Q
 | f=>Q f σ'
theorem kf {σ:S} {a b:M Fl} {Q:Fl→S→Prop} (k:MW a σ (seqQ b Q)):MW (seqM a b) σ Q:=by
 rw [yo];refine k.mono fun f σ' h=>?_
 cases f <;> exact h
theorem kda {σ:S} {b:M Fl} {Q:Fl→S→Prop} (k:MW b σ Q):seqQ b Q .next σ:=k
end
end
section
variable {P:V→Prop} {lt:V→V→Bool}
theorem qao {st:gb} {l:Nat} {ws:List V} {c:Cel} (h:st[l]?=some c):(st.set l (.lst ws))[l]?=some (.lst ws):=by
 rw [List.getElem?_set_self]; exact (List.getElem?_eq_some_iff.mp h).1
theorem xby {st:gb} {l:Nat} {ws:List V} (h:st[l]?=some (.lst ws)):st.set l (.lst ws)=st:=by
 refine qb (List.getElem?_eq_some_iff.mp h) fun h1 h2=>?_;rw [← h2]; exact List.set_getElem_self h1
theorem zck {st:gb} {l:Nat} {σ:S} {ws:List V} {a b:V} {Q:V→S→Prop} (h:gaf st l P lt) (hs:σ.st=st.set l (.lst ws)) (ha:P a) (hb:P b):MW (ltV a b) σ Q↔Q (.bool (lt a b)) σ:=by
 refine yb ?_;obtain ⟨s1,lo⟩:=σ;dsimp only at hs;subst hs;exact h ws a b ha hb lo
theorem kai {l j:Nat} {k:Int} {vs:List V} {σ:S} {Q:V→S→Prop} (h:σ.st[l]?=some (.lst vs)) (hk:k=j) (hj:j < vs.length) (q:Q (nth vs j) σ):MW (getI (.obj l) (.int k)) σ Q:=by
 subst hk
 exact (qp h (by rw [ju,if_pos hj]) (jby hj)).mpr q
structure SdI (st:gb) (l s:Nat) (vs:List V) (x:V) (P:V→Prop) (lt:V→V→Bool) (out:List V) (k:Nat) (σ:S) (ws:List V):Prop where
 h1:σ.lo "heap" = some (.obj l)
 h2:σ.lo "startpos" = some (.int s)
 h3:σ.lo "newitem" = some x
 h4:σ.lo "pos" = some (.int (k:Nat))
 h5:σ.st=st.set l (.lst ws)
 h6:k < ws.length
 h7:∀ a∈ws,P a
 h8:ws.length=vs.length
 h9:sd lt x s ws k=out
theorem qbp {st:gb} {l:Nat} {vs:List V} {s p:Nat} (hl:st[l]?=some (.lst vs)) (hl0:l≠0) (hp:p < vs.length) (hn:vs.length≤4000) (hP:∀ a∈vs,P a) (hlt:gaf st l P lt) :
  z8 [.obj l,.int s,.int p] st = .ok .none (st.set l (.lst (sd lt (nth vs p) s vs p))):=by
 refine wao rfl ?_
 generalize hO:sd lt (nth vs p) s vs p=out
 have hPx:P (nth vs p):=hP _ (xi hp);unfold jat
 apply gq
 ((repeat (first | (with_reducible first | apply w_as | apply we | apply yg | apply qg | apply jg | apply wg | apply w_lt | apply w_gt | apply w_if | apply ye | apply xg | apply gg | apply w_ge | apply w_eq | apply w_ne) | ((with_reducible first | apply zg); · first | exact rfl | assumption))); try with_reducible apply kg)
 refine kai (by exact hl) rfl hp ?_
 ((repeat (first | (with_reducible first | apply w_as | apply we | apply yg | apply qg | apply jg | apply wg | apply w_lt | apply w_gt | apply w_if | apply ye | apply xg | apply gg | apply w_ge | apply w_eq | apply w_ne) | ((with_reducible first | apply zg); · first | exact rfl | assumption))); try with_reducible apply kg)
 apply gq
 refine kby (fun k σ => ∃ ws,SdI st l s vs (nth vs p) P lt out k σ ws) ?_ 4096 p _ (by exact jdo hp hn) ⟨vs,rfl,rfl,rfl,rfl,(xby hl).symm,hp,hP,rfl,hO⟩
 rintro k σ ⟨ws,h1,h2,h3,h4,h5,h6,h7,h8,h9⟩
 have hg:σ.st[l]?=some (.lst ws):=by rw [h5]; exact qao hl
 clear hO
 have hset:∀ us,σ.st.set l (.lst us)=st.set l (.lst us):=fun us=>by rw [h5,List.set_set]
 rw [xbd] at h9;unfold kau xau
 ((repeat (first | (with_reducible first | apply w_as | apply we | apply yg | apply qg | apply jg | apply wg | apply w_lt | apply w_gt | apply w_if | apply ye | apply xg | apply gg | apply w_ge | apply w_eq | apply w_ne) | ((with_reducible first | apply zg); · first | exact rfl | assumption))); try with_reducible apply kg)
 split
 ·rename_i hlt'
  have hsk:s < k:=by have:=of_decide_eq_true hlt'; exact nL17 this
  have hq:(k - 1) / 2 < ws.length:=by exact yar h6
  rw [dif_pos hsk] at h9
  apply gq
  ((repeat (first | (with_reducible first | apply w_as | apply we | apply yg | apply qg | apply jg | apply wg | apply w_lt | apply w_gt | apply w_if | apply ye | apply xg | apply gg | apply w_ge | apply w_eq | apply w_ne) | ((with_reducible first | apply zg); · first | exact rfl | assumption))); try with_reducible apply kg)
  refine gc9.mpr ⟨by lia,?_⟩
  have ek:((k:Int) - 1) / 2=(((k - 1) / 2:Nat):Int):=by (first | lia | omega)
  rw [ek]
  ((repeat (first | (with_reducible first | apply w_as | apply we | apply yg | apply qg | apply jg | apply wg | apply w_lt | apply w_gt | apply w_if | apply ye | apply xg | apply gg | apply w_ge | apply w_eq | apply w_ne) | ((with_reducible first | apply zg); · first | exact rfl | assumption))); try with_reducible apply kg)
  apply gq
  ((repeat (first | (with_reducible first | apply w_as | apply we | apply yg | apply qg | apply jg | apply wg | apply w_lt | apply w_gt | apply w_if | apply ye | apply xg | apply gg | apply w_ge | apply w_eq | apply w_ne) | ((with_reducible first | apply zg); · first | exact rfl | assumption))); try with_reducible apply kg)
  refine kai (by exact hg) rfl hq ?_
  ((repeat (first | (with_reducible first | apply w_as | apply we | apply yg | apply qg | apply jg | apply wg | apply w_lt | apply w_gt | apply w_if | apply ye | apply xg | apply gg | apply w_ge | apply w_eq | apply w_ne) | ((with_reducible first | apply zg); · first | exact rfl | assumption))); try with_reducible apply kg)
  apply gq
  ((repeat (first | (with_reducible first | apply w_as | apply we | apply yg | apply qg | apply jg | apply wg | apply w_lt | apply w_gt | apply w_if | apply ye | apply xg | apply gg | apply w_ge | apply w_eq | apply w_ne) | ((with_reducible first | apply zg); · first | exact rfl | assumption))); try with_reducible apply kg)
  have hPy:P (nth ws ((k - 1) / 2)):=h7 _ (xi hq)
  refine (zck hlt (by exact h5) hPx hPy).mpr ?_
  ((repeat (first | (with_reducible first | apply w_as | apply we | apply yg | apply qg | apply jg | apply wg | apply w_lt | apply w_gt | apply w_if | apply ye | apply xg | apply gg | apply w_ge | apply w_eq | apply w_ne) | ((with_reducible first | apply zg); · first | exact rfl | assumption))); try with_reducible apply kg)
  split
  ·rename_i hc;rw [if_pos hc] at h9
   apply gq
   ((repeat (first | (with_reducible first | apply w_as | apply we | apply yg | apply qg | apply jg | apply wg | apply w_lt | apply w_gt | apply w_if | apply ye | apply xg | apply gg | apply w_ge | apply w_eq | apply w_ne) | ((with_reducible first | apply zg); · first | exact rfl | assumption))); try with_reducible apply kg)
   refine (wu (by exact hg) hl0 rfl h6).mpr ?_
   ((repeat (first | (with_reducible first | apply w_as | apply we | apply yg | apply qg | apply jg | apply wg | apply w_lt | apply w_gt | apply w_if | apply ye | apply xg | apply gg | apply w_ge | apply w_eq | apply w_ne) | ((with_reducible first | apply zg); · first | exact rfl | assumption))); try with_reducible apply kg)
   apply gq
   ((repeat (first | (with_reducible first | apply w_as | apply we | apply yg | apply qg | apply jg | apply wg | apply w_lt | apply w_gt | apply w_if | apply ye | apply xg | apply gg | apply w_ge | apply w_eq | apply w_ne) | ((with_reducible first | apply zg); · first | exact rfl | assumption))); try with_reducible apply kg)
   exact ⟨(k - 1) / 2,by exact ya2 hsk,ws.set k (nth ws ((k - 1) / 2)),h1,h2,h3,rfl,hset _,by rw [List.length_set]; exact hq,zaa h7 hPy,by rw [List.length_set]; exact h8,h9⟩
  ·rename_i hc;rw [if_neg hc] at h9
   ((repeat (first | (with_reducible first | apply w_as | apply we | apply yg | apply qg | apply jg | apply wg | apply w_lt | apply w_gt | apply w_if | apply ye | apply xg | apply gg | apply w_ge | apply w_eq | apply w_ne) | ((with_reducible first | apply zg); · first | exact rfl | assumption))); try with_reducible apply kg)
   refine (wu (by exact hg) hl0 rfl h6).mpr ?_
   ((repeat (first | (with_reducible first | apply w_as | apply we | apply yg | apply qg | apply jg | apply wg | apply w_lt | apply w_gt | apply w_if | apply ye | apply xg | apply gg | apply w_ge | apply w_eq | apply w_ne) | ((with_reducible first | apply zg); · first | exact rfl | assumption))); try with_reducible apply kg)
   exact ⟨rfl,h9 ▸ hset _⟩
 ·rename_i hlt'
  rw [dif_neg (by intro h; exact hlt' (decide_eq_true (by exact nL19 h)))] at h9
  ((repeat (first | (with_reducible first | apply w_as | apply we | apply yg | apply qg | apply jg | apply wg | apply w_lt | apply w_gt | apply w_if | apply ye | apply xg | apply gg | apply w_ge | apply w_eq | apply w_ne) | ((with_reducible first | apply zg); · first | exact rfl | assumption))); try with_reducible apply kg)
  refine (wu (by exact hg) hl0 rfl h6).mpr ?_
  ((repeat (first | (with_reducible first | apply w_as | apply we | apply yg | apply qg | apply jg | apply wg | apply w_lt | apply w_gt | apply w_if | apply ye | apply xg | apply gg | apply w_ge | apply w_eq | apply w_ne) | ((with_reducible first | apply zg); · first | exact rfl | assumption))); try with_reducible apply kg)
  exact ⟨rfl,h9 ▸ hset _⟩
theorem gaf.set {st:gb} {l:Nat} (h:gaf st l P lt) (ws:List V):gaf (st.set l (.lst ws)) l P lt:=by
 intro us a b ha hb lo;rw [List.set_set];exact h us a b ha hb lo
structure SuI (st:gb) (l p:Nat) (vs:List V) (P:V→Prop) (lt:V→V→Bool) (out:List V×Nat) (k:Nat) (σ:S) (ws:List V) (q:Nat):Prop where
 h1:σ.lo "heap" = some (.obj l)
 h2:σ.lo "endpos" = some (.int vs.length)
 h3:σ.lo "startpos" = some (.int p)
 h4:σ.lo "newitem" = some (nth vs p)
 h5:σ.lo "pos" = some (.int (q:Nat))
 h6:σ.lo "childpos" = some (.int (2 * (q:Int) + 1))
 h7:σ.st=st.set l (.lst ws)
 h8:q < ws.length
 h9:∀ a∈ws,P a
 h10:ws.length=vs.length
 h11:down lt ws q=out
 h12:k=vs.length - q
theorem ya6 {st:gb} {l:Nat} {vs:List V} {p:Nat} (hl:st[l]?=some (.lst vs)) (hl0:l≠0) (hp:p < vs.length) (hn:vs.length≤4000) (hP:∀ a∈vs,P a) (hlt:gaf st l P lt) :
  jz [.obj l,.int p] st = .ok .none (st.set l (.lst (su lt vs p))):=by
 refine wao rfl ?_;unfold su
 generalize hO:down lt vs p=out
 have hPx:P (nth vs p):=hP _ (xi hp);unfold wa9
 apply gq
 ((repeat (first | (with_reducible first | apply w_as | apply we | apply yg | apply qg | apply jg | apply wg | apply w_lt | apply w_gt | apply w_if | apply ye | apply xg | apply gg | apply w_ge | apply w_eq | apply w_ne) | ((with_reducible first | apply zg); · first | exact rfl | assumption))); try with_reducible apply kg)
 refine (zq (by exact hl)).mpr ?_
 ((repeat (first | (with_reducible first | apply w_as | apply we | apply yg | apply qg | apply jg | apply wg | apply w_lt | apply w_gt | apply w_if | apply ye | apply xg | apply gg | apply w_ge | apply w_eq | apply w_ne) | ((with_reducible first | apply zg); · first | exact rfl | assumption))); try with_reducible apply kg)
 apply gq
 ((repeat (first | (with_reducible first | apply w_as | apply we | apply yg | apply qg | apply jg | apply wg | apply w_lt | apply w_gt | apply w_if | apply ye | apply xg | apply gg | apply w_ge | apply w_eq | apply w_ne) | ((with_reducible first | apply zg); · first | exact rfl | assumption))); try with_reducible apply kg)
 apply gq
 ((repeat (first | (with_reducible first | apply w_as | apply we | apply yg | apply qg | apply jg | apply wg | apply w_lt | apply w_gt | apply w_if | apply ye | apply xg | apply gg | apply w_ge | apply w_eq | apply w_ne) | ((with_reducible first | apply zg); · first | exact rfl | assumption))); try with_reducible apply kg)
 refine kai (by exact hl) rfl hp ?_
 ((repeat (first | (with_reducible first | apply w_as | apply we | apply yg | apply qg | apply jg | apply wg | apply w_lt | apply w_gt | apply w_if | apply ye | apply xg | apply gg | apply w_ge | apply w_eq | apply w_ne) | ((with_reducible first | apply zg); · first | exact rfl | assumption))); try with_reducible apply kg)
 apply gq
 ((repeat (first | (with_reducible first | apply w_as | apply we | apply yg | apply qg | apply jg | apply wg | apply w_lt | apply w_gt | apply w_if | apply ye | apply xg | apply gg | apply w_ge | apply w_eq | apply w_ne) | ((with_reducible first | apply zg); · first | exact rfl | assumption))); try with_reducible apply kg)
 refine qby.mpr ⟨by exact jc3,?_⟩
 ((repeat (first | (with_reducible first | apply w_as | apply we | apply yg | apply qg | apply jg | apply wg | apply w_lt | apply w_gt | apply w_if | apply ye | apply xg | apply gg | apply w_ge | apply w_eq | apply w_ne) | ((with_reducible first | apply zg); · first | exact rfl | assumption))); try with_reducible apply kg)
 apply gq
 refine kby (fun k σ => ∃ ws q,SuI st l p vs P lt out k σ ws q) ?_ 4096 (vs.length - p) _ (by exact wdo hn) ⟨vs,p,rfl,rfl,rfl,rfl,rfl,rfl,(xby hl).symm,hp,hP,rfl,hO,rfl⟩
 rintro k σ ⟨ws,q,h1,h2,h3,h4,h5,h6,h7,h8,h9,h10,h11,h12⟩
 have hg:σ.st[l]?=some (.lst ws):=by rw [h7]; exact qao hl
 have hset:∀ us,σ.st.set l (.lst us)=st.set l (.lst us):=fun us=>by rw [h7,List.set_set]
 rw [g9] at h11;unfold ga5 za6
 ((repeat (first | (with_reducible first | apply w_as | apply we | apply yg | apply qg | apply jg | apply wg | apply w_lt | apply w_gt | apply w_if | apply ye | apply xg | apply gg | apply w_ge | apply w_eq | apply w_ne) | ((with_reducible first | apply zg); · first | exact rfl | assumption))); try with_reducible apply kg)
 split
 ·rename_i hc
  have hc':2 * q + 1 < ws.length:=by have:=of_decide_eq_true hc; lia
  rw [dif_pos hc'] at h11;have hk1:=yao lt ws q;have hk2:=yay (lt:=lt) hc'
  apply gq
  ((repeat (first | (with_reducible first | apply w_as | apply we | apply yg | apply qg | apply jg | apply wg | apply w_lt | apply w_gt | apply w_if | apply ye | apply xg | apply gg | apply w_ge | apply w_eq | apply w_ne) | ((with_reducible first | apply zg); · first | exact rfl | assumption))); try with_reducible apply kg)
  apply gq
  refine MW.mono (Q:=fun f σ'=>f = .next∧σ'.lo "heap" = some (.obj l)∧σ'.lo "endpos" = some (.int vs.length)∧σ'.lo "startpos" = some (.int p)∧σ'.lo "newitem" = some (nth vs p)∧σ'.lo "pos" = some (.int (q:Nat))∧
   σ'.st=σ.st∧σ'.lo "childpos" = some (.int ((kid lt ws q:Nat):Int))) ?_ ?_
  ·((repeat (first | (with_reducible first | apply w_as | apply we | apply yg | apply qg | apply jg | apply wg | apply w_lt | apply w_gt | apply w_if | apply ye | apply xg | apply gg | apply w_ge | apply w_eq | apply w_ne) | ((with_reducible first | apply zg); · first | exact rfl | assumption))); try with_reducible apply kg)
   split
   ·rename_i hr
    have hr':2 * q + 2 < ws.length:=by have:=of_decide_eq_true hr; lia
    ((repeat (first | (with_reducible first | apply w_as | apply we | apply yg | apply qg | apply jg | apply wg | apply w_lt | apply w_gt | apply w_if | apply ye | apply xg | apply gg | apply w_ge | apply w_eq | apply w_ne) | ((with_reducible first | apply zg); · first | exact rfl | assumption))); try with_reducible apply kg)
    refine kai (j:=2 * q + 1) (by exact hg) (by lia) hc' ?_
    ((repeat (first | (with_reducible first | apply w_as | apply we | apply yg | apply qg | apply jg | apply wg | apply w_lt | apply w_gt | apply w_if | apply ye | apply xg | apply gg | apply w_ge | apply w_eq | apply w_ne) | ((with_reducible first | apply zg); · first | exact rfl | assumption))); try with_reducible apply kg)
    refine kai (j:=2 * q + 2) (by exact hg) (by lia) hr' ?_
    ((repeat (first | (with_reducible first | apply w_as | apply we | apply yg | apply qg | apply jg | apply wg | apply w_lt | apply w_gt | apply w_if | apply ye | apply xg | apply gg | apply w_ge | apply w_eq | apply w_ne) | ((with_reducible first | apply zg); · first | exact rfl | assumption))); try with_reducible apply kg)
    refine (zck hlt (by exact h7) (h9 _ (xi hc')) (h9 _ (xi hr'))).mpr ?_
    ((repeat (first | (with_reducible first | apply w_as | apply we | apply yg | apply qg | apply jg | apply wg | apply w_lt | apply w_gt | apply w_if | apply ye | apply xg | apply gg | apply w_ge | apply w_eq | apply w_ne) | ((with_reducible first | apply zg); · first | exact rfl | assumption))); try with_reducible apply kg)
    cases hb:lt (nth ws (2 * q + 1)) (nth ws (2 * q + 2)) with
    | true=>
     have hkid:kid lt ws q=2 * q + 1:=by unfold kid; rw [if_neg (by rw [hb]; simp)]
     refine (k8 _ _ rfl rfl h1 h2 h3 h4 h5 rfl ?_);rw [hkid]; exact h6
    | false=>
     have hkid:kid lt ws q=2 * q + 2:=by unfold kid; rw [if_pos ⟨hr',hb⟩]
     refine (k8 _ _ rfl rfl h1 h2 h3 h4 h5 rfl ?_);rw [hkid]; rfl
   ·rename_i hr
    have hkid:kid lt ws q=2 * q + 1:=by unfold kid; rw [if_neg (fun h=>hr (decide_eq_true (by (first | lia | omega))))]
    refine (k8 _ _ rfl rfl h1 h2 h3 h4 h5 rfl ?_);rw [hkid]; exact h6
  ·clear h1 h2 h3 h4 h5 h6
   rintro f σ' ⟨rfl,h1,h2,h3,h4,h5,g7,h6⟩
   apply gq
   ((repeat (first | (with_reducible first | apply w_as | apply we | apply yg | apply qg | apply jg | apply wg | apply w_lt | apply w_gt | apply w_if | apply ye | apply xg | apply gg | apply w_ge | apply w_eq | apply w_ne) | ((with_reducible first | apply zg); · first | exact rfl | assumption))); try with_reducible apply kg)
   refine kai (by rw [g7]; exact hg) rfl hk2 ?_
   ((repeat (first | (with_reducible first | apply w_as | apply we | apply yg | apply qg | apply jg | apply wg | apply w_lt | apply w_gt | apply w_if | apply ye | apply xg | apply gg | apply w_ge | apply w_eq | apply w_ne) | ((with_reducible first | apply zg); · first | exact rfl | assumption))); try with_reducible apply kg)
   refine (wu (by rw [g7]; exact hg) hl0 rfl h8).mpr ?_
   ((repeat (first | (with_reducible first | apply w_as | apply we | apply yg | apply qg | apply jg | apply wg | apply w_lt | apply w_gt | apply w_if | apply ye | apply xg | apply gg | apply w_ge | apply w_eq | apply w_ne) | ((with_reducible first | apply zg); · first | exact rfl | assumption))); try with_reducible apply kg)
   apply gq
   ((repeat (first | (with_reducible first | apply w_as | apply we | apply yg | apply qg | apply jg | apply wg | apply w_lt | apply w_gt | apply w_if | apply ye | apply xg | apply gg | apply w_ge | apply w_eq | apply w_ne) | ((with_reducible first | apply zg); · first | exact rfl | assumption))); try with_reducible apply kg)
   refine qby.mpr ⟨by exact jc3,?_⟩
   ((repeat (first | (with_reducible first | apply w_as | apply we | apply yg | apply qg | apply jg | apply wg | apply w_lt | apply w_gt | apply w_if | apply ye | apply xg | apply gg | apply w_ge | apply w_eq | apply w_ne) | ((with_reducible first | apply zg); · first | exact rfl | assumption))); try with_reducible apply kg)
   exact ⟨vs.length - kid lt ws q,by exact qdo hk2 h12 h10 hk1,ws.set q (nth ws (kid lt ws q)),kid lt ws q,h1,h2,h3,h4,rfl,rfl,by show σ'.st.set l _=_; rw [g7]; exact hset _,by rw [List.length_set]; exact hk2,zaa h9 (h9 _ (xi hk2)),by rw [List.length_set]; exact h10,h11,rfl⟩
 ·rename_i hc
  rw [dif_neg (fun h=>hc (decide_eq_true (by omega)))] at h11
  apply gq
  ((repeat (first | (with_reducible first | apply w_as | apply we | apply yg | apply qg | apply jg | apply wg | apply w_lt | apply w_gt | apply w_if | apply ye | apply xg | apply gg | apply w_ge | apply w_eq | apply w_ne) | ((with_reducible first | apply zg); · first | exact rfl | assumption))); try with_reducible apply kg)
  refine (wu (by exact hg) hl0 rfl h8).mpr ?_
  ((repeat (first | (with_reducible first | apply w_as | apply we | apply yg | apply qg | apply jg | apply wg | apply w_lt | apply w_gt | apply w_if | apply ye | apply xg | apply gg | apply w_ge | apply w_eq | apply w_ne) | ((with_reducible first | apply zg); · first | exact rfl | assumption))); try with_reducible apply kg)
  refine (yaa (by
   show z8 [.obj l,.int p,.int q] (σ.st.set l (.lst (ws.set q (nth vs p))))=_;rw [hset]
   exact qbp (qao hl) hl0 (by rw [List.length_set]; exact h8) (by rw [List.length_set]; exact jcy h10 hn) (zaa h9 hPx) (hlt.set _))).mpr ?_
  ((repeat (first | (with_reducible first | apply w_as | apply we | apply yg | apply qg | apply jg | apply wg | apply w_lt | apply w_gt | apply w_if | apply ye | apply xg | apply gg | apply w_ge | apply w_eq | apply w_ne) | ((with_reducible first | apply zg); · first | exact rfl | assumption))); try with_reducible apply kg)
  refine ⟨rfl,?_⟩;show (st.set l _).set l _=_;rw [List.set_set,xk h8,← h11]
end
section
variable {P:V→Prop} {lt:V→V→Bool}
theorem qa9 {st:gb} {l:Nat} {vs:List V} {x:V} (hl:st[l]?=some (.lst vs)) (hl0:l≠0) (h0:0 < vs.length) (hn:vs.length≤4000) (hP:∀ a∈vs,P a) (hx:P x) (hlt:gaf st l P lt) :
  gw [.obj l,x] st = .ok (nth vs 0) (st.set l (.lst (su lt (vs.set 0 x) 0))):=by
 refine wao rfl ?_;unfold kae;simp only [yo,jc,je,xc,jh,ke,zb,wh,String.reduceEq,if_true,if_false,Option.some.injEq,exists_eq_left']
 refine kai (j:=0) (k:=0) (by exact hl) rfl h0 ?_
 simp only [zb,wh,String.reduceEq,if_true,if_false,Option.some.injEq,exists_eq_left']
 refine (wu (j:=0) (by exact hl) hl0 rfl h0).mpr ?_
 simp only [zb,wh,String.reduceEq,if_true,if_false,Option.some.injEq,exists_eq_left']
 refine (yaa (by
  show jz [.obj l,.int ((0:Nat):Int)] (st.set l (.lst (vs.set 0 x)))=_
  exact ya6 (qao hl) hl0 (by rw [List.length_set]; exact h0) (by rw [List.length_set]; exact hn) (zaa hP hx) (hlt.set _))).mpr ?_
 simp only [zb,wh,String.reduceEq,if_true,if_false,Option.some.injEq,exists_eq_left',ke];refine ⟨trivial,?_⟩;rw [List.set_set]
theorem qc6 {q:Int} (hq:0≤q∧q < 1000000):revR (.rng 0 q 1)=pure (.rng (q - 1) (-1) (-1)):=by rw [kbh,if_pos hq]
theorem wbi (a b c:Int) (σ:S) (i:Nat):yf (.rng a b c) σ i=some (if i < qj a b c then some (.int (a + i * c)) else none):=rfl
theorem gby {st:gb} {l:Nat} {vs:List V} (hl:st[l]?=some (.lst vs)) (hl0:l≠0) (hn:vs.length≤4000) (hP:∀ a∈vs,P a) (hlt:gaf st l P lt) :
  qad [.obj l] st = .ok .none (st.set l (.lst (hpfy lt (vs.length / 2) vs))):=by
 refine wao rfl ?_;unfold kay;simp only [yo,jc,je,xc,jh,ke,zb,wh,String.reduceEq,if_true,if_false,Option.some.injEq,exists_eq_left']
 refine (zq (by exact hl)).mpr ?_
 simp only [zb,wh,String.reduceEq,if_true,if_false,Option.some.injEq,exists_eq_left',ybi]
 refine ⟨by exact qbs,?_⟩
 have e:((vs.length:Nat):Int) / 2=((vs.length / 2:Nat):Int):=by lia
 rw [e]
 have hr:revR (.rng 0 ((vs.length / 2:Nat):Int) 1)=pure (.rng (((vs.length / 2:Nat):Int) - 1) (-1) (-1)):=by
  exact qc6 (by lia)
 simp only [zu,xc,hr]
 have hlen:qj (((vs.length / 2:Nat):Int) - 1) (-1) (-1)=vs.length / 2:=by
  have:=qy (((vs.length / 2:Nat):Int) - 1) (-1) (-1)
  rw [xan (by lia)] at this
  lia
 refine xad (vs.length / 2) (fun i σ => ∃ ws,σ.lo "x" = some (.obj l)∧σ.st=st.set l (.lst ws)∧(∀ a∈ws,P a)∧ws.length=vs.length∧hpfy lt (vs.length / 2 - i) ws=hpfy lt (vs.length / 2) vs) ?_ ?_ 4096 0 _ (Nat.zero_le _) (by exact kdo hn)
  ⟨vs,rfl,(xby hl).symm,hP,rfl,rfl⟩
 ·rintro σ ⟨ws,h1,h2,h3,h4,h5⟩
  refine ⟨?_,rfl,?_⟩
  ·rw [wbi,hlen,if_neg (by exact xdo)]
  ·rw [Nat.sub_self] at h5;rw [h2,← h5]; rfl
 ·rintro i σ hi ⟨ws,h1,h2,h3,h4,h5⟩
  refine (ja (.int (((vs.length / 2 - i - 1:Nat):Int))) ?_ ?_)
  ·rw [wbi,hlen,if_pos hi]
   have:(((vs.length / 2:Nat):Int) - 1) + (i:Int) * (-1)=((vs.length / 2 - i - 1:Nat):Int):=by (first | lia | omega)
   rw [this]
  ·unfold way qay;simp only [yo,jc,je,xc,jh,zb,wh,h1,String.reduceEq,if_true,if_false,Option.some.injEq,exists_eq_left']
   refine (yaa (by
    show jz [.obj l,.int ((vs.length / 2 - i - 1:Nat):Int)] σ.st=_;rw [h2]
    exact ya6 (qao hl) hl0 (by exact wcy hi h4) (by exact jcy h4 hn) h3 (hlt.set _))).mpr ?_
   refine (w5 (su lt ws (vs.length / 2 - i - 1)) ?_ ?_ ?_ (by rw [jay]; exact h4) ?_)
   ·simp only [zb,String.reduceEq,if_false]; exact h1
   ·show (st.set l _).set l _=_; rw [List.set_set]
   ·exact fun a ha=>h3 a ((xa3 lt ws _ (by exact wcy hi h4)).mem_iff.mp ha)
   ·rw [← h5]
    have:vs.length / 2 - i=(vs.length / 2 - (i + 1)) + 1:=by exact gdo hi
    rw [this,hpfy]
    congr 2
end
section
variable {K:Glo} {F:Frm}
noncomputable def KeyA (x:Str) (args:Args) (ws:List Value):Prop:= ∃ a b c,ws=[a,b,c]∧(args=⟨[a,b,c],[]⟩∨(args=⟨[a,b],[]⟩∧c = .none)∨args=⟨[a,b],[(x,c)]⟩)
noncomputable def kbt (K:Glo) (x:String) (k:Str) (lvl:Nat) (g:Fun):Prop:= ∃ fa fd body,K.mg (Str.ofString x)=some (.ref fa)∧DefAt K fa fd body∧jbt K lvl (.ref fa) (KeyA k) g
theorem xcq {d:DefRec×List PyData} {x:String} {k:Str} {params:List String} {lvl:Nat} {mb:M Fl} (hd:d∈drecsOf K.p) (hlit:litsOf? d.1.params.defaults=some [PyData.none]) (hx:d.1.name=Str.ofString x) (hsc:d.1.scope.kind = .function) (hco:d.1.scope.isCoroutine=false) (hgen:d.1.scope.isGenerator=false) (hnd:params.Nodup)
  (hbind:∀ (pm code doc:Value) (T:Addr) (args:Args) (ws:List Value),KeyA k args ws→∃ f:Option (Array Value)→Sem (List (Str×Value)),bindArgs {PySem.Calls.docDef d.1.name d.1.params d.1.body d.1.scope pm code doc with defaults:= .ref T} args=seqItems? (.ref T) >>= f∧f (some #[.none])=pure ((params.map Str.ofString).zip ws))
  (hkind:∀ n,∀ y∈params,d.1.scope.names.lookup (Str.ofString y)=some .local∨(d.1.scope.names.lookup (Str.ofString y)=some .cell∧((cellsFrom n d.1.scope.names []).lookup (Str.ofString y)).isSome=true))
  (hb:∀ pm code doc L fa A,Room A lvl→FOk (frm d.1 pm code doc L fa A)→yj K (frm d.1 pm code doc L fa A) d.1.body mb):kbt K x k (lvl + 1) (funM params mb):=by
 refine wrap fun G_ hG_=>?_;obtain ⟨a,o,pm,code,doc,dV,h1,h2,h3,h4,h5⟩:=K.top.dfn d hd;refine hG_ ?_;clear hG_ G_;refine ql (h5.take1 hlit) fun T oT n v1 o_205 hT hdT hv=>?_;clear h5;obtain rfl:=o_205;refine kd (reads_none_inv hv) fun o_206 zZ=>?_;clear hv;obtain rfl:=o_206
 have da:DefAt K a {PySem.Calls.docDef d.1.name d.1.params d.1.body d.1.scope pm code doc with defaults:= .ref T} d.1.body:=⟨⟨o,h2,h3⟩,h4,rfl,rfl,rfl,rfl,hco,hgen,hsc⟩
 refine (x5 a _ d.1.body (by rw [← hx]; exact h1) da ?_)
 refine jbm da hnd (fun args ws s hk hP zZ=>?_) hkind fun L A hr=>hb pm code doc L a A hr (FOk.def hr hsc);refine ya (hbind pm code doc T args ws hP) fun f e1 e2=>?_;exact .of_defaults (items:= #[.none]) rfl (hk _ _ hT) hdT e1 e2
theorem wb5 (fk:FOk F) {x:String} {k:Str} {np pos kp:Pos} {a b e:Expr} {ma mb me:M V} {g:Fun} {lvl:Nat} (hf:kbt K x k lvl g) (hr:Room F.A lvl)
  (ha:SimE K F a ma) (hb:SimE K F b mb) (he:SimE K F e me) (hx:F.env.kindOf (Str.ofString x)=some .globalImplicit:=by kernel_rfl)
  (hst:starEach [a,b] F.env=[(false,eval a F.env),(false,eval b F.env)]:=by rfl) (hdb:(Str.ofString x == ("__debug__" : Str))=false:=by decide) :
  SimE K F (.Call (.Name (Str.ofString x) np) [a,b] [⟨some k,e,kp⟩] pos) (do let v ← ma; let w ← mb; let u ← me; xh g [v,w,u]):=by
 refine yk hf ?_
 try clear hf
 intro fa fd body hg hd hf;intro σ ρ s rel;refine Run.of_wp fun hne=>?_;simp only [yam];refine wpAny_bind (gaw fk rel hx hg ?_ hdb);refine ya hd.obj fun o ho hdat=>?_;refine callWith_function_kw (o:=o) (fd:=fd) ?_;rw [hst];refine evalArgs_kw rfl ?_;show wpAny _ _ (spliced ((false,eval a F.env) :: (false,eval b F.env) :: [])) _ _ s;rw [yi];refine wpAny_bind (Run.bindWp (ha σ ρ s rel) hne fun va σ₁ ρ₁ s₁ wa e1 e2 rel₁ x₁ ra=>?_);rw [e2] at hne ⊢;rw [yi];refine wpAny_bind (wpAny_holding (wpAny_bind ?_))
 refine wpAny_mono (Run.bindWp (P:=fun wb s₂=>wpAny (model K.prog K.w) F.A (do let vs ← holding [wb] (spliced []); pure ([wb] ++ vs)) _ _ s₂) (hb σ₁ ρ₁ s₁ rel₁) hne fun vb σ₂ ρ₂ s₂ wb e3 e4 rel₂ x₂ rb=>?_) (fun zZ zZ q=>q) fun zZ zZ q=>q.up x₁
 rw [e4] at hne ⊢;refine wpAny_bind (wpAny_holding (wpAny_pure (wpAny_pure (wpAny_pure ?_))))
 show wpAny _ _ (evalAll [(do let v ← eval e F.env; standAt pos; pure v)]) _ _ s₂
 refine wpAny_evalAll_cons (wpAny_bind ?_)
 refine wpAny_mono (Run.bindWp (P:=fun wc s₃=>wpAny (model K.prog K.w) F.A (do standAt pos; pure wc) _ _ s₃) (he σ₂ ρ₂ s₂ rel₂) hne fun vc σ₃ ρ₃ s₃ wc e5 e6 rel₃ x₃ rc=>?_) (fun zZ zZ q=>q) fun zZ zZ q=>(q.up x₂).up x₁
 rw [e6] at hne ⊢;refine wpAny_bind (wpAny_standAt (wpAny_pure (wpAny_evalAll_nil ⟨⟨rel₃.base _ _ ho,hdat⟩,?_⟩)));have key:=zbm (pos:=[wa,wb]) (kw:=[(k,wc)]) fk hf hr rel₃ (RepL.cons ((ra.mono x₂).mono x₃) (RepL.cons (rb.mono x₃) (RepL.cons rc RepL.nil))) ⟨wa,wb,wc,rfl,.inr (.inr rfl)⟩;exact wpAny_mono (key.wp hne) (fun zZ zZ q=>((q.up x₃).up x₂).up x₁) fun zZ zZ q=>((q.up x₃).up x₂).up x₁
end
section
variable {K:Glo} {F:Frm}
noncomputable def ybe (h:Heap) (P:Addr) (q:Str):Prop:= ∃ ps,h.get? P=some (tabObj ps)∧TriplesOk ps.toList∧∀ pos cv,codeAmong pos ps.toList=some cv→∃ c,cv = .ref c∧wy h c q
theorem yck {pos:Pos} {cv:Value} {r:List Value} (l:List Value) (h:TriplesOk l) (e:codeAmong pos (l ++ r)=some cv):codeAmong pos l=some cv∨codeAmong pos r=some cv:=by
 fun_induction TriplesOk l with
 | case1=>exact .inr e
 | case2 a t b u c rest ih=>
  simp only [List.cons_append,codeAmong] at e ⊢
  split at e
  ·rename_i hq; rw [if_pos hq]; exact .inl e
  ·rename_i hq; rw [if_neg hq]; exact ih h e
 | case3=>exact h.elim
theorem jck {pos p:Pos} {cv c:Value} (e:codeAmong pos [rawInt p.line,rawInt p.col,c]=some cv):cv=c:=by
 simp only [rawInt,codeAmong] at e
 split at e
 ·exact (Option.some.inj e).symm
 ·(injection e)
section
variable {M:Model} {A:Around} {E:Value→Shared→Prop} {s:Shared} {c P:Addr} {env:Env} {q:Str}
theorem gcq {pos:Pos} {firstLine:Nat} {name:Str} {p:Arguments} {scope:Scope} {body:FuncBody} {Q:Value→Shared→Prop} (hc:env.code = .ref c) (C:CodeHd s.heap c P) (T:ybe s.heap P q)
  (h:∀ c' h' tk,Heap.ExtBut P s.heap h'→ybe h' P q→wy h' c' q→s.heap.objs.size≤h'.objs.size→Q (.ref c') {s with heap:=h',toks:=tk}) :
  wpAny M A (functionCode env pos firstLine name q p scope body) Q E s:=by
 refine yd (id T) fun ps hP ht hk=>?_
 cases hf:codeAmong pos ps.toList with
 | some cv=>
  refine ya (hk _ _ hf) fun c' o_212 hc'=>?_;obtain rfl:=o_212;exact wpAny_functionCode_hit hc (C.code hP ht) hf (h c' s.heap s.toks (fun zZ zZ zZ e=>e) T hc' (Nat.le_refl _))
 | none=>
  refine wpAny_functionCodeX hc (C.code hP ht) (C.tab hP) hf fun c' h' tk hx hge hlt hcode hrec htb hnew=>?_;refine ql hrec fun c₂ oc vs t e2 hoc hd hv=>?_
  try clear hrec
  (injection e2 with c_1; subst c_1)
  refine yd hnew fun P' zZ zZ o_213=>?_
  try clear hnew
  refine kd o_213 fun o_214 zZ=>?_
  try clear o_213
  refine yc o_214 fun oc' vs' hoc' hcls zZ=>?_
  try clear o_214
  rw [hoc] at hoc'; (injection hoc' with c_1; subst c_1)
  have hca:wy h' c' q:=⟨oc,vs,t,hoc,hcls,hd,hv⟩
  have hcne:∀ {b:Addr} {o:Obj},s.heap.get? b=some o→o.cls = .type "code" → b≠P:=by
   rintro b o e hcl rfl
   rw [hP] at e; (injection e with c_1; subst c_1); (injection hcl)
  refine h c' h' tk hx ⟨_,htb.2,?_,fun pos' cv e=>?_⟩ hca (Nat.le_trans hge (Nat.le_of_lt hlt))
  ·have:=TriplesOk_snoc pos.line pos.col (.ref c') ps.toList ht
   simpa using this
  ·have e':codeAmong pos' (ps.toList ++ [rawInt pos.line,rawInt pos.col,.ref c'])=some cv:=by
    simpa using e
   rcases yck _ ht e' with e1 | e1
   ·refine wrap fun G_ hG_=>?_;obtain ⟨d,o_215,od,vd,td,g1,g2,g3⟩:=hk _ _ e1;refine hG_ ?_;clear hG_ G_;clear e e';obtain rfl:=o_215;exact ⟨d,rfl,od,vd,td,hx _ _ (hcne g1 g2) g1,g2,g3⟩
   ·exact (ja c' (jck e1) hca)
end
theorem Rel.tabbed {σ:S} {ρ:List Addr} {s s':Shared} (rel:Rel K F σ ρ s) (htab:σ.st[1]?=some Cel.tab) (hx:Heap.ExtBut K.tabP s.heap s'.heap) (hT:ybe s'.heap K.tabP K.lamQ) (hg:s'.gens=s.gens) (ho:s'.os=s.os) :
  Rel K F σ ρ s'∧Ext F.mine ρ ρ s.heap s'.heap:=by
 obtain ⟨a,ha⟩ : ∃ a,ρ[1]?=some a:=by
  have h1:1 < ρ.length:=by rw [rel.len]; exact (List.getElem?_eq_some_iff.mp htab).1
  exact ⟨_,List.getElem?_eq_getElem h1⟩
 refine ybh (rel.cell 1 a _ ha htab) fun e1 ps hP zZ=>?_;subst e1;refine ya (id hT) fun ps' hP' zZ=>?_
 have hP2:(s'.heap.update K.tabP fun zZ=>tabObj ps).get? K.tabP=some (tabObj ps):=Heap.get?_update_self _ hP' (by rfl)
 have hk:∀ b o,s.heap.get? b=some o→(s'.heap.update K.tabP fun zZ=>tabObj ps).get? b=some o:=fun b o e=>by
  by_cases hb:b=K.tabP
  ·subst hb; rw [hP] at e; (injection e with c_1; subst c_1); exact hP2
  ·rw [Heap.get?_update_other _ _ (Ne.symm hb)]; exact hx b o hb e
 have r1:Rel K F σ ρ {s with heap:=s'.heap.update K.tabP fun zZ=>tabObj ps}:=rel.kept hk rfl rfl
 have x1:Ext F.mine ρ ρ s.heap (s'.heap.update K.tabP fun zZ=>tabObj ps):=Ext.kept hk;have hsb:Heap.SameBut K.tabP (s'.heap.update K.tabP fun zZ=>tabObj ps) s'.heap:=⟨(Heap.size_update ..).symm,fun b hb=>(Heap.get?_update_other _ _ (Ne.symm hb)).symm⟩
 refine kd (r1.updC (s':=s') ha (by decide) hsb (c:= .tab) ⟨rfl,hT⟩ ⟨_,hP'⟩ hg ho) fun r2 x2=>?_
 have e:σ.st.set 1 Cel.tab=σ.st:=by
  refine List.ext_getElem? fun i=>?_
  by_cases hi:i=1
  ·subst hi; rw [List.getElem?_set_self (List.getElem?_eq_some_iff.mp htab).1]; exact htab.symm
  ·rw [List.getElem?_set_ne (Ne.symm hi)]
 rw [e] at r2;exact ⟨r2,x1.trans x2⟩
structure LamOk (F:Frm) (scope:Scope) (cl:List (Str×Addr)) (caps:List String):Prop where
 clos:closureFor scope F.env=pure cl
 cells:∀ x c,cl.lookup x=some c→F.env.cells.lookup x=some c
 caps:∀ x∈caps,F.env.kindOf (Str.ofString x)≠some .local∧∀ c,F.env.cells.lookup (Str.ofString x)=some c→cl.lookup (Str.ofString x)=some c
theorem wb8 {σ:S} {ρ:List Addr} {s:Shared} {cl:List (Str×Addr)} (rel:Rel K F σ ρ s):∀ (caps:List String) (vs:List V),(∀ x∈caps,F.env.kindOf (Str.ofString x)≠some .local∧∀ c,F.env.cells.lookup (Str.ofString x)=some c→cl.lookup (Str.ofString x)=some c)→
  mapO σ.lo caps=some vs→jw K s.heap ρ cl caps vs
 | [],vs,_,e=>(Option.some.inj e).symm
 | x :: xs,vs,h,e=>by
  refine yc (jax e) fun v r e1 e2 o_216=>?_;clear e;obtain rfl:=o_216;refine ya (rel.vars x v e1) fun w h1 h2=>?_;refine kd (h x List.mem_cons_self) fun q1 q2=>?_
  rcases h1 with ⟨k1,_⟩ | ⟨k1,c,ec,n⟩
  ·exact absurd k1 q1
  ·exact (jk v r c w rfl (q2 c ec) n h2 (wb8 rel xs r (fun y hy=>h y (List.mem_cons_of_mem _ hy)) e2))
noncomputable def lamE (k:Nat) (caps:List String):M V:=fun σ=>match σ.st[1]? with
 | some Cel.tab=>match mapO σ.lo caps with
  | some cap=>.ok (.obj σ.st.length) {σ with st:=σ.st ++ [.clo k cap]}
  | none=>.stuck
 | _=>.stuck
theorem zcr (fk:FOk F) {k:Nat} {caps:List String} {args:Arguments} {body:Expr} {scope:Scope} {pos:Pos} {cl:List (Str×Addr)} (hk:K.lams k=⟨args,body,scope,caps⟩)
  (hcode:∃ c,F.env.code = .ref c∧CodeHd K.base c K.tabP) (hq:F.env.qual ++ Str.ofString "<lambda>" = K.lamQ) (ok:LamOk F scope cl caps)
  (hdef:defaultsOf args F.env=([],[]):=by rfl):SimE K F (.Lambda args body scope pos) (lamE k caps):=by
 intro σ ρ s rel;refine Run.of_wp fun hne=>?_;unfold lamE at hne ⊢
 cases htab:σ.st[1]? with
 | none=>rw [htab] at hne; exact absurd rfl hne
 | some c1=>
  rw [htab] at hne
  cases c1 <;> first | exact absurd rfl hne | skip
  dsimp only at hne ⊢
  cases hcap:mapO σ.lo caps with
  | none=>rw [hcap] at hne; exact absurd rfl hne
  | some cap=>
   dsimp only;refine ya hcode fun c hc C=>?_
   try clear hcode
   obtain ⟨a,ha⟩ : ∃ a,ρ[1]?=some a:=by
    have h1:1 < ρ.length:=by rw [rel.len]; exact (List.getElem?_eq_some_iff.mp htab).1
    exact ⟨_,List.getElem?_eq_getElem h1⟩
   refine kd (rel.cell 1 a _ ha htab) fun e1 hT=>?_;subst e1;have hT:ybe s.heap K.tabP K.lamQ:=hT;refine wrap fun G_ hG_=>?_;obtain ⟨bm,ob,b1,b2,b3,b4,b5,b6⟩:=K.top.bmain;refine hG_ ?_;clear hG_ G_
   have tail:∀ (h₁:Heap) (ct:Value),(∀ b o,s.heap.get? b=some o→h₁.get? b=some o)→s.heap.objs.size≤h₁.objs.size→
     wpAny (model K.prog K.w) F.A (do
      let code ← functionCode F.env pos pos.line (Str.ofString "<lambda>") K.lamQ args scope (.expr body)
      let bl ← builtinsFor mainGlobals F.env.builtins
      let n ← nsGet mainGlobals "__name__"
      newObj (.type "function") (.func (kla_fn (Str.ofString "<lambda>") K.lamQ args body scope cl (n.getD .none) code ct |> fun fd=>{fd with builtins:=bl})))
      (QO K F (Rep K) (.ok (.obj σ.st.length) {σ with st:=σ.st ++ [.clo k cap]}) ρ s.heap) (EO K F (.ok (.obj σ.st.length) {σ with st:=σ.st ++ [.clo k cap]}:Res S V) ρ s.heap) {s with heap:=h₁}:=by
    intro h₁ ct hk1 hs1
    have rel₁:Rel K F σ ρ {s with heap:=h₁}:=rel.kept hk1 rfl rfl
    have hT₁:ybe h₁ K.tabP K.lamQ:=by
     refine kd (rel₁.cell 1 _ _ ha htab) fun zZ q=>?_;exact q
    refine wpAny_bind (gcq hc (C.keeps rel₁.base) hT₁ fun c' h' tk hx hT' hca hsz=>?_)
    refine kd (rel₁.tabbed (s':={s with heap:=h',toks:=tk}) htab hx hT' rfl rfl) fun rel₂ x₂=>?_
    have x₀:Ext F.mine ρ ρ s.heap h':=(Ext.kept hk1).trans x₂;refine wpAny_bind (wpAny_builtinsFor (K.top.g.keeps rel₂.base) b1 b2 (rel₂.base _ _ b3) b4 b5 b6 ?_);refine wpAny_bind (wpAny_nsGet (K.top.g.keeps rel₂.base) ?_)
    refine wpAny_newObj_type ?_ (by size_fits)
    have gbd:∀ b o,h'.get? b=some o→(h'.push (kla_obj (Str.ofString "<lambda>") K.lamQ args body scope cl ((K.mg "__name__").getD .none) c' ct)).get? b=some o:=fun b o e=>Heap.get?_push_of_some _ e
    have x₃:Ext F.mine ρ ρ h' (h'.push (kla_obj (Str.ofString "<lambda>") K.lamQ args body scope cl ((K.mg "__name__").getD .none) c' ct)):=Ext.kept gbd
    have rel₃:Rel K F σ ρ {s with heap:=h'.push (kla_obj (Str.ofString "<lambda>") K.lamQ args body scope cl ((K.mg "__name__").getD .none) c' ct),toks:=tk}:=rel₂.kept gbd rfl rfl
    obtain ⟨rel₄,x₄⟩:=rel₂.newAtC (a:=h'.objs.size) (c:= .clo k cap) (s':={s with heap:=h'.push (kla_obj (Str.ofString "<lambda>") K.lamQ args body scope cl ((K.mg "__name__").getD .none) c' ct),toks:=tk}) gbd (Heap.get?_none_of_le (Nat.le_refl _))
     (by
      show ∃ cl' pm c ct',_;rw [hk];refine (zp cl _ c' ct (Heap.get?_push_size _ rfl) ?_ (fun x b e=>rel₃.cels x b (ok.cells x b e)) (wb8 rel₃ caps cap ok.caps hcap))
      exact hca.mono fun b o e zZ=>gbd b o e) rfl rfl
    exact (zd _ _ _ rfl rel₄ (x₀.trans x₄) (Rep.obj_iff.mpr (ja _ (by rw [← rel.len]; exact List.getElem?_concat_length) rfl)))
   refine kla_eval hdef ?_;rw [makeFunction_eq];simp only [List.zip_nil_right,List.filterMap_nil,List.isEmpty_nil,if_true,pure_bind];unfold makeTail;rw [ok.clos,fk.glob,hq];refine wpAny_bind (wpAny_pure ?_)
   cases cl with
   | nil=>
    simp only [List.isEmpty_nil,if_true];refine wpAny_bind (wpAny_pure ?_);exact tail s.heap .none (fun zZ zZ e=>e) (Nat.le_refl _)
   | cons q r=>
    simp only [List.isEmpty_cons,Bool.false_eq_true,if_false];refine wpAny_bind (wpAny_newTextTuple ?_)
    exact tail _ _ (fun b o e=>Heap.get?_push_of_some _ e) (by rw [Heap.size_push]; exact Nat.le_succ _)
end
section
variable {K:Glo} {F:Frm}
noncomputable def xay (scope:Scope) (q:Str) (L fa:Addr) (cd:Value) (cl:List (Str×Addr)) (A:Around):Frm:=⟨envX q scope L fa cd cl,A,[L],true⟩
noncomputable def lamF (p:String) (caps:List String) (mb:M V) (cap:List V):Fun:=fun vs st=>match vs with
 | [v]=>(match mb ⟨st,ke (p :: caps) (v :: cap)⟩ with
  | .ok v σ'=>.ok v σ'.st
  | .exc e σ'=>.exc e σ'.st
  | .stuck=>.stuck)
 | _=>.stuck
noncomputable def wck (K:Glo) (lvl k:Nat) (g:List V→Fun):Prop :=
 ∀ A,Room A lvl→∀ st ρ s,GRel K st ρ s→FrA K A s.heap→∀ (l:Nat) (a:Addr) (cap vs:List V) (ws:List Value),st[l]?=some (Cel.clo k cap)→ρ[l]?=some a→RepL K s.heap ρ vs ws→g cap vs st≠.stuck→
  codeAny (model K.prog K.w) A (.call (.ref a) ⟨ws,[]⟩) (wb7 K A (g cap vs st) ρ s.heap) s
noncomputable def q0 (K:Glo) (lvl:Nat) (LM:Nat→List V→Fun):Prop:= ∀ k,wck K lvl k (LM k)
theorem qb8 {h:Heap} {ρ:List Addr} {cl:List (Str×Addr)}:∀ {xs:List String} {vs:List V} {x:String} {v:V},jw K h ρ cl xs vs→ke xs vs x=some v→x∈xs∧∃ c w,cl.lookup (Str.ofString x)=some c∧h.IsCell c (some w)∧Rep K h ρ v w
 | [],vs,x,v,_,e=>by simp [ke] at e
 | y :: ys,_,x,v,⟨u,r,c,w,e1,e2,e3,e4,e5⟩,e=>by
  subst e1;unfold ke at e
  by_cases hx:x=y
  ·rw [if_pos hx] at e; cases e; subst hx;exact ⟨List.mem_cons_self,c,w,e2,e3,e4⟩
  ·rw [if_neg hx] at e;refine kd (qb8 e5 e) fun h1 h2=>?_;exact ⟨List.mem_cons_of_mem _ h1,h2⟩
theorem xda {lvl k:Nat} {r:LamRec} {p:String} {mb:M V} (hk:K.lams k=r) (hco:r.scope.isCoroutine=false) (hgen:r.scope.isGenerator=false) (hkind:r.scope.kind = .function)
  (hcell:∀ x∈r.scope.names,x.2≠.cell) (hloc:r.scope.names.lookup (Str.ofString p)=some .local) (hfree:∀ x∈r.caps,r.scope.names.lookup (Str.ofString x)=some .free)
  (hbind:∀ (pm cd ct:Value) (cl:List (Str×Addr)) (w:Value),bindArgs (kla_fn (Str.ofString "<lambda>") K.lamQ r.args r.body r.scope cl pm cd ct) ⟨[w],[]⟩=pure [(Str.ofString p,w)])
  (hb:∀ L fa cd cl A,Room A lvl→FOk (xay r.scope K.lamQ L fa cd cl A)→SimE K (xay r.scope K.lamQ L fa cd cl A) r.body mb):wck K (lvl + 1) k (lamF p r.caps mb):=by
 intro A hroom st ρ s g hfa l a cap vs ws hst hρ rv hne
 rcases vs with _ | ⟨v₀,_ | ⟨v₁,vs⟩⟩
 ·exact absurd rfl hne
 case cons.cons=>exact absurd rfl hne
 refine yc (RepL.cons_iff.mp rv) fun w₀ ws' o_217 rv0 rv1=>?_;obtain rfl:=o_217;clear rv;obtain rfl:=RepL.nil_iff.mp rv1;refine ql (g.cell l a _ hρ hst) fun cl pm c ct ho hca hcels hcap=>?_;rw [hk] at ho hcap;refine ze hca fun oc vc tc hoc zZ hdc hqc=>?_
 try clear hca
 refine kla_callFunE (by have:=hroom.2.1; exact nL8 this) ho rfl hco hgen rfl ⟨c,oc,vc,tc,rfl,hoc,hdc,hqc⟩ ?_
 rw [hbind]
 refine wpAny_pure (wpAny_newFunctionEnv hcell (fun x hx=>by rw [List.mem_singleton.mp hx]; exact hloc) (fun h₁ hns hsb=>⟨(K.top.nolimit.keeps g.base).fresh _ hsb,?_⟩) hkind)
 have hkeep:∀ b o,s.heap.get? b=some o→h₁.get? b=some o:=fun b o e=>hsb.extBut b o (Nat.ne_of_lt (Heap.lt_size e)) (Heap.get?_push_of_some _ e);have fL:s.heap.get? s.heap.objs.size=none:=Heap.get?_none_of_le (Nat.le_refl _)
 have bL:K.base.get? s.heap.objs.size=none:=by
  cases e:K.base.get? s.heap.objs.size with
  | none=>rfl
  | some o=>have:=g.base _ _ e; rw [fL] at this; (injection this)
 have fk:FOk (xay r.scope K.lamQ s.heap.objs.size a (.ref c) cl (A.deeper (envX K.lamQ r.scope s.heap.objs.size a (.ref c) cl))):=⟨hkind,rfl,rfl,fun zZ=>hroom.1,by
  have:=(hroom.deeper (envX K.lamQ r.scope s.heap.objs.size a (.ref c) cl)).2.2;show (A.deeper _).units + 1000 < cLine
  exact nL50 this⟩
 have rel:Rel K (xay r.scope K.lamQ s.heap.objs.size a (.ref c) cl (A.deeper (envX K.lamQ r.scope s.heap.objs.size a (.ref c) cl))) ⟨st,ke (p :: r.caps) (v₀ :: cap)⟩ ρ {s with heap:=h₁,toks:=s.toks + 1}:=by
  refine {toGRel:=g.kept hkeep rfl rfl,vars:=?_,loc:=⟨_,hns⟩,cels:=fun x b e=>?_,mineAbove:=?_,mineApart:=?_,mineLoc:=List.mem_singleton.mpr rfl,frs:=?_}
  ·intro x v e
   have e:(if x=p then some v₀ else ke r.caps cap x)=some v:=e
   by_cases hx:x=p
   ·rw [if_pos hx] at e; (injection e with c_1; subst c_1); subst hx
    exact (ja w₀ (.inl (jp hloc _ hns (by simp))) (Rep.mono' (List.prefix_refl _) (zl hkeep) rv0))
   ·rw [if_neg hx] at e;refine qu (qb8 hcap e) fun hx b w h1 h2 h3=>?_;exact (ja w (.inr (jp (.inr (hfree x hx)) b h1 (h2.keeps hkeep))) (Rep.mono' (List.prefix_refl _) (zl hkeep) h3))
  ·refine qb (hcels x b e) fun v n=>?_;exact ⟨v,n.keeps hkeep⟩
  ·intro b hb;obtain rfl:=List.mem_singleton.mp hb;refine wm hns fun o' zZ zZ e zZ=>?_
   try clear hns
   exact (qh bL o' e)
  ·intro b hb hc;obtain rfl:=List.mem_singleton.mp hb;refine ya (g.alive hc) fun o' e zZ=>?_;rw [fL] at e; (injection e)
  ·refine ya hfa fun l hl1 hl2=>?_
   try clear hfa
   refine (gk (envX K.lamQ r.scope s.heap.objs.size a (.ref c) cl) l (by show A.frames.map _=_; rw [hl1]; rfl) rfl ?_)
   intro env he
   rcases List.mem_cons.mp he with rfl | he
   ·refine yk hns fun o' es ep e1 d1 zZ=>?_
    try clear hns
    exact (yy (by show r.scope.kind≠_; rw [hkind]; decide) s.heap.objs.size o' _ _ rfl bL e1 d1)
   ·exact hl2.next (fun b o es n zZ q d=>(gn o es n (hkeep b o q) d)) env he
 have hrun:=hb s.heap.objs.size a (.ref c) cl (A.deeper (envX K.lamQ r.scope s.heap.objs.size a (.ref c) cl)) (hroom.deeper _) fk _ ρ _ rel
 have up:∀ {ρ':List Addr} {h':Heap},Ext [s.heap.objs.size] ρ ρ' h₁ h'→Ext [] ρ ρ' s.heap h':=by
  intro ρ' h' x;refine ⟨x.pre,fun b o' e=>x.alive b o' (hkeep b o' e),fun a ha=>?_,fun b o' e n1 zZ=>x.keep b o' (hkeep b o' e) n1 (fun hm=>?_),fun b o' e f=>x.froz b o' (hkeep b o' e) f⟩
  ·rcases x.new a ha with h1 | h1
   ·exact .inl h1
   ·refine .inr ?_
    cases e:s.heap.get? a with
    | none=>rfl
    | some o'=>have:=hkeep a o' e; rw [h1] at this; (injection this)
  ·rw [List.mem_singleton.mp hm,fL] at e; (injection e)
 have hout:lamF p r.caps mb cap [v₀] st=(match mb ⟨st,ke (p :: r.caps) (v₀ :: cap)⟩ with
  | .ok v σ'=>.ok v σ'.st
  | .exc e σ'=>.exc e σ'.st
  | .stuck=>.stuck):=rfl
 refine kla_codeExpr ?_
 cases em:mb ⟨st,ke (p :: r.caps) (v₀ :: cap)⟩ with
 | stuck=>rw [em] at hout; exact absurd hout hne
 | exc e σ'=>
  rw [em] at hrun hout;refine wpAny_mono hrun (fun zZ zZ h=>h.elim) fun v s' ⟨ρ',rel',x',xr⟩=>?_;refine qb7 (K:=K) (F:=xay r.scope K.lamQ s.heap.objs.size a (.ref c) cl (A.deeper (envX K.lamQ r.scope s.heap.objs.size a (.ref c) cl))) (σ:=σ') xr rel' x' fun s₂ rel₂ x₂ xo=>?_;refine ya xo fun X' f' g'=>?_
  try clear xo
  have f2:∀ b∈X',s.heap.get? b=none:=by
   intro b hb
   cases q:s.heap.get? b with
   | none=>rfl
   | some o'=>have:=hkeep b o' q; rw [f' b hb] at this; (injection this)
  exact .inr ⟨e,σ'.st,v,ρ',hout,rfl,rel₂.toGRel,up x₂,X',f2,g'⟩
 | ok v σ'=>
  rw [em] at hrun hout;refine wpAny_mono hrun (fun w s' ⟨ρ',rel',x',rw'⟩=>?_) fun zZ zZ h=>h.elim;exact .inl (jk v σ'.st w ρ' hout rfl rel'.toGRel (up x') rw')
noncomputable def keyF (LM:Nat→List V→Fun):V→List V→M V
 | .obj l,vs=>fun σ=>match σ.st[l]? with
  | some (.clo k cap)=>xh (LM k cap) vs σ
  | _=>.stuck
 | _,_=>stuck
theorem ka9 (fk:FOk F) {LM:Nat→List V→Fun} {lvl:Nat} (hf:q0 K lvl LM) (hr:Room F.A lvl) {σ:S} {ρ:List Addr} {s:Shared} {f:V} {wf:Value} {vs:List V} {ws:List Value} (rel:Rel K F σ ρ s) (rf:Rep K s.heap ρ f wf) (r:RepL K s.heap ρ vs ws) :
  Run K F (PySem.call wf ws) (Rep K) (keyF LM f vs σ) ρ s:=by
 refine Run.of_wp fun hne=>?_
 cases f with
 | obj l=>
  unfold keyF at hne ⊢;dsimp only at hne ⊢
  cases hc:σ.st[l]? with
  | none=>rw [hc] at hne; exact absurd rfl hne
  | some c=>
   cases c with
   | clo k cap=>
    rw [hc] at hne;dsimp only at hne ⊢;refine ya (Rep.obj_iff.mp rf) fun a hρ o_218=>?_;clear rf;obtain rfl:=o_218
    have hne':LM k cap vs σ.st≠.stuck:=by
     intro e; apply hne; unfold xh; rw [e]
    refine wpAny_call (codeAny_mono (hf k F.A hr σ.st ρ s rel.toGRel rel.frA l a cap vs ws hc hρ r hne') fun r s' h=>?_)
    rcases h with ⟨v,st',w,ρ',e,rfl,gr,x,rv⟩ | ⟨e,st',w,ρ',e1,rfl,gr,x,rv⟩
    ·exact (zd v ({σ with st:=st'}) ρ' (by unfold xh; rw [e]) (rel.called gr x fk) (z0 x) rv)
    ·exact (zd e ({σ with st:=st'}) ρ' (by unfold xh; rw [e1]) (rel.called gr x fk) (z0 x) (rv.toX fun a ha=>(rel.mineAbove a ha).2))
   | _=>rw [hc] at hne; exact absurd rfl hne
 | _=>exact absurd rfl hne
theorem kc6 {σ:S} {ρ:List Addr} {s:Shared} {l k:Nat} {a:Addr} {cap:List V} (rel:Rel K F σ ρ s) (hρ:ρ[l]?=some a) (hc:σ.st[l]?=some (.clo k cap)):∃ fd,s.heap.get? a=some {cls:= .type "function",data:= .func fd}:=by
 refine ku (rel.cell l a _ hρ hc) fun cl pm c ct e zZ=>?_;exact ⟨_,e⟩
noncomputable def chkF:V→M Unit
 | .obj l=>fun σ=>match σ.st[l]? with
  | some (.clo _ _)=>.ok () σ
  | _=>.stuck
 | _=>stuck
theorem ycr {f:V} {σ σ':S} {u:Unit} (h:chkF f σ = .ok u σ'):∃ l k cap,f = .obj l∧σ.st[l]?=some (.clo k cap)∧σ'=σ:=by
 cases f with
 | obj l=>
  unfold chkF at h;dsimp only at h
  cases e:σ.st[l]? with
  | none=>rw [e] at h; (injection h)
  | some c=>
   rw [e] at h
   cases c with
   | clo k cap=>(injection h with c_1 c_2; subst c_1 c_2); exact (x5 l k cap rfl e rfl)
   | _=>(injection h)
 | _=>(injection h)
theorem qb5 {M:Model} {A:Around} {E:Value→Shared→Prop} {s:Shared} {pos:Pos} {a:Addr} {args:List (Bool×Sem Value)} {Q:Value→Shared→Prop}
  (h:wpAny M A (evalArgs (.ref a) true args []) (fun x s₁=>(∃ o fd,s₁.heap.get? a=some o∧o.data = .func fd)∧wpAny M A (PySem.call (.ref a) x.pos x.kw) Q E s₁) E s) :
  wpAny M A (callWith pos (.ref a) [] args []) Q E s:=by
 unfold callWith;refine wpAny_bind (wpAny_holding (wpAny_mono h (fun x s₁ h₁=>?_) fun zZ zZ x=>x));refine kd h₁ ?_
 try clear h₁
 intro o_219 h₁;refine jm o_219 fun o fd ho hd=>?_
 try clear o_219
 have tail:∀ {t:Sem Value},wpAny M A t Q E s₁→wpAny M A (t >>= fun r=>holding [r] point >>= fun zZ=>pure r) Q E s₁ :=
  fun ht=>wpAny_bind (wpAny_mono ht (fun r s₂ hr=>wpAny_bind (wpAny_holding (wpAny_point (wpAny_pure hr)))) fun zZ zZ x=>x)
 refine wpAny_bind (wpAny_standAt ?_);refine wpAny_bind (m:=keeperOf (.ref a)) ?_;unfold keeperOf;refine wpAny_bind (wpAny_load ho ?_);rw [hd];refine wpAny_pure ?_
 cases hs:(args.any (·.1) || ([]:List (Option Str×Sem Value)).any (·.1.isNone))
 ·dsimp only
  split <;> first
   | exact tail h₁
   | exact tail (by unfold callMarked; exact Calls.wpAny_keep h₁)
 ·exact tail (by unfold callMarked; exact Calls.wpAny_keep h₁)
theorem gay (fk:FOk F) {LM:Nat→List V→Fun} {lvl:Nat} (hf:q0 K lvl LM) (hr:Room F.A lvl) {x:String} {np pos:Pos} {arg:Expr} {ma:M V} (ha:SimE K F arg ma)
  (hst:starEach [arg] F.env=[(false,eval arg F.env)]:=by rfl) (hd:(Str.ofString x == ("__debug__" : Str))=false:=by decide) (hc:(Str.ofString x == ("__classdict__" : Str))=false:=by decide) :
  SimE K F (.Call (.Name (Str.ofString x) np) [arg] [] pos) (do let f ← getv x; chkF f; let v ← ma; keyF LM f [v]):=by
 intro σ ρ s rel;refine Run.of_wp fun hne=>?_;simp only [jq];refine wpAny_bind (Run.bindWp (za fk x np hd hc σ ρ s rel) hne fun f σ₁ ρ₁ s₁ wf e1 e2 rel₁ x₁ rf=>?_);rw [e2] at hne ⊢
 cases ec:chkF f σ₁ with
 | stuck=>exact absurd (by rw [M.bind_def,ec]) hne
 | exc e y=>exfalso; unfold chkF at ec; split at ec <;> first | cases ec | (split at ec <;> cases ec)
 | ok u σ₂=>
  refine yk (ycr ec) fun l k cap o_220 hcl o_221=>?_;obtain rfl:=o_220;clear hcl e1 e2;obtain rfl:=o_221;rw [M.bind_ok ec] at hne ⊢;refine ya (Rep.obj_iff.mp rf) fun a hρ o_222=>?_;obtain rfl:=o_222
  refine qb5 (j1 (by rw [kq,hst]; rfl) ?_)
  rw [hst];show wpAny _ _ (spliced ((false,eval arg F.env) :: [])) _ _ s₁;rw [yi]
  refine wpAny_bind (wpAny_mono (Run.bindWp (P:=fun wv s₂=>wpAny (model K.prog K.w) F.A (do let vs ← holding [wv] (spliced []); pure ([wv] ++ vs)) (fun vs s'=>(∃ o fd,s'.heap.get? a=some o∧o.data = .func fd)∧wpAny (model K.prog K.w) F.A (PySem.call (.ref a) vs) (QO K F (Rep K) ((ma >>= fun v=>keyF LM (.obj l) [v]) σ₂) ρ s.heap) (EO K F ((ma >>= fun v=>keyF LM (.obj l) [v]) σ₂) ρ s.heap) s') (EO K F ((ma >>= fun v=>keyF LM (.obj l) [v]) σ₂) ρ s.heap) s₂) (ha σ₂ ρ₁ s₁ rel₁) hne fun v σ₃ ρ₂ s₂ wv e3 e4 rel₂ x₂ rv=>?_) (fun zZ zZ q=>q) fun zZ zZ q=>q.up x₁)
  rw [e4] at hne ⊢
  have ho2:∃ o fd,s₂.heap.get? a=some o∧o.data = .func fd:=by
   unfold keyF at hne;dsimp only at hne
   cases hc2:σ₃.st[l]? with
   | none=>rw [hc2] at hne; exact absurd rfl hne
   | some c2=>
    cases c2 with
    | clo k' cap'=>
     refine qb (kc6 rel₂ (getElem?_prefix x₂.pre hρ) hc2) fun fd ho=>?_;exact (yh _ fd ho rfl)
    | _=>rw [hc2] at hne; exact absurd rfl hne
  refine wpAny_bind (wpAny_holding (wpAny_pure (wpAny_pure ⟨ho2,?_⟩)));exact wpAny_mono ((ka9 fk hf hr rel₂ (rf.mono x₂) (RepL.cons rv RepL.nil)).wp hne) (fun zZ zZ q=>(q.up x₂).up x₁) fun zZ zZ q=>(q.up x₂).up x₁
end
section
variable {K:Glo} {F:Frm}
section
variable {prog:Program} {w:World} {A:Around} {E:Value→Shared→Prop} {s:Shared}
theorem gad {a:Addr} {o:Obj} {Q:Value→Shared→Prop} (ho:s.heap.get? a=some o) (hc:o.cls = .type "list_iterator") (h:Q (.ref a) s):wpAny (model prog w) A (pyIter (.ref a)) Q E s:=by
 have hT:s.TypeIs (.ref a) "list_iterator" :=⟨o,ho,hc⟩
 refine wpAny_pyIter_slot hT slot_listiter_iter (wpAny_call_entry slot_listiter_iter hT entry_listiter_iter ?_ (args_listiter_iter _));show wpAny _ _ (ret (.ref a)) _ _ s
 exact wpAny_pure (kar _ rfl ("list_iterator") _ hT slot_listiter_next.lookup h)
theorem zaz {α:Type} {Q:α→Shared→Prop} (hh:A.handled=none)
  (h:∀ h' e,(∀ b o,s.heap.get? b=some o→h'.get? b=some o)→(∃ o,h'.get? e=some o∧o.cls = .type "StopIteration")→E (.ref e) {s with heap:=h'}):wpAny (model prog w) A (Builtin.SmallTypes.stopIteration:Sem α) Q E s:=by
 unfold Builtin.SmallTypes.stopIteration
 show wpAny _ _ (newExc (.type "StopIteration") [] >>= _) _ _ _
 refine wpAny_bind ?_;simp only [newExc,newTuple]
 refine wpAny_bind (wpAny_newObj_type ?_ (by size_fits))
 refine wpAny_bind (m:=firstArgMember _ _) (wpAny_of_eq (a:=Value.none) (by first | rfl | (simp only [firstArgMember]; rfl)) ?_)
 refine wpAny_newObj_type ?_ (by size_fits)
 dsimp only [raiseNew];refine wpAny_bind (wpAny_handled ?_);rw [hh];refine wpAny_bind (wpAny_pure (wpAny_throw ?_));exact h _ _ (fun b o e=>Heap.get?_push_of_some _ (Heap.get?_push_of_some _ e)) ⟨_,Heap.get?_push_size _ rfl,rfl⟩
end
noncomputable def gj (l:Nat):M (Option V):=fun σ=>match σ.st[l]? with
 | some (.itr k i d)=>if l=0 then .stuck else if d=true then .ok none σ else match σ.st[k]? with
  | some (.lst vs)=>match vs[i]? with
   | some v=>.ok (some v) {σ with st:=σ.st.set l (.itr k (i + 1) false)}
   | none=>.ok none {σ with st:=σ.st.set l (.itr k i true)}
  | _=>.stuck
 | _=>.stuck
theorem yah {σ:S} {ρ:List Addr} {s:Shared} {l:Nat} {a:Addr} {A:Around} {E:Value→Shared→Prop} {Q:Option Value→Shared→Prop} (rel:Rel K F σ ρ s) (hh:A.handled=none) (hρ:ρ[l]?=some a) :
  match gj l σ with
  | .ok (some v) σ'=>(∀ w s',Rel K F σ' ρ s'→Ext F.mine ρ ρ s.heap s'.heap→Heap.ExtBut a s.heap s'.heap→Rep K s'.heap ρ v w→Q (some w) s')→wpAny (model K.prog K.w) A (callSpecial? (.ref a) "__next__") Q E s
  | .ok none σ'=>(∀ e s',Rel K F σ' ρ s'→Ext F.mine ρ ρ s.heap s'.heap→Heap.ExtBut a s.heap s'.heap→(∃ o,s'.heap.get? e=some o∧o.cls = .type "StopIteration")→E (.ref e) s')→wpAny (model K.prog K.w) A (callSpecial? (.ref a) "__next__") Q E s
  | _=>True:=by
 unfold gj
 cases hc:σ.st[l]? with
 | none=>trivial
 | some c=>
  cases c with
  | itr k i d=>
   dsimp only
   by_cases hl0:l=0
   ·rw [if_pos hl0]; trivial
   rw [if_neg hl0];refine yak (rel.cell l a _ hρ hc) fun o ho hcl vs hd hv=>?_
   have hT:s.TypeIs (.ref a) "list_iterator" :=⟨o,ho,hcl⟩
   cases d with
   | true=>
    rw [if_pos rfl];dsimp only;intro h;rw [if_pos rfl] at hv
    refine wpAny_callSpecial?_slot (name:=Str.ofString "__next__") hT slot_listiter_next (wpAny_call_entry slot_listiter_next hT entry_listiter_next ?_ (args_listiter_next _))
    show wpAny _ _ (field (.ref a) 0 >>= _) _ _ s;refine wpAny_bind (wpAny_field ho hd hv ?_)
    show wpAny _ _ (if (Value.none == Value.none)=true then _ else _) _ _ s
    rw [if_pos (show (Value.none == Value.none)=true from by decide)]
    refine wpAny_bind (wpAny_rule (wpAny_bind (zaz (A:=A.in1) hh fun h' e hk he=>?_)))
    exact h e {s with heap:=h'} (rel.kept hk rfl rfl) (Ext.kept hk) (fun b o zZ g=>hk b o g) he
   | false=>
    rw [if_neg (by decide)]
    rw [if_neg (by decide)] at hv
    refine ya hv fun b hb o_223=>?_
    try clear hv
    obtain rfl:=o_223
    cases hk:σ.st[k]? with
    | none=>trivial
    | some c2=>
     cases c2 with
     | lst us=>
      dsimp only;refine jy (rel.cell k b _ hb hk) fun zZ ws n hL hr=>?_
      have hab:b≠a:=by
       rintro rfl
       have e:s.heap.get? b=_:=hL
       rw [ho] at e; (injection e with c_1; subst c_1); (injection hd)
      cases hu:us[i]? with
      | none=>
       dsimp only;intro h
       have hw:ws.toArray[i]?=none:=by
        have:=hr.length;simp only [List.getElem?_toArray,List.getElem?_eq_none_iff] at hu ⊢; exact zdp this hu
       refine wpAny_callSpecial?_slot (name:=Str.ofString "__next__") hT slot_listiter_next (wpAny_call_entry slot_listiter_next hT entry_listiter_next ?_ (args_listiter_next _))
       show wpAny _ _ (field (.ref a) 0 >>= _) _ _ s;refine wpAny_bind (wpAny_field ho hd (x:= .ref b) rfl ?_)
       show wpAny _ _ (if (Value.ref b == Value.none)=true then _ else _) _ _ s
       rw [if_neg (show ¬ ((Value.ref b == Value.none)=true) from Bool.false_ne_true)]
       show wpAny _ _ (field (.ref a) 1 >>= _) _ _ s;refine wpAny_bind (wpAny_field ho hd (x:= .int i 0) rfl ?_);show wpAny _ _ (seqItems? (.ref b) >>= _) _ _ s;refine wpAny_bind (wpAny_seqItems hL rfl ?_);simp only [Int.toNat_natCast,hw]
       refine wpAny_bind (wpAny_rule (wpAny_bind (wpAny_setField ho hd (by simp) ?_)))
       have hsb:Heap.SameBut a s.heap (s.heap.update a (Obj.mapFields (·.setIfInBounds 0 Value.none))):=Heap.SameBut.update ..;have hself:(s.heap.update a (Obj.mapFields (·.setIfInBounds 0 Value.none))).get? a=some (Obj.mapFields (·.setIfInBounds 0 Value.none) o):=Heap.get?_update_self _ ho (Obj.isFreed_of_fields (Obj.data_mapFields hd _))
       obtain ⟨r1,x1⟩:=rel.updC (c:= .itr k i true) (s':={s with heap:=s.heap.update a (Obj.mapFields (·.setIfInBounds 0 Value.none))}) hρ hl0 hsb
        ⟨_,hself,(Obj.cls_mapFields ..).trans hcl,_,Obj.data_mapFields hd _,by simp⟩ ⟨_,hself⟩ rfl rfl
       refine zaz (A:=A.in1) hh fun h' e hk' he=>?_
       exact h e {s with heap:=h'} (r1.kept hk' rfl rfl) (x1.trans (Ext.kept hk')) (fun b o nb g=>hk' b o (hsb.extBut b o nb g)) he
      | some v=>
       dsimp only;intro h;refine ya (hr.get? hu) fun x hx rx=>?_
       have hw:ws.toArray[i]?=some x:=by simpa using hx
       refine wpAny_callSpecial?_slot (name:=Str.ofString "__next__") hT slot_listiter_next (wpAny_call_entry slot_listiter_next hT entry_listiter_next ?_ (args_listiter_next _))
       show wpAny _ _ (field (.ref a) 0 >>= _) _ _ s;refine wpAny_bind (wpAny_field ho hd (x:= .ref b) rfl ?_)
       show wpAny _ _ (if (Value.ref b == Value.none)=true then _ else _) _ _ s
       rw [if_neg (show ¬ ((Value.ref b == Value.none)=true) from Bool.false_ne_true)]
       show wpAny _ _ (field (.ref a) 1 >>= _) _ _ s;refine wpAny_bind (wpAny_field ho hd (x:= .int i 0) rfl ?_);show wpAny _ _ (seqItems? (.ref b) >>= _) _ _ s;refine wpAny_bind (wpAny_seqItems hL rfl ?_);simp only [Int.toNat_natCast,hw]
       refine wpAny_bind (wpAny_setField ho hd (by simp) ?_)
       have hsb:Heap.SameBut a s.heap (s.heap.update a (Obj.mapFields (·.setIfInBounds 1 (rawInt (i + 1))))):=Heap.SameBut.update ..;have hself:(s.heap.update a (Obj.mapFields (·.setIfInBounds 1 (rawInt (i + 1))))).get? a=some (Obj.mapFields (·.setIfInBounds 1 (rawInt (i + 1))) o):=Heap.get?_update_self _ ho (Obj.isFreed_of_fields (Obj.data_mapFields hd _))
       obtain ⟨r1,x1⟩:=rel.updC (c:= .itr k (i + 1) false) (s':={s with heap:=s.heap.update a (Obj.mapFields (·.setIfInBounds 1 (rawInt (i + 1))))}) hρ hl0 hsb
        ⟨_,hself,(Obj.cls_mapFields ..).trans hcl,_,Obj.data_mapFields hd _,by
         rw [if_neg (by decide)]; exact (ja b hb (by simp [rawInt]))⟩ ⟨_,hself⟩ rfl rfl
       exact wpAny_pure (ja _ rfl (h x _ r1 x1 hsb.extBut (rx.mono x1)))
     | _=>trivial
  | _=>trivial
end
section
variable {K:Glo} {F:Frm}
noncomputable def j3:List V→M V
 | [.obj l]=>fun σ=>match σ.st[l]? with
  | some (.lst _)=>.ok (.obj σ.st.length) {σ with st:=σ.st ++ [.itr l 0 false]}
  | some (.itr _ _ _)=>.ok (.obj l) σ
  | _=>.stuck
 | _=>stuck
theorem jbe {prog:Program} {w:World} {A:Around} {E:Value→Shared→Prop} {s:Shared} {x:Value} {Q:Value→Shared→Prop} (h:wpAny (model prog w) A.in1 (pyIter x) Q E s):wpAny (model prog w) A (PySem.call (.builtin "iter") [x]) Q E s:=by
 refine Calls.call_function_entry (by decide +kernel) (by decide +kernel) kdk_entry_iter (kdk_args_iter _) ?_
 unfold Builtin.«iter»;refine wpAny_bind (wpAny_pure ?_);exact wpAny_bind (wpAny_mono h (fun v s' q=>wpAny_pure (ja v rfl q)) fun zZ zZ e=>e)
theorem zag:wt K (.builtin "iter") j3:=by
 intro F fk hnh σ ρ s vs ws rel r;unfold j3
 split
 ·rename_i l;refine yc (RepL.cons_iff.mp r) fun x r' o_224 r1 r2=>?_;obtain rfl:=o_224;obtain rfl:=RepL.nil_iff.mp r2;refine ya (Rep.obj_iff.mp r1) fun a hρ o_225=>?_;clear r;obtain rfl:=o_225
  cases hl:σ.st[l]? with
  | none=>exact Run.stuck
  | some c=>
   cases c with
   | lst us=>
    dsimp only;refine jy (rel.cell l a _ hρ hl) fun _ ws n hL _=>?_;refine Run.ok (jbe (wpAny_pyIter_list hL.isList ?_))
    obtain ⟨r1,x1⟩:=rel.newAtC (a:=s.heap.objs.size) (c:= .itr l 0 false) (s':={s with heap:=s.heap.push {cls:= .type "list_iterator",data:= .fields #[.ref a,.int 0 0]}}) (fun b o e=>Heap.get?_push_of_some _ e) (Heap.get?_none_of_le (Nat.le_refl _))
     ⟨_,Heap.get?_push_size _ rfl,rfl,_,rfl,by rw [if_neg (by decide)]; exact (ja a hρ rfl)⟩ rfl rfl
    exact (gc _ r1 x1 (Rep.obj_iff.mpr (ja _ (by rw [← rel.len]; exact List.getElem?_concat_length) rfl)))
   | itr k i d=>
    dsimp only;refine yd (rel.cell l a _ hρ hl) fun o ho hc _=>?_;exact Run.ok (jbe (gad ho hc ⟨ρ,rel,Ext.refl ..,r1⟩))
   | _=>exact Run.stuck
 ·exact Run.stuck
theorem jcr {l:Nat} {σ σ':S} {v:V} (h:gj l σ = .ok (some v) σ'):∃ k i d,σ'.st[l]?=some (Cel.itr k i d):=by
 unfold gj at h
 cases hc:σ.st[l]? with
 | none=>rw [hc] at h; (injection h)
 | some c=>
  rw [hc] at h
  cases c with
  | itr k i d=>
   dsimp only at h
   split at h
   ·(injection h)
   ·split at h
    ·(exfalso; exact nomatch h)
    ·cases hk:σ.st[k]? with
     | none=>rw [hk] at h; (injection h)
     | some c2=>
      rw [hk] at h
      cases c2 with
      | lst us=>
       dsimp only at h
       cases hu:us[i]? with
       | none=>rw [hu] at h; (exfalso; exact nomatch h)
       | some u=>
        rw [hu] at h
        cases h
        exact (qa2 k (i + 1) false (List.getElem?_set_self (List.getElem?_eq_some_iff.mp hc).1))
      | _=>(injection h)
  | _=>(injection h)
theorem wcr (fk:FOk F) (hnh:F.nh=true) {target:Expr} {a:Addr} {l:Nat} {ρ₁:List Addr} {h₁:Heap} (hρ:ρ₁[l]?=some a) :
  GIter K F target a [] (fun i h=>i=0→∃ o,h.get? a=some o∧o.cls = .type "list_iterator") (fun zZ=>gj l) ρ₁ h₁ where
 hid:=fun i h zZ b hb=>by (exfalso; exact nomatch hb)
 frame0:=fun h h' q hk zZ=>by refine ya (q rfl) fun o e c=>?_; exact (ja o (hk a o e) c)
 frame:=fun i h h' zZ zZ q=>by (injection q)
 self:=fun s A Q E q h=>by refine ya (q rfl) fun o e c=>?_; exact gad e c h
 step:=by
  intro σ ρ s i rel x _ _ _ _;have hρ':=getElem?_prefix x.pre hρ
  cases en:gj l σ with
  | stuck=>trivial
  | exc e y=>trivial
  | ok ov σ'=>
   cases ov with
   | none=>
    dsimp only
    have h:=yah (K:=K) (F:=F) (A:=F.A) (Q:=fun r s'=>False) (E:=fun e s' => ∃ a',e = .ref a'∧Rel K F σ' ρ s'∧Ext F.mine ρ ρ s.heap s'.heap∧∃ o,s'.heap.get? a'=some o∧o.cls = .type "StopIteration") rel (fk.hd hnh) hρ'
    rw [en] at h;unfold pyNext;refine wpAny_bind (wpAny_attempt (wpAny_mono (h fun e s' r' x' zZ he=>(gu e rfl r' x' he)) (fun zZ zZ q=>q.elim) fun e s' q=>?_));refine wrap fun G_ hG_=>?_;obtain ⟨a',o_226,r',x',o,ho,hc⟩:=q;refine hG_ ?_;clear hG_ G_;obtain rfl:=o_226
    refine wpAny_bind (wpAny_isInstance (T:= "StopIteration") (b:=true) ⟨o,ho,hc⟩ isSubtype_stop ?_)
    exact wpAny_pure (zy rfl ρ r' (List.prefix_refl _) (fun ρ₀ h₀ y zZ=>y.trans x'))
   | some v=>
    dsimp only;have h:=yah (K:=K) (F:=F) (A:=F.A) (Q:=fun r s' => ∃ w,r=some w∧Rel K F σ' ρ s'∧Ext F.mine ρ ρ s.heap s'.heap∧Rep K s'.heap ρ v w) (E:=fun e s'=>False) rel (fk.hd hnh) hρ';rw [en] at h;unfold pyNext;refine wpAny_bind (wpAny_attempt (wpAny_mono (h fun w s' r' x' zZ rv=>(gu w rfl r' x' rv)) (fun r s' q=>?_) fun e s' q=>q.elim));refine wrap fun G_ hG_=>?_;obtain ⟨w,o_227,r',x',rv⟩:=q;refine hG_ ?_;clear hG_ G_;obtain rfl:=o_227;refine wpAny_pure (ja w rfl (fun Q E k=>?_));refine wrap fun G_ hG_=>?_;obtain ⟨k1,i1,d1,hc⟩:=jcr en;refine hG_ ?_;clear hG_ G_;refine yd (r'.cell l a _ hρ' hc) fun o ho hcl zZ=>?_
    exact yas ho hcl (by decide) (k s' ρ r' ⟨x'.pre,x'.alive,x'.new,fun b o e n1 zZ n2=>x'.keep b o e n1 n2,fun b o e f zZ=>x'.froz b o e f⟩ (fun q=>by (injection q)) rv)
theorem qck (nx:Nat→M (Option V)) (t:V→M Unit) (b:M Fl) (n i:Nat) (σ:S):forN nx t b (n + 1) i σ=(match nx i σ with
  | .ok none σ'=>.ok .next σ'
  | .ok (some v) σ'=>(t v >>= fun zZ=>b >>= forK (forN nx t b n (i + 1))) σ'
  | _=>.stuck):=by
 have e:forK (forN nx t b n (i + 1))=fun f=>(match f with
   | .next=>forN nx t b n (i + 1)
   | .cont=>forN nx t b n (i + 1)
   | .brk=>pure .next
   | .ret v=>pure (.ret v)):=by funext f; cases f <;> rfl
 rw [e,forN]
 all_goals (dsimp only; cases nx i σ with
  | ok ov y=>cases ov <;> rfl
  | _=>rfl)
theorem zbz {target:Expr} {body:List Stmt} {t:V→M Unit} {b:M Fl} (ht:SimT K F target t) (hb:yj K F body b) {I:Addr} {fp:List Addr} {St:Nat→Heap→Prop} {nx:Nat→M (Option V)}
  {σ:S} {ρ ρ₀:List Addr} {s:Shared} {h₀:Heap} (hI:GIter K F target I fp St nx ρ₀ h₀) (rel:Rel K F σ ρ s) (x₀:Ext F.mine ρ₀ ρ h₀ s.heap) (h0:∀ b∈fp,h₀.get? b=none) (hbase:∀ b∈fp,K.base.get? b=none)
  (hmi:∀ b∈fp,b∉F.mine) (hρ:∀ b∈fp,b∉ρ) (hs:St 0 s.heap) (n:Nat) (hne:forN nx t b n 0 σ≠.stuck) :
  wpAny (model K.prog K.w) F.A (runOwn (.forLoop target (.ref I) body [] F.env) F.env) (QO K F (qs K) (forN nx t b n 0 σ) ρ₀ h₀) (EO K F (forN nx t b n 0 σ) ρ₀ h₀) s:=by
 refine wpAny_runOwn ?_
 refine kah (R:=fun r s'=>match r with | .ok f=>QO K F (qs K) (forN nx t b n 0 σ) ρ₀ h₀ f s' | .error e=>cameBackBy (model K.prog K.w) F.A F.env (EO K F (forN nx t b n 0 σ) ρ₀ h₀) e s')
  (QO K F (qs K) (forN nx t b n 0 σ) ρ₀ h₀) (EO K F (forN nx t b n 0 σ) ρ₀ h₀) (fun zZ zZ q=>q) (fun zZ zZ hx=>hx.notedN fun zZ zZ q=>q.back)
  (fun k s' => ∃ σ₁ ρ' i,Rel K F σ₁ ρ' s'∧forN nx t b k i σ₁=forN nx t b n 0 σ∧Ext F.mine ρ₀ ρ' h₀ s'.heap∧(∀ b∈fp,b∉ρ')∧St i s'.heap) ?_ n
  ⟨σ,ρ,0,rel,rfl,x₀,hρ,hs⟩
 generalize forN nx t b n 0 σ=out at hne ⊢
 rintro k s₁ ⟨σ₁,ρ',i,rel₁,e₁,x₁,hρ₁,hs₁⟩
 cases k with
 | zero=>exact absurd e₁.symm hne
 | succ k=>
  have e₀:(match nx i σ₁ with
   | .ok none σ'=>.ok .next σ'
   | .ok (some v) σ'=>(t v >>= fun zZ=>b >>= forK (forN nx t b k (i + 1))) σ'
   | _=>.stuck:Res S Fl)=out:=e₁ ▸ (qck ..).symm
  clear e₁;have hstep:=hI.step σ₁ ρ' s₁ i rel₁ x₁ hρ₁ hmi hbase hs₁
  cases en:nx i σ₁ with
  | stuck=>rw [en] at e₀; exact absurd e₀.symm hne
  | exc x y=>rw [en] at e₀; exact absurd e₀.symm hne
  | ok ov σn=>
   rw [en] at hstep e₀
   cases ov with
   | none=>
    refine wpAny_mono hstep (fun r s₂ h=>?_) fun zZ zZ h=>h.elim;refine xar h fun o_228 ρ₂ r2 y1 y2=>?_
    try clear h
    obtain rfl:=o_228;exact (zd .next σn ρ₂ e₀.symm r2 (y2 _ _ x₁ h0) rfl)
   | some v=>
    have hold:∀ {ρ₂ ρ₃:List Addr} {g g':Heap} {i:Nat},Ext F.mine ρ₂ ρ₃ g g'→(∀ b∈fp,b∉ρ₂)→St (i + 1) g→St (i + 1) g'∧(∀ b∈fp,b∉ρ₃):=by
     intro ρ₂ ρ₃ g g' i x hn e;refine ⟨hI.frame i g g' e fun b hb o ho=>?_,fun b hb hin=>?_⟩
     ·refine ya (hI.hid (i + 1) g e b hb) fun o1 g1 d1=>?_;rw [g1] at ho; cases ho;refine ya (x.keep b o g1 (hn b hb) (hmi b hb)) fun o' e' l=>?_;rw [e',l.same d1]
     ·rcases x.new b hin with q | q
      ·exact hn b hb q
      ·refine ya (hI.hid (i + 1) g e b hb) fun o1 g1 d1=>?_;rw [g1] at q; (injection q)
    refine wpAny_mono hstep (fun r s₂' h=>?_) fun zZ zZ h=>h.elim;obtain ⟨w,rfl,h⟩:=h;refine h _ _ fun s₂ ρ₂ rel₂ y₂ hs₂ rv=>?_
    have hρ₂:∀ b∈fp,b∉ρ₂:=fun b hb hin=>by
     rcases y₂.new b hin with q | q
     ·exact hρ₁ b hb q
     ·refine ya (hI.hid i _ hs₁ b hb) fun o g zZ=>?_;rw [g] at q; (injection q)
    refine (ht σn ρ₂ s₂ v w rel₂ rv).stepW (x₁.hide y₂ h0) hne e₀ id fun zZ σ₃ ρ₃ zZ s₃ e₃ rel₃ y₃ x₃ zZ=>?_;refine kd (hold y₃ hρ₂ hs₂) fun ho₃ hρ₃=>?_;refine (hb σ₃ ρ₃ s₃ rel₃).stepW x₃ hne e₃ id fun f σ₄ ρ₄ wf s₄ e₄ rel₄ y₄ x₄ rf=>?_;refine kd (hold y₄ hρ₃ ho₃) fun ho₄ hρ₄=>?_
    cases f with
    | next=>have:wf = .next:=rf; subst this; exact ⟨k,Nat.lt_succ_self _,σ₄,ρ₄,i + 1,rel₄,e₄,x₄,hρ₄,ho₄⟩
    | cont=>have:wf = .cont:=rf; subst this; exact ⟨k,Nat.lt_succ_self _,σ₄,ρ₄,i + 1,rel₄,e₄,x₄,hρ₄,ho₄⟩
    | brk=>have:wf = .brk:=rf; subst this; exact (zd .next σ₄ ρ₄ e₄.symm rel₄ x₄ rfl)
    | ret v=>obtain ⟨w,e,r⟩:=rf; subst e; exact ⟨.ret v,σ₄,ρ₄,e₄.symm,rel₄,x₄,w,rfl,r⟩
noncomputable def ga3:V→M (Nat→M (Option V))
 | .obj l=>fun σ=>match σ.st[l]? with
  | some (.itr _ _ _)=>.ok (fun _=>gj l) σ
  | _=>.stuck
 | _=>fun _=>.stuck
theorem xbn (fk:FOk F) {target iter:Expr} {body:List Stmt} {mi:M V} {t:V→M Unit} {b:M Fl} (pos:Pos) (n:Nat) (hi:SimE K F iter mi) (ht:SimT K F target t) (hb:yj K F body b)
  (hs:∀ x,foldedSetIterable iter F.env x=pure x:=by intro _; rfl) (hnh:F.nh=true:=by rfl) :
  SimS K F (.For target iter body [] pos) (do let v ← mi; let nx ← ga3 v; forN nx t b n 0):=by
 intro σ ρ s rel;simp only [exec_For];refine Run.standAt (Run.bind (hi σ ρ s rel) fun v σ₁ ρ₁ s₁ w zZ rel₁ x₁ rv=>?_);rw [hs w,w4];refine Run.standAt ?_;refine Run.of_wp fun hne=>?_
 cases v with
 | obj l=>
  unfold ga3 at hne ⊢
  cases hc:σ₁.st[l]? with
  | none=>exact absurd (by rw [M.bind_def]; simp only [hc]) hne
  | some c=>
   cases c with
   | itr k i d=>
    refine ya (Rep.obj_iff.mp rv) fun a hρ o_230=>?_;clear rv;obtain rfl:=o_230;refine yd (rel₁.cell l a _ hρ hc) fun o ho hcl zZ=>?_
    have e:((fun σ=>match σ.st[l]? with | some (.itr _ _ _)=>.ok (fun zZ=>gj l) σ | _=>.stuck:M (Nat→M (Option V))) >>= fun nx=>forN nx t b n 0) σ₁=forN (fun zZ=>gj l) t b n 0 σ₁:=by
     rw [M.bind_def]; simp only [hc]
    rw [e] at hne ⊢;refine wpAny_bind (wpAny_holding (gad ho hcl ?_))
    exact zbz ht hb (wcr fk hnh hρ) rel₁ (Ext.refl ..) (fun zZ h=>by (exfalso; exact nomatch h)) (fun zZ h=>by (exfalso; exact nomatch h)) (fun zZ h=>by (exfalso; exact nomatch h)) (fun zZ h=>by (exfalso; exact nomatch h)) (fun zZ=>(ja o ho hcl)) n hne
   | _=>exact absurd (by rw [M.bind_def]; simp only [hc]) hne
 | _=>exact absurd rfl hne
end
section
variable {K:Glo} {F:Frm}
section
variable {σ:S} {ρ:List Addr} {s s':Shared} {fp:List Addr}
noncomputable def kck (h:Heap) (b:Addr):Prop:= ∃ o,h.get? b=some o∧o.cls = .type "list" ∧ ∃ xs n,o.data = .seq xs n
theorem xce (g:GRel K σ.st ρ s) (ho:∀ a∈fp,Hid s.heap a∨a∈K.own∨kck s.heap a) {b:Addr} {o:Obj} (e:s.heap.get? b=some o) (h:∀ vs,o.data≠.fields vs) (h2:∀ xs n,o.data≠.seq xs n):b∉fp:=fun q=>by
 rcases ho b q with ⟨o',vs,g',d,_⟩ | q | ⟨o',g',_,xs,n,d⟩
 ·rw [e] at g'; (injection g' with c_1; subst c_1); exact h vs d
 ·refine wrap fun G_ hG_=>?_;obtain ⟨o',g',_,xs,n,d⟩:=g.own b q;refine hG_ ?_;clear hG_ G_
  rw [e] at g'; (injection g' with c_1; subst c_1); exact h2 xs n d
 ·rw [e] at g'; (injection g' with c_1; subst c_1); exact h2 xs n d
theorem Rel.hidO (rel:Rel K F σ ρ s) (hρ:∀ a∈fp,a∉ρ) (hb:∀ a∈fp,K.base.get? a=none) (hm:∀ a∈fp,a∉F.mine) (ho:∀ a∈fp,Hid s.heap a∨a∈K.own∨kck s.heap a) (hx:∀ b o,b∉fp→s.heap.get? b=some o→s'.heap.get? b=some o)
  (hw:∀ t∈K.own,t∈fp→∃ o,s'.heap.get? t=some o∧o.cls = .type "tuple" ∧ ∃ xs n,o.data = .seq xs n) (hg:s'.gens=s.gens) (hos:s'.os=s.os):Rel K F σ ρ s':=by
 have ht:∀ b o,s.heap.get? b=some o→Froz o→(o.cls = .type "tuple" → b∉K.own)→s'.heap.get? b=some o:=fun b o e f q=>by
  refine hx b o (fun hq=>?_) e
  rcases ho b hq with ⟨o',vs,g',d1,d2⟩ | h | ⟨o',g',c,_⟩
  ·exact kj g' d1 d2 e f rfl
  ·refine yd (rel.own b h) fun o' g' c zZ=>?_
   rw [e] at g'; (injection g' with c_1; subst c_1); exact q c h
  ·rw [e] at g'; (injection g' with c_1; subst c_1)
   rcases f with ⟨f,_⟩ | ⟨f | f,_⟩ <;> (rw [c] at f; exact absurd f (by decide))
 have hcell:∀ c v,s.heap.IsCell c v→s'.heap.IsCell c v:=fun c v n=>by
  refine ya n fun o e d=>?_
  try clear n
  exact (ja o (hx c o (xce rel.toGRel ho e (by rw [d]; exact fun zZ q=>by (injection q)) (by rw [d]; exact fun zZ zZ q=>by (injection q))) e) d)
 have hns:∀ {a:Addr} {m:Str→Option Value},s.heap.Ns a m→s'.heap.Ns a m:=fun {a m} n=>by
  refine yk n fun o es ep e d r=>?_
  try clear n
  exact (x5 o es ep (hx a o (xce rel.toGRel ho e (by rw [d]; exact fun zZ q=>by (injection q)) (by rw [d]; exact fun zZ zZ q=>by (injection q))) e) d r)
 refine {gens:=hg.trans rel.gens,os:=hos.trans rel.os,base:=fun b o e=>hx b o (fun q=>by rw [hb b q] at e; (injection e)) (rel.base b o e),len:=rel.len,cell:=fun l b c h1 h2=>?_,nodup:=rel.nodup,above:=rel.above,own:=fun t ht'=>?_,vars:=fun y u e=>?_,loc:=?_,cels:=fun y c e=>?_,mineAbove:=fun b hb'=>?_,mineApart:=rel.mineApart,mineLoc:=rel.mineLoc,frs:=rel.frs.next fun b o es n g d=>(gn o es n (hx b o (xce rel.toGRel ho g (by rw [d]; exact fun zZ q=>by (injection q)) (by rw [d]; exact fun zZ zZ q=>by (injection q))) g) d)}
 ·exact (rel.cell l b c h1 h2).monoO (List.prefix_refl _) ht (fun o e zZ=>hx b o (fun q=>hρ b q (List.mem_of_getElem? h1)) e) hcell
 ·by_cases hq:t∈fp
  ·exact hw t ht' hq
  ·refine ya (rel.own t ht') fun o e r=>?_; exact (ja o (hx t o hq e) r)
 ·refine ya (rel.vars y u e) fun w h1 h2=>?_;exact (ja w (h1.mono (fun m n=>hns n) (fun c u zZ n=>hcell c _ n)) (Rep.monoO (List.prefix_refl _) ht h2))
 ·refine qb rel.loc fun m n=>?_; exact ⟨m,hns n⟩
 ·refine qb (rel.cels y c e) fun v n=>?_; exact ⟨v,hcell c v n⟩
 ·refine xl (rel.mineAbove b hb') fun h1 o h2=>?_;exact (qh h1 o (hx b o (fun q=>hm b q hb') h2))
end
section
variable {fp mine ρ ρ' ρ'':List Addr} {h h' h'':Heap}
theorem ExtF.refl:ExtF fp mine ρ ρ h h:=⟨List.prefix_refl _,fun zZ o e=>⟨o,e⟩,fun zZ q=>.inl q,fun zZ o e zZ zZ zZ=>(ja o e (.refl _)),fun zZ zZ e zZ zZ=>e⟩
theorem ExtF.trans (x:ExtF fp mine ρ ρ' h h') (y:ExtF fp mine ρ' ρ'' h' h''):ExtF fp mine ρ ρ'' h h'' where
 pre:=x.pre.trans y.pre
 alive:=fun b o e=>by refine qb (x.alive b o e) fun o1 e1=>?_; exact y.alive b o1 e1
 new:=fun a ha=>by
  rcases y.new a ha with h1 | h1
  ·exact x.new a h1
  ·refine .inr ?_
   cases e:h.get? a with
   | none=>rfl
   | some o=>obtain ⟨o1,e1⟩:=x.alive a o e; rw [h1] at e1; (injection e1)
 keep:=fun b o e n1 n2 n3=>by
  refine ya (x.keep b o e n1 n2 n3) fun o1 e1 l1=>?_
  have hn:b∉ρ':=fun hb=>by
   rcases x.new b hb with h1 | h1
   ·exact n1 h1
   ·rw [e] at h1; (injection h1)
  refine ya (y.keep b _ e1 hn n2 n3) fun o2 e2 l2=>?_;exact (ja o2 e2 (l1.trans l2))
 froz:=fun b o e f n=>y.froz b o (x.froz b o e f n) f n
theorem ExtF.of (x:Ext mine ρ ρ' h h'):ExtF fp mine ρ ρ' h h':=⟨x.pre,x.alive,x.new,fun b o e n1 zZ n2=>x.keep b o e n1 n2,fun b o e f zZ=>x.froz b o e f⟩
theorem ExtF.step (hal:∀ a∈fp,∃ o,h'.get? a=some o) (hx:∀ b o,b∉fp→h.get? b=some o→h'.get? b=some o):ExtF fp mine ρ ρ h h' where
 pre:=List.prefix_refl _
 alive:=fun b o e=>by
  by_cases q:b∈fp
  ·exact hal b q
  ·exact ⟨o,hx b o q e⟩
 new:=fun zZ q=>.inl q
 keep:=fun b o e zZ n zZ=>(ja o (hx b o n e) (.refl _))
 froz:=fun b o e zZ n=>hx b o n e
end
noncomputable def y8 (a b c:Int) (l:Nat) (i:Nat):M (Option V):=fun σ=>
 if i < qj a b c then (match gj l σ with
  | .ok (some v) σ'=>.ok (some (.tup [.int (a + i * c),v])) σ'
  | .ok none σ'=>.ok none σ'
  | _=>.stuck)
 else .ok none σ
noncomputable abbrev jaa (h:Heap) (R:Addr) (x left step:Int):Prop:=h.get? R=some {cls:= .type "range_iterator",dict:=none,data:= .fields #[rawInt x,rawInt left,rawInt step],slots:= #[]}
noncomputable def ZSt (z R TI TO a:Addr) (x y c:Int) (i:Nat) (f0:Value) (h:Heap):Prop :=
 IsZip h z TI TO f0∧IsPair h TI (.ref R) (.ref a)∧(∃ p q,IsPair h TO p q)∧jaa h R (x + i * c) ((qj x y c:Int) - i) c
structure ZApart (z R TI TO:Addr):Prop where
 zR:z≠R
 zTI:z≠TI
 zTO:z≠TO
 RTI:R≠TI
 RTO:R≠TO
 TITO:TI≠TO
theorem zap (n:Nat):ZApart (n + 3) n (n + 1) (n + 2):=⟨fun h=>absurd (show n + 3=n from h) (by exact ydp),fun h=>absurd (show n + 3=n + 1 from h) (by exact jdp),fun h=>absurd (show n + 3=n + 2 from h) (by exact wdp),
 fun h=>absurd (show n=n + 1 from h) (by exact qdp),fun h=>absurd (show n=n + 2 from h) (by exact kdp),fun h=>absurd (show n + 1=n + 2 from h) (by exact xdp)⟩
structure ZRel (K:Glo) (F:Frm) (σ:S) (ρ ρ₁:List Addr) (s₁ s:Shared) (z R TI TO a:Addr) (x left c:Int) (f0 p q:Value):Prop where
 rel:Rel K F σ ρ s
 ext:ExtF [z,R,TI,TO] F.mine ρ₁ ρ s₁.heap s.heap
 zip:IsZip s.heap z TI TO f0
 ti:IsPair s.heap TI (.ref R) (.ref a)
 to:IsPair s.heap TO p q
 rg:jaa s.heap R x left c
 apart:∀ b∈[z,R,TI,TO],b∉ρ∧b∉F.mine∧K.base.get? b=none
 own:TI∈K.own∧TO∈K.own
theorem ZRel.next {σ:S} {ρ ρ₁:List Addr} {s₁ s s':Shared} {z R TI TO a:Addr} {x left c:Int} {f0 p q:Value} (D:ZApart z R TI TO) (Z:ZRel K F σ ρ ρ₁ s₁ s z R TI TO a x left c f0 p q) {x' left':Int} {f0' p' q':Value}
  (hz:IsZip s'.heap z TI TO f0') (hti:IsPair s'.heap TI (.ref R) (.ref a)) (hto:IsPair s'.heap TO p' q') (hR:jaa s'.heap R x' left' c)
  (hx:∀ b o,b∉[z,R,TI,TO]→s.heap.get? b=some o→s'.heap.get? b=some o) (hg:s'.gens=s.gens) (hos:s'.os=s.os):ZRel K F σ ρ ρ₁ s₁ s' z R TI TO a x' left' c f0' p' q':=by
 refine ⟨Z.rel.hidO (fp:=[z,R,TI,TO]) (fun b hb=>(Z.apart b hb).1) (fun b hb=>(Z.apart b hb).2.2) (fun b hb=>(Z.apart b hb).2.1) (fun b hb=>?_) hx (fun t ht hb=>?_) hg hos,Z.ext.trans (ExtF.step (fun b hb=>?_) hx),hz,hti,hto,hR,Z.apart,Z.own⟩
 ·simp only [List.mem_cons,List.not_mem_nil,or_false] at hb
  rcases hb with rfl | rfl | rfl | rfl
  ·exact .inl (gk _ _ Z.zip rfl (show NF (.type "zip") by decide))
  ·exact .inl (gk _ _ Z.rg rfl (show NF (.type "range_iterator") by decide))
  ·exact .inr (.inl Z.own.1)
  ·exact .inr (.inl Z.own.2)
 ·refine wrap fun G_ hG_=>?_;obtain ⟨o,e,c1,xs,n,d⟩:=Z.rel.own t ht;refine hG_ ?_;clear hG_ G_;simp only [List.mem_cons,List.not_mem_nil,or_false] at hb
  rcases hb with rfl | rfl | rfl | rfl
  ·have e':s.heap.get? t=_:=Z.zip
   rw [e] at e'; (injection e' with c_1; subst c_1); (injection d)
  ·have e':s.heap.get? t=_:=Z.rg
   rw [e] at e'; (injection e' with c_1; subst c_1); (injection d)
  ·exact (kac _ hti rfl _ _ rfl)
  ·exact (kac _ hto rfl _ _ rfl)
 ·simp only [List.mem_cons,List.not_mem_nil,or_false] at hb
  rcases hb with rfl | rfl | rfl | rfl
  ·exact ⟨_,hz⟩
  ·exact ⟨_,hR⟩
  ·exact ⟨_,hti⟩
  ·exact ⟨_,hto⟩
theorem ZRel.it {σ σ':S} {ρ ρ₁:List Addr} {s₁ s s':Shared} {z R TI TO a:Addr} {x left c:Int} {f0 p q:Value} (Z:ZRel K F σ ρ ρ₁ s₁ s z R TI TO a x left c f0 p q) (r:Rel K F σ' ρ s') (y:Ext F.mine ρ ρ s.heap s'.heap)
  (hb:Heap.ExtBut a s.heap s'.heap) (ha:a∈ρ):ZRel K F σ' ρ ρ₁ s₁ s' z R TI TO a x left c f0 p q:=by
 have hne:∀ b∈[z,R,TI,TO],b≠a:=fun b hb q=>(Z.apart b hb).1 (q ▸ ha)
 exact ⟨r,Z.ext.trans (ExtF.of y),hb _ _ (hne z (by simp)) Z.zip,hb _ _ (hne TI (by simp)) Z.ti,hb _ _ (hne TO (by simp)) Z.to,hb _ _ (hne R (by simp)) Z.rg,Z.apart,Z.own⟩
theorem ZRel.kept {σ:S} {ρ ρ₁:List Addr} {s₁ s s':Shared} {z R TI TO a:Addr} {x left c:Int} {f0 p q:Value} (Z:ZRel K F σ ρ ρ₁ s₁ s z R TI TO a x left c f0 p q) (hk:∀ b o,s.heap.get? b=some o→s'.heap.get? b=some o)
  (hg:s'.gens=s.gens) (hos:s'.os=s.os):ZRel K F σ ρ ρ₁ s₁ s' z R TI TO a x left c f0 p q :=
 ⟨Z.rel.kept hk hg hos,Z.ext.trans (ExtF.of (Ext.kept hk)),hk _ _ Z.zip,hk _ _ Z.ti,hk _ _ Z.to,hk _ _ Z.rg,Z.apart,Z.own⟩
section
variable {prog:Program} {w:World} {A:Around} {E:Value→Shared→Prop} {s:Shared}
theorem kb8 {R:Addr} {x left c:Int} {Q:Value→Shared→Prop} (hit:jaa s.heap R x left c) (hleft:0 < left)
  (hQ:∀ h',jaa h' R (x + c) (left - 1) c→Heap.SameBut R s.heap h'→Q (.int x s.toks) {s with heap:=h',toks:=s.toks + 1}):wpAny (model prog w) A (Builtin.SmallTypes.nextOf (.ref R)) Q E s:=by
 have hT:s.TypeIs (.ref R) "range_iterator" :=⟨_,hit,rfl⟩
 unfold Builtin.SmallTypes.nextOf
 refine wpAny_bind (wpAny_callSpecial?_slot (name:=Str.ofString "__next__") hT PySem.F.slot_range_iterator_next
  (call_meets PySem.F.slot_range_iterator_next hT PySem.F.entry_range_iterator_next (PySem.F.args_range_iterator_next_1 _) (AutoRange.range_iterator___next___range_iterator_1 R x left c (by lia)) ⟨hit,?_⟩))
 exact wpAny_pure (hQ _ (Heap.get?_update_self _ (Heap.get?_update_self _ hit rfl) rfl) ((Heap.SameBut.update ..).trans (Heap.SameBut.update ..)))
theorem gda {R:Addr} {x left c:Int} {Q:Value→Shared→Prop} (hh:A.handled=none) (hit:jaa s.heap R x left c) (hleft:left≤0)
  (hE:∀ h' e,(∀ b o,s.heap.get? b=some o→h'.get? b=some o)→(∃ o,h'.get? e=some o∧o.cls = .type "StopIteration")→E (.ref e) {s with heap:=h'}):wpAny (model prog w) A (Builtin.SmallTypes.nextOf (.ref R)) Q E s:=by
 have hT:s.TypeIs (.ref R) "range_iterator" :=⟨_,hit,rfl⟩
 unfold Builtin.SmallTypes.nextOf
 refine wpAny_bind (wpAny_callSpecial?_slot (name:=Str.ofString "__next__") hT PySem.F.slot_range_iterator_next
  (wpAny_call_entry PySem.F.slot_range_iterator_next hT PySem.F.entry_range_iterator_next ?_ (PySem.F.args_range_iterator_next_1 _)))
 show wpAny _ _ (field (.ref R) 0 >>= _) _ _ s;refine wpAny_bind (wpAny_field hit rfl (x:=rawInt x) rfl ?_);show wpAny _ _ (field (.ref R) 1 >>= _) _ _ s;refine wpAny_bind (wpAny_field hit rfl (x:=rawInt left) rfl ?_);show wpAny _ _ (field (.ref R) 2 >>= _) _ _ s;refine wpAny_bind (wpAny_field hit rfl (x:=rawInt c) rfl ?_)
 show wpAny _ _ (if left≤0 then _ else _) _ _ s
 rw [if_pos hleft];exact wpAny_bind (wpAny_rule (wpAny_bind (zaz (A:=A.in1) hh hE)))
end
theorem nm4 {z R TI TO b:Addr} (h:b∉[z,R,TI,TO]):b≠z∧b≠R∧b≠TI∧b≠TO:=by
 simp only [List.mem_cons,List.not_mem_nil,or_false,not_or] at h;exact h
section
variable {σ σ':S} {ρ ρ₁:List Addr} {s₁ s:Shared} {z R TI TO a:Addr} {l:Nat} {x left c:Int} {p q:Value} {A:Around} {E:Value→Shared→Prop}
theorem qcr (D:ZApart z R TI TO) (hh:A.handled=none) (hρ:ρ[l]?=some a) {v:V} (en:gj l σ = .ok (some v) σ') (hleft:0 < left) (Z:ZRel K F σ ρ ρ₁ s₁ s z R TI TO a x left c .none p q) :
  wpAny (model K.prog K.w) A (Builtin.«zip.__next__» ⟨[.ref z],[]⟩) (fun fin s' => ∃ w,fin = .done (.ret w)∧∃ T p' q',w = .ref T∧ZRel K F σ' ρ ρ₁ s₁ s' z R TI TO a (x + c) (left - 1) c (rawInt T) p' q'∧Rep K s'.heap ρ (.tup [.int x,v]) (.ref T)) E s:=by
 refine z7 fun Q' E' hQ zZ=>?_;show wpAny _ _ (field (.ref z) 2 >>= _) _ _ _;refine wpAny_bind (wpAny_field Z.zip rfl (x:= .bool false) rfl ?_);show wpAny _ _ (field (.ref z) 3 >>= _) _ _ _;refine wpAny_bind (wpAny_field Z.zip rfl (x:= .ref TI) rfl ?_);refine wpAny_bind (wpAny_seqItems Z.ti rfl ?_);show wpAny _ _ (Builtin.SmallTypes.ownedTupleIsFree (.ref z) >>= _) _ _ _;refine wpAny_bind ?_;unfold Builtin.SmallTypes.ownedTupleIsFree;refine wpAny_bind (wpAny_field Z.zip rfl (x:= .none) rfl (wpAny_pure ?_));simp only [if_true];refine wpAny_bind (wpAny_rule ?_);refine wpAny_bind (wpAny_field Z.zip rfl (x:= .ref TO) rfl ?_)
 refine wpAny_bind (wpAny_setField_rec Z.zip (by simp) fun h₁ hz₁ hs₁=>?_)
 have keep₁:∀ b o,b≠z→s.heap.get? b=some o→h₁.get? b=some o:=fun b o n e=>(hs₁.2 b n).trans e
 have Z₁:ZRel K F σ ρ ρ₁ s₁ {s with heap:=h₁} z R TI TO a x left c .ellipsis p q :=
  Z.next D hz₁ (keep₁ _ _ D.zTI.symm Z.ti) (keep₁ _ _ D.zTO.symm Z.to) (keep₁ _ _ D.zR.symm Z.rg) (fun b o n e=>keep₁ b o (nm4 n).1 e) rfl rfl
 refine wpAny_bind ?_;simp only [List.zipIdx_cons,List.zipIdx_nil,List.forIn_cons,List.forIn_nil];refine wpAny_bind (wpAny_bind (wpAny_onRaise ?_));show wpAny _ _ (Builtin.SmallTypes.nextOf (.ref R) >>= _) _ _ _;refine wpAny_bind (kb8 Z₁.rg hleft fun h₂ hR₂ hs₂=>wpAny_pure ?_);have keep₂:∀ b o,b≠R→h₁.get? b=some o→h₂.get? b=some o:=fun b o n e=>(hs₂.2 b n).trans e
 have Z₂:ZRel K F σ ρ ρ₁ s₁ {s with heap:=h₂,toks:=s.toks + 1} z R TI TO a (x + c) (left - 1) c .ellipsis p q :=
  Z₁.next D (keep₂ _ _ D.zR Z₁.zip) (keep₂ _ _ D.RTI.symm Z₁.ti) (keep₂ _ _ D.RTO.symm Z₁.to) hR₂ (fun b o n e=>keep₂ b o (nm4 n).2.1 e) rfl rfl
 refine wpAny_bind (wpAny_seqItems Z₂.to rfl ?_);refine wpAny_bind (wpAny_updateSeq_pair Z₂.to fun h₃ hTO₃ hs₃=>?_);have hTO₃':IsPair h₃ TO (.int x s.toks) q:=hTO₃;have keep₃:∀ b o,b≠TO→h₂.get? b=some o→h₃.get? b=some o:=fun b o n e=>(hs₃.2 b n).trans e
 have Z₃:ZRel K F σ ρ ρ₁ s₁ {s with heap:=h₃,toks:=s.toks + 1} z R TI TO a (x + c) (left - 1) c .ellipsis (.int x s.toks) q :=
  Z₂.next D (keep₃ _ _ D.zTO Z₂.zip) (keep₃ _ _ D.TITO Z₂.ti) hTO₃' (keep₃ _ _ D.RTO Z₂.rg) (fun b o n e=>keep₃ b o (nm4 n).2.2.2 e) rfl rfl
 refine wpAny_bind (wpAny_letGo (wpAny_pure ?_));refine wpAny_bind (wpAny_bind (wpAny_onRaise ?_));show wpAny _ _ (Builtin.SmallTypes.nextOf (.ref a) >>= _) _ _ _;refine wpAny_bind ?_;unfold Builtin.SmallTypes.nextOf;refine wpAny_bind ?_
 have key:=yah (K:=K) (F:=F) (σ:=σ) (ρ:=ρ) (s:={s with heap:=h₃,toks:=s.toks + 1}) (l:=l) (a:=a) (A:=A)
  (Q:=fun r s' => ∃ w,r=some w∧ZRel K F σ' ρ ρ₁ s₁ s' z R TI TO a (x + c) (left - 1) c .ellipsis (.int x s.toks) q∧Rep K s'.heap ρ v w) (E:=fun zZ zZ=>False) Z₃.rel hh hρ
 rw [en] at key;refine wpAny_mono (key fun w s' r' x' hb rv=>(gc w rfl (Z₃.it r' x' hb (List.mem_of_getElem? hρ)) rv)) (fun r s₄ hq=>?_) fun zZ zZ hq=>hq.elim;refine yd hq fun w o_231 Z₄ rv=>?_
 try clear hq
 obtain rfl:=o_231;refine wpAny_pure (wpAny_pure ?_);refine wpAny_bind (wpAny_seqItems Z₄.to rfl ?_);refine wpAny_bind (wpAny_updateSeq_pair Z₄.to fun h₅ hTO₅ hs₅=>?_);have hTO₅':IsPair h₅ TO (.int x s.toks) w:=hTO₅;have keep₅:∀ b o,b≠TO→s₄.heap.get? b=some o→h₅.get? b=some o:=fun b o n e=>(hs₅.2 b n).trans e
 have Z₅:ZRel K F σ' ρ ρ₁ s₁ {s₄ with heap:=h₅} z R TI TO a (x + c) (left - 1) c .ellipsis (.int x s.toks) w :=
  Z₄.next D (keep₅ _ _ D.zTO Z₄.zip) (keep₅ _ _ D.TITO Z₄.ti) hTO₅' (keep₅ _ _ D.RTO Z₄.rg) (fun b o n e=>keep₅ b o (nm4 n).2.2.2 e) rfl rfl
 have rv₅:Rep K h₅ ρ v w:=rv.monoO (List.prefix_refl _) fun b o e f g=>keep₅ b o (fun hq=>by
  clear Z hz₁ Z₁ Z₂ hTO₃ hs₃ hTO₃' keep₃ Z₃ key hTO₅ hs₅ hTO₅' keep₅;subst hq;refine yd (Z₄.rel.toGRel.own b Z₄.own.2) fun o' e' c' zZ=>?_
  rw [e] at e'; (injection e' with c_1; subst c_1)
  exact g c' Z₄.own.2) e
 refine wpAny_bind (wpAny_letGo (wpAny_pure (wpAny_pure ?_)));refine wpAny_bind (wpAny_seqItems Z₅.to rfl ?_);refine wpAny_bind (wpAny_newTuple ?_)
 have Z₆:ZRel K F σ' ρ ρ₁ s₁ {s₄ with heap:=h₅.push {cls:= .type "tuple",data:= .seq #[.int x s.toks,w]}} z R TI TO a (x + c) (left - 1) c .ellipsis (.int x s.toks) w :=
  Z₅.kept (fun b o e=>Heap.get?_push_of_some _ e) rfl rfl
 have hTn:h₅.objs.size∉K.own:=Z₅.rel.toGRel.own_new (Nat.le_refl _);have hzT:z≠h₅.objs.size:=Nat.ne_of_lt (Heap.lt_size Z₅.zip)
 have rt:Rep K (h₅.push {cls:= .type "tuple",data:= .seq #[.int x s.toks,w]}) ρ (.tup [.int x,v]) (.ref h₅.objs.size) :=
  Rep.tup_iff.mpr (x6 (by simp) _ ([.int x s.toks,w]) rfl ⟨_,Heap.get?_push_size _ rfl,rfl,0,rfl⟩ (RepL.cons (Rep.int _ _) (RepL.cons (rv₅.mono (Ext.push (mine:=[]) _)) RepL.nil)) hTn)
 show wpAny _ _ (Builtin.SmallTypes.ownedTupleHandOut (.ref z) (.ref h₅.objs.size) >>= _) _ _ _;refine wpAny_bind ?_;unfold Builtin.SmallTypes.ownedTupleHandOut
 refine wpAny_bind (wpAny_setField_rec Z₆.zip (by simp) fun h₇ hz₇ hs₇=>?_)
 have hz₇':IsZip h₇ z TI TO (rawInt h₅.objs.size):=hz₇
 refine wpAny_setField_rec hz₇' (by simp) fun h₈ hz₈ hs₈=>?_
 have hz₈':IsZip h₈ z TI TO (rawInt h₅.objs.size):=hz₈
 have keep₈:∀ b o,b≠z→(h₅.push {cls:= .type "tuple",data:= .seq #[.int x s.toks,w]}).get? b=some o→h₈.get? b=some o:=fun b o n e=>(hs₈.2 b n).trans ((hs₇.2 b n).trans e)
 have Z₈:ZRel K F σ' ρ ρ₁ s₁ {s₄ with heap:=h₈} z R TI TO a (x + c) (left - 1) c (rawInt h₅.objs.size) (.int x s.toks) w :=
  Z₆.next D hz₈' (keep₈ _ _ D.zTI.symm Z₆.ti) (keep₈ _ _ D.zTO.symm Z₆.to) (keep₈ _ _ D.zR.symm Z₆.rg) (fun b o n e=>keep₈ b o (nm4 n).1 e) rfl rfl
 refine wpAny_pure (hQ _ _ ⟨_,rfl,_,_,_,rfl,Z₈,?_⟩)
 exact rt.mono' (List.prefix_refl _) fun b o e f=>keep₈ b o (fun hq=>by
  clear D Z hQ hz₁ hs₁ keep₁ Z₁ Z₂ Z₃ key Z₄ Z₅ hzT hz₇ hs₇ hz₇' hz₈ hs₈ hz₈' keep₈ Z₈;subst hq
  exact kj Z₆.zip rfl (show NF (.type "zip") by decide) e f rfl) e
theorem xc6 (D:ZApart z R TI TO) (hh:A.handled=none) (hρ:ρ[l]?=some a) (hend:(left≤0∧σ'=σ)∨(0 < left∧gj l σ = .ok none σ')) (Z:ZRel K F σ ρ ρ₁ s₁ s z R TI TO a x left c .none p q) {Q:PySem.Fin→Shared→Prop}
  (hE:∀ e s',Rel K F σ' ρ s'→ExtF [z,R,TI,TO] F.mine ρ₁ ρ s₁.heap s'.heap→(∃ o,s'.heap.get? e=some o∧o.cls = .type "StopIteration")→E (.ref e) s') :
  wpAny (model K.prog K.w) A (Builtin.«zip.__next__» ⟨[.ref z],[]⟩) Q E s:=by
 show wpAny _ _ (field (.ref z) 2 >>= _) _ _ _;refine wpAny_bind (wpAny_field Z.zip rfl (x:= .bool false) rfl ?_);show wpAny _ _ (field (.ref z) 3 >>= _) _ _ _;refine wpAny_bind (wpAny_field Z.zip rfl (x:= .ref TI) rfl ?_);refine wpAny_bind (wpAny_seqItems Z.ti rfl ?_);show wpAny _ _ (Builtin.SmallTypes.ownedTupleIsFree (.ref z) >>= _) _ _ _;refine wpAny_bind ?_;unfold Builtin.SmallTypes.ownedTupleIsFree;refine wpAny_bind (wpAny_field Z.zip rfl (x:= .none) rfl (wpAny_pure ?_));simp only [if_true];refine wpAny_bind (wpAny_rule ?_);refine wpAny_bind (wpAny_field Z.zip rfl (x:= .ref TO) rfl ?_)
 refine wpAny_bind (wpAny_setField_rec Z.zip (by simp) fun h₁ hz₁ hs₁=>?_)
 have keep₁:∀ b o,b≠z→s.heap.get? b=some o→h₁.get? b=some o:=fun b o n e=>(hs₁.2 b n).trans e
 have Z₁:ZRel K F σ ρ ρ₁ s₁ {s with heap:=h₁} z R TI TO a x left c .ellipsis p q :=
  Z.next D hz₁ (keep₁ _ _ D.zTI.symm Z.ti) (keep₁ _ _ D.zTO.symm Z.to) (keep₁ _ _ D.zR.symm Z.rg) (fun b o n e=>keep₁ b o (nm4 n).1 e) rfl rfl
 refine wpAny_bind ?_;simp only [List.zipIdx_cons,List.zipIdx_nil,List.forIn_cons,List.forIn_nil]
 have fin:∀ (e:Addr) (s':Shared) (x' left':Int) (p' q':Value),ZRel K F σ' ρ ρ₁ s₁ s' z R TI TO a x' left' c .ellipsis p' q'→(∃ o,s'.heap.get? e=some o∧o.cls = .type "StopIteration")→wpAny (model K.prog K.w) A (setField (.ref z) 0 .none) (fun zZ s''=>E (.ref e) s'') E s':=by
  intro e s' x' left' p' q' Z' he;refine ya he fun oe hoe hce=>?_
  try clear he
  have hez:e≠z:=fun hq=>by
   have e':s'.heap.get? z=_:=Z'.zip
   rw [hq,e'] at hoe; (injection hoe with c_1; subst c_1); exact absurd (show Value.type "zip" = .type "StopIteration" from hce) (by decide)
  refine wpAny_setField_rec Z'.zip (by simp) fun h₉ hz₉ hs₉=>?_
  have keep₉:∀ b o,b≠z→s'.heap.get? b=some o→h₉.get? b=some o:=fun b o n e=>(hs₉.2 b n).trans e
  have Z₉:ZRel K F σ' ρ ρ₁ s₁ {s' with heap:=h₉} z R TI TO a x' left' c .none p' q' :=
   Z'.next D hz₉ (keep₉ _ _ D.zTI.symm Z'.ti) (keep₉ _ _ D.zTO.symm Z'.to) (keep₉ _ _ D.zR.symm Z'.rg) (fun b o n e=>keep₉ b o (nm4 n).1 e) rfl rfl
  exact hE e _ Z₉.rel Z₉.ext ⟨oe,keep₉ _ _ hez hoe,hce⟩
 refine wpAny_bind (wpAny_bind (wpAny_onRaise ?_));show wpAny _ _ (Builtin.SmallTypes.nextOf (.ref R) >>= _) _ _ _
 rcases hend with ⟨hl,rfl⟩ | ⟨hl,en⟩
 ·exact wpAny_bind (gda hh Z₁.rg hl fun h' e hk he=>fin e _ _ _ _ _ (Z₁.kept (s':={s with heap:=h'}) hk rfl rfl) he)
 ·refine wpAny_bind (kb8 Z₁.rg hl fun h₂ hR₂ hs₂=>wpAny_pure ?_);have keep₂:∀ b o,b≠R→h₁.get? b=some o→h₂.get? b=some o:=fun b o n e=>(hs₂.2 b n).trans e
  have Z₂:ZRel K F σ ρ ρ₁ s₁ {s with heap:=h₂,toks:=s.toks + 1} z R TI TO a (x + c) (left - 1) c .ellipsis p q :=
   Z₁.next D (keep₂ _ _ D.zR Z₁.zip) (keep₂ _ _ D.RTI.symm Z₁.ti) (keep₂ _ _ D.RTO.symm Z₁.to) hR₂ (fun b o n e=>keep₂ b o (nm4 n).2.1 e) rfl rfl
  refine wpAny_bind (wpAny_seqItems Z₂.to rfl ?_);refine wpAny_bind (wpAny_updateSeq_pair Z₂.to fun h₃ hTO₃ hs₃=>?_);have hTO₃':IsPair h₃ TO (.int x s.toks) q:=hTO₃;have keep₃:∀ b o,b≠TO→h₂.get? b=some o→h₃.get? b=some o:=fun b o n e=>(hs₃.2 b n).trans e
  have Z₃:ZRel K F σ ρ ρ₁ s₁ {s with heap:=h₃,toks:=s.toks + 1} z R TI TO a (x + c) (left - 1) c .ellipsis (.int x s.toks) q :=
   Z₂.next D (keep₃ _ _ D.zTO Z₂.zip) (keep₃ _ _ D.TITO Z₂.ti) hTO₃' (keep₃ _ _ D.RTO Z₂.rg) (fun b o n e=>keep₃ b o (nm4 n).2.2.2 e) rfl rfl
  refine wpAny_bind (wpAny_letGo (wpAny_pure ?_));refine wpAny_bind (wpAny_bind (wpAny_onRaise ?_));show wpAny _ _ (Builtin.SmallTypes.nextOf (.ref a) >>= _) _ _ _;refine wpAny_bind ?_;unfold Builtin.SmallTypes.nextOf;refine wpAny_bind ?_
  have key:=yah (K:=K) (F:=F) (σ:=σ) (ρ:=ρ) (s:={s with heap:=h₃,toks:=s.toks + 1}) (l:=l) (a:=a) (A:=A)
   (Q:=fun r s'=>False) (E:=fun e s' => ∃ e',e = .ref e'∧ZRel K F σ' ρ ρ₁ s₁ s' z R TI TO a (x + c) (left - 1) c .ellipsis (.int x s.toks) q∧∃ o,s'.heap.get? e'=some o∧o.cls = .type "StopIteration") Z₃.rel hh hρ
  rw [en] at key;refine wpAny_mono (key fun e s' r' x' hb he=>(gc e rfl (Z₃.it r' x' hb (List.mem_of_getElem? hρ)) he)) (fun zZ zZ hq=>hq.elim) fun e s₄ hq=>?_;refine yd hq fun e' o_232 Z₄ he=>?_
  try clear hq
  obtain rfl:=o_232;exact fin e' s₄ _ _ _ _ Z₄ he
end
theorem xck (fk:FOk F) (hnh:F.nh=true) {z R TI TO a:Addr} {l:Nat} {x y c:Int} {ρ₁:List Addr} {h₁:Heap} {elts:List Expr} {k:Nat} {pos:Pos} (D:ZApart z R TI TO) (hρ:ρ₁[l]?=some a) (hown:TI∈K.own∧TO∈K.own) :
  GIter K F (.Tuple elts k pos) z [z,R,TI,TO] (fun i h=>i≤qj x y c∧ZSt z R TI TO a x y c i .none h) (y8 x y c l) ρ₁ h₁ where
 hid:=by
  rintro i h ⟨_,hz,hti,⟨p,q,hto⟩,hR⟩ b hb
  simp only [List.mem_cons,List.not_mem_nil,or_false] at hb
  rcases hb with rfl | rfl | rfl | rfl
  ·exact (ja _ hz (fun es n q=>by (injection q)))
  ·exact (ja _ hR (fun es n q=>by (injection q)))
  ·exact (ja _ hti (fun es n q=>by (injection q)))
  ·exact (ja _ hto (fun es n q=>by (injection q)))
 frame0:=by
  rintro h h' ⟨hi,hz,hti,⟨p,q,hto⟩,hR⟩ hk
  exact ⟨hi,hk _ _ hz,hk _ _ hti,⟨p,q,hk _ _ hto⟩,hk _ _ hR⟩
 frame:=by
  rintro i h h' ⟨hi,hz,hti,⟨p,q,hto⟩,hR⟩ hk
  exact ⟨hi,hk z (by simp) _ hz,hk TI (by simp) _ hti,⟨p,q,hk TO (by simp) _ hto⟩,hk R (by simp) _ hR⟩
 self:=by
  rintro s A Q E ⟨_,hz,_⟩ q
  exact wpAny_pyIter_zip hz q
 step:=by
  rintro σ ρ s i rel xx hfρ hfm hfb ⟨hi,hz,hti,⟨p,q,hto⟩,hR⟩
  have hρ':=getElem?_prefix xx.pre hρ
  have Z:ZRel K F σ ρ ρ s s z R TI TO a (x + i * c) ((qj x y c:Int) - i) c .none p q :=
   ⟨rel,ExtF.refl,hz,hti,hto,hR,fun b hb=>⟨hfρ b hb,hfm b hb,hfb b hb⟩,hown⟩
  have hT:s.TypeIs (.ref z) "zip" :=⟨_,hz,rfl⟩
  have stop:∀ σ',(((qj x y c:Int) - i≤0∧σ'=σ)∨(0 < (qj x y c:Int) - i∧gj l σ = .ok none σ'))→wpAny (model K.prog K.w) F.A (pyNext (.ref z)) (fun r s'=>r=none∧∃ ρ',Rel K F σ' ρ' s'∧ρ <+: ρ'∧∀ ρ₀ h₀,Ext F.mine ρ₀ ρ h₀ s.heap→(∀ b∈[z,R,TI,TO],h₀.get? b=none)→Ext F.mine ρ₀ ρ' h₀ s'.heap) (fun zZ zZ=>False) s:=by
   intro σ' hend;unfold pyNext
   refine wpAny_bind (wpAny_attempt (wpAny_callSpecial?_slot (name:=Str.ofString "__next__") hT PySem.F.slot_zip_next
    (wpAny_call_entry PySem.F.slot_zip_next hT PySem.F.entry_zip_next (xc6 (A:=F.A.in1) D (fk.hd hnh) hρ' hend Z fun e s' r' x' he=>?_) (PySem.F.args_zip_next_1 _))))
   refine ya he fun o ho hc=>?_
   try clear he
   refine wpAny_bind (wpAny_isInstance (T:= "StopIteration") (b:=true) ⟨o,ho,hc⟩ isSubtype_stop ?_)
   exact wpAny_pure (zy rfl ρ r' (List.prefix_refl _) (fun ρ₀ h₀ w h0=>w.hide x' h0))
  unfold y8
  by_cases hlt:i < qj x y c
  ·rw [if_pos hlt]
   cases en:gj l σ with
   | stuck=>trivial
   | exc e w=>trivial
   | ok ov σ'=>
    cases ov with
    | none=>exact stop σ' (.inr ⟨by exact nL35 hlt,en⟩)
    | some v=>
     dsimp only;unfold pyNext
     refine wpAny_bind (wpAny_attempt (wpAny_callSpecial?_slot (name:=Str.ofString "__next__") hT PySem.F.slot_zip_next
      (wpAny_call_entry PySem.F.slot_zip_next hT PySem.F.entry_zip_next (wpAny_mono (qcr (A:=F.A.in1) D (fk.hd hnh) hρ' en (by exact nL35 hlt) Z) ?_ fun zZ zZ e=>e) (PySem.F.args_zip_next_1 _))))
     rintro fin s₂ ⟨w,rfl,T,p',q',rfl,Z₂,rt⟩
     refine (ja _ rfl (wpAny_pure (ja _ rfl (fun Q E k=>?_))));refine wpAny_letOwnedTupleGo_zip Z₂.zip fun h₃ hz₃ hs₃=>?_;have keep₃:∀ b o,b≠z→s₂.heap.get? b=some o→h₃.get? b=some o:=fun b o n e=>(hs₃.2 b n).trans e
     have Z₃:ZRel K F σ' ρ ρ s {s₂ with heap:=h₃} z R TI TO a (x + i * c + c) ((qj x y c:Int) - i - 1) c .none p' q' :=
      Z₂.next D hz₃ (keep₃ _ _ D.zTI.symm Z₂.ti) (keep₃ _ _ D.zTO.symm Z₂.to) (keep₃ _ _ D.zR.symm Z₂.rg) (fun b o n e=>keep₃ b o (nm4 n).1 e) rfl rfl
     refine k {s₂ with heap:=h₃} ρ Z₃.rel Z₃.ext ⟨hlt,Z₃.zip,Z₃.ti,⟨_,_,Z₃.to⟩,?_⟩ ?_
     ·have e1:x + ((i + 1:Nat):Int) * c=x + (i:Int) * c + c:=by simp only [Int.natCast_add,Int.add_mul]; simp [Int.add_assoc]
      have e2:((qj x y c:Nat):Int) - ((i + 1:Nat):Int)=(qj x y c:Int) - (i:Int) - 1:=by exact nL37
      rw [e1,e2]; exact Z₃.rg
     ·exact rt.mono' (List.prefix_refl _) fun b o e f=>keep₃ b o (fun hq=>by
       clear D hfρ hfm hfb hz Z hT k hz₃ hs₃ keep₃ Z₃;subst hq
       exact kj Z₂.zip rfl (show NF (.type "zip") by decide) e f rfl) e
  ·rw [if_neg hlt]
   exact stop σ (.inl ⟨by exact nL38 hlt,rfl⟩)
section
variable {prog:Program} {w:World} {A:Around} {E:Value→Shared→Prop} {s:Shared}
noncomputable abbrev zH1 (h:Heap) (x y c:Int):Heap:=h.push {cls:= .type "range_iterator",data:= .fields #[rawInt x,rawInt (Builtin.Range.rangeSize x y c),rawInt c]}
noncomputable abbrev zH2 (h:Heap) (x y c:Int) (a:Addr):Heap:=(zH1 h x y c).push {cls:= .type "tuple",data:= .seq #[.ref h.objs.size,.ref a]}
noncomputable abbrev zH3 (h:Heap) (x y c:Int) (a:Addr):Heap:=(zH2 h x y c a).push {cls:= .type "tuple",data:= .seq #[.none,.none]}
noncomputable abbrev zH4 (h:Heap) (x y c:Int) (a:Addr):Heap:=(zH3 h x y c a).push {cls:= .type "zip",data:= .fields #[.none,.bool false,.bool false,.ref (zH1 h x y c).objs.size,.ref (zH2 h x y c a).objs.size]}
theorem ybz (r a:Addr) (x y c:Int) (t u v:Tok) (hsm:Builtin.Range.small x y c=true) :
  Meets (Builtin.«zip.__new__» ⟨[.type "zip",.ref r,.ref a],[]⟩) (fun zZ R s=>IsRange s.heap r x y c t u v∧(∃ o,s.heap.get? a=some o∧o.cls = .type "list_iterator")∧
   R (.ok (.ret (.ref (zH3 s.heap x y c a).objs.size))) {s with heap:=zH4 s.heap x y c a}) :=
 .of_wp fun prog w A R s h=>by
  obtain ⟨hp,g,d,tk,os⟩:=s; refine yt h ?_; try clear h; intro hr o_233 h; refine ya o_233 fun o ho hc=>?_; try clear o_233
  have hsub:=sub_zip;have h1:IsRange (Shared.heap ⟨hp,g,d,tk,os⟩) r x y c t u v:=hr
  have h2:(Shared.heap ⟨hp.push {cls:= .type "range_iterator",data:= .fields #[rawInt x,rawInt (Builtin.Range.rangeSize x y c),rawInt c]},g,d,tk,os⟩).get? a=some o:=Heap.get?_push_of_some _ ho
  wp_walk using wpAny_pyIter_range h1 hsm,gad h2 hc
  exact (ja _ rfl h)
theorem kb5 {r a:Addr} {x y c:Int} {t u v:Tok} {Q:Value→Shared→Prop} (hsm:Builtin.Range.small x y c=true) (hr:IsRange s.heap r x y c t u v) (ha:∃ o,s.heap.get? a=some o∧o.cls = .type "list_iterator")
  (h:∀ h',IsZip h' (s.heap.objs.size + 3) (s.heap.objs.size + 1) (s.heap.objs.size + 2) .none→IsPair h' (s.heap.objs.size + 1) (.ref s.heap.objs.size) (.ref a)→IsPair h' (s.heap.objs.size + 2) .none .none→
   jaa h' s.heap.objs.size x (Builtin.Range.rangeSize x y c) c→(∀ b o,s.heap.get? b=some o→h'.get? b=some o)→Q (.ref (s.heap.objs.size + 3)) {s with heap:=h'}) :
  wpAny (model prog w) A (PySem.call (.type "zip") [.ref r,.ref a]) Q E s:=by
 refine callType_new PySem.F.called_zip (by decide) (PySem.F.typeCall_zip_2 _ _) (PySem.F.newCall_zip_2 _ _) (fun obj=>PySem.F.args_object_init_3 obj _ _) PySem.F.entry_zip_new (ybz r a x y c t u v hsm) ⟨hr,ha,?_⟩
 have z1:(zH1 s.heap x y c).objs.size=s.heap.objs.size + 1:=Heap.size_push ..
 have z2:(zH2 s.heap x y c a).objs.size=s.heap.objs.size + 2:=by rw [Heap.size_push,z1]
 have z3:(zH3 s.heap x y c a).objs.size=s.heap.objs.size + 3:=by rw [Heap.size_push,z2]
 have g4:(zH4 s.heap x y c a).get? (zH3 s.heap x y c a).objs.size=some _:=Heap.get?_push_size _ rfl;have g3:(zH4 s.heap x y c a).get? (zH2 s.heap x y c a).objs.size=some _:=Heap.get?_push_of_some _ (Heap.get?_push_size _ rfl);have g2:(zH4 s.heap x y c a).get? (zH1 s.heap x y c).objs.size=some _:=Heap.get?_push_of_some _ (Heap.get?_push_of_some _ (Heap.get?_push_size _ rfl));have g1:(zH4 s.heap x y c a).get? s.heap.objs.size=some _:=Heap.get?_push_of_some _ (Heap.get?_push_of_some _ (Heap.get?_push_of_some _ (Heap.get?_push_size _ rfl)));show _∧_;rw [z1,z2,z3] at g4;rw [z2] at g3;rw [z1] at g2;rw [z3];exact ⟨⟨_,g4,rfl⟩,h _ g4 g2 g3 g1 fun b o e=>Heap.get?_push_of_some _ (Heap.get?_push_of_some _ (Heap.get?_push_of_some _ (Heap.get?_push_of_some _ e)))⟩
end
noncomputable def za4:V→V→M (Nat→M (Option V))
 | .rng a b c,.obj l=>fun σ=>match σ.st[l]? with
  | some (.itr _ _ _)=>if Builtin.Range.small a b c=true then .ok (y8 a b c l) σ else .stuck
  | _=>.stuck
 | _,_=>stuck
theorem gbn (fk:FOk F) {e1 e2:Expr} {m1 m2:M V} {np cpos pos:Pos} {elts:List Expr} {k:Nat} (hx:F.env.kindOf (Str.ofString "zip")=some .globalImplicit) (hm:K.mg (Str.ofString "zip")=none)
  (h1:SimE K F e1 m1) (h2:SimE K F e2 m2) (hst:starEach [e1,e2] F.env=[(false,eval e1 F.env),(false,eval e2 F.env)]:=by rfl) :
  kce K F (.Tuple elts k pos) (.Call (.Name (Str.ofString "zip") np) [e1,e2] [] cpos) (do let r ← m1; let v ← m2; za4 r v):=by
 intro σ ρ s rel hne;simp only [jq]
 refine wpAny_bind (yv fk rel hx hm (v:= .type "zip") (by decide +kernel) ?_)
 refine gal rfl (by rw [kq,hst]; rfl) ?_
 rw [hst];show wpAny _ _ (spliced ((false,eval e1 F.env) :: (false,eval e2 F.env) :: [])) _ _ s;rw [yi];refine wpAny_bind (Run.bindWp (h1 σ ρ s rel) hne fun vr σ₁ ρ₁ s₁ wr q1 q2 rel₁ x₁ rr=>?_);rw [q2] at hne ⊢;rw [yi];refine wpAny_bind (wpAny_holding (wpAny_bind ?_))
 refine wpAny_mono (Run.bindWp (P:=fun wb s₂=>wpAny (model K.prog K.w) F.A (do let vs ← holding [wb] (spliced []); pure ([wb] ++ vs)) _ _ s₂) (h2 σ₁ ρ₁ s₁ rel₁) hne fun vb σ₂ ρ₂ s₂ wb q3 q4 rel₂ x₂ rb=>?_) (fun zZ zZ q=>q) fun zZ zZ q=>q.up x₁
 rw [q4] at hne ⊢;refine wpAny_bind (wpAny_holding (wpAny_pure (wpAny_pure (wpAny_pure ?_))))
 show wpAny _ _ (PySem.call (.type "zip") [wr,wb]) _ _ s₂
 have rr':=rr.mono x₂
 cases vr with
 | rng a b c=>
  cases vb with
  | obj l=>
   unfold za4 at hne ⊢;dsimp only at hne ⊢
   cases hc:σ₂.st[l]? with
   | none=>rw [hc] at hne; exact absurd rfl hne
   | some c2=>
    cases c2 with
    | itr k2 i2 d2=>
     rw [hc] at hne;dsimp only at hne ⊢
     by_cases hsm:Builtin.Range.small a b c=true
     ·rw [if_pos hsm] at hne ⊢;refine ku (Rep.rng_iff.mp rr') fun r t u v o_234 hR=>?_;clear rr rr';obtain rfl:=o_234;refine ya (Rep.obj_iff.mp rb) fun ad hρ o_235=>?_;clear rb;obtain rfl:=o_235;refine yd (rel₂.cell l ad _ hρ hc) fun o ho hcl zZ=>?_;refine kb5 hsm hR ⟨o,ho,hcl⟩ fun h' hz hti hto hRI hk=>?_;refine wpAny_pyIter_zip hz ?_;have fr:∀ {b:Addr},s₂.heap.objs.size≤b→s₂.heap.get? b=none:=fun hb=>Heap.get?_none_of_le hb;have D:ZApart (s₂.heap.objs.size + 3) s₂.heap.objs.size (s₂.heap.objs.size + 1) (s₂.heap.objs.size + 2):=zap _
      refine ⟨s₂.heap.objs.size + 3,y8 a b c l,σ₂,s₂,ρ₂,[s₂.heap.objs.size + 3,s₂.heap.objs.size,s₂.heap.objs.size + 1,s₂.heap.objs.size + 2],_,[s₂.heap.objs.size + 1,s₂.heap.objs.size + 2],rfl,rfl,rel₂,x₁.trans x₂,
       rel₂.adds (s':={s₂ with heap:=h'}) (fun t ht=>?_) hk rfl rfl (fun t ht=>?_),Ext.kept hk,fun b hb=>?_,fun F' fk' hnh'=>xck (x:=a) (y:=b) (c:=c) fk' hnh' D hρ ⟨by show _∈_ ++ _; simp,by show _∈_ ++ _; simp⟩,⟨Nat.zero_le _,hz,hti,⟨_,_,hto⟩,?_⟩⟩
      ·simp only [List.mem_cons,List.not_mem_nil,or_false] at ht
       rcases ht with rfl | rfl <;> exact fr (by (first | lia | omega))
      ·simp only [List.mem_cons,List.not_mem_nil,or_false] at ht
       rcases ht with rfl | rfl
       ·exact (kac _ hti rfl _ _ rfl)
       ·exact (kac _ hto rfl _ _ rfl)
      ·simp only [List.mem_cons,List.not_mem_nil,or_false] at hb
       rcases hb with rfl | rfl | rfl | rfl <;> exact fr (by (first | lia | omega))
      ·rw [qy]
       simpa using hRI
     ·rw [if_neg hsm] at hne; exact absurd rfl hne
    | _=>rw [hc] at hne; exact absurd rfl hne
  | _=>exact absurd rfl hne
 | _=>exact absurd (by cases vb <;> rfl) hne
end
section
variable {K:Glo} {F:Frm}
theorem wbe:mroOf (.type "object")=pure [.type "object"]:=by rw [mroOf_type]; kernel_rfl
theorem xa4:typeLookup (.type "object") "__new__" = pure (some (.builtin "object.__new__")):=by rw [typeLookup_type,builtinLookup_eq_fast]; kernel_rfl
theorem gau:TypeCalled "object" "object.__new__" "object.__init__" :=
 ⟨by decide +kernel,by decide +kernel,⟨_,_,wbe⟩,madeBy_type wbe xa4 (by decide +kernel),by decide +kernel,by rw [isSubtype_type]; kernel_rfl,PySem.F.slot_object_init⟩
theorem qbe:Bind.madeHere "object.__new__" (.type "object")=pure ():=by
 unfold Bind.madeHere
 have e:Bind.staticBase (.type "object")=pure (.type "object"):=by first | rfl | kernel_rfl
 rw [e];simp only [pure_bind,gau.made]
 first | rfl | kernel_rfl | (simp; rfl)
theorem xa9:Meets (Builtin.«object.__new__» ⟨[.type "object"],[]⟩) (fun zZ R s=>R (.ok (.ret (.ref s.heap.objs.size))) {s with heap:=s.heap.push {cls:= .type "object",data:= .plain}}) :=
 .of_wp fun prog w A R s h=>by
  have hmade:=qbe
  have h1:typeHasDict (.type "object")=false:=by decide +kernel
  have h2:diesByItsTypesDel "object" = false:=by decide +kernel
  repeat (any_goals (first | assumption | wp_step))
  exact (ja _ rfl h)
theorem ga4 (obj:Value):Meets (Builtin.«object.__init__» ⟨[obj],[]⟩) (fun zZ R s=>R (.ok (.ret .none)) s):= .of_wp fun prog w A R s h=>wpAny_pure (ja _ rfl h)
theorem kbp (a:Value):argsOk "object.__init__" ⟨[a],[]⟩:=by
 unfold argsOk; rw [signature?_of (id:= "object.__init__") (n:=['_','_','t','i','n','i','_','_']) (o:=['t','c','e','j','b','o']) (by kernel_rfl) PySem.F.owner_object]; kernel_rfl
theorem xb5 {prog:Program} {w:World} {A:Around} {E:Value→Shared→Prop} {s:Shared} {Q:Value→Shared→Prop} (h:Q (.ref s.heap.objs.size) {s with heap:=s.heap.push {cls:= .type "object",data:= .plain}}) :
  wpAny (model prog w) A (PySem.call (.type "object") []) Q E s:=by
 refine callType_meets (Q₁:=fun obj s₁=>s₁.TypeIs obj "object" ∧ Q obj s₁) gau (by kernel_rfl) (by kernel_rfl) (entryFor_of_tree (by kernel_rfl)) PySem.F.entry_object_init xa9 ?_ fun obj s₁ hq=>⟨hq.1,kbp obj,_,ga4 obj,rfl,hq.2⟩
 exact ⟨⟨_,Heap.get?_push_size _ rfl,rfl⟩,h⟩
noncomputable def objB:List V→M V
 | []=>fun σ=>.ok (.obj σ.st.length) {σ with st:=σ.st ++ [.opq]}
 | _=>stuck
theorem jbz:wt K (.type "object") objB:=by
 intro F fk hnh σ ρ s vs ws rel r;unfold objB
 split
 ·obtain rfl:=RepL.nil_iff.mp r
  obtain ⟨r1,x1⟩:=rel.newAtC (a:=s.heap.objs.size) (c:= .opq) (s':={s with heap:=s.heap.push {cls:= .type "object",data:= .plain}}) (fun b o e=>Heap.get?_push_of_some _ e) (Heap.get?_none_of_le (Nat.le_refl _))
   ⟨_,Heap.get?_push_size _ rfl,.inr ⟨rfl,rfl⟩⟩ rfl rfl
  exact Run.ok (xb5 ⟨_,r1,x1,Rep.obj_iff.mpr (ja _ (by rw [← rel.len]; exact List.getElem?_concat_length) rfl)⟩)
 ·exact Run.stuck
theorem xb8 (fk:FOk F) {x:String} {pos:Pos} {lvl:Nat} {g:Fun} (hf:HasF K x lvl g) (hx:F.env.kindOf (Str.ofString x)=some .globalImplicit:=by kernel_rfl) (hdb:(Str.ofString x == ("__debug__" : Str))=false:=by decide) :
  SimE K F (.Name (Str.ofString x) pos) (pure (.fn x)):=by
 refine wm hf fun fa fd body hg zZ=>?_
 try clear hf
 intro σ ρ s rel;refine Run.ok (gaw fk rel hx hg ⟨ρ,rel,Ext.refl ..,?_⟩ hdb);simp only [Rep];exact (qh hg fa rfl)
noncomputable def kbe (f:String):V→M Unit
 | .fn x=>fun σ=>if x=f then .ok () σ else .stuck
 | _=>stuck
theorem ja6 (fk:FOk F) {n f:String} {np pos:Pos} {args:List Expr} {ms:M (List V)} {g:Fun} {lvl:Nat} (hf:HasF K f lvl g) (hr:Room F.A lvl) (hs:yab K F args ms)
  (hpl:(starEach args F.env).any (·.1)=false:=by rfl) (hd:(Str.ofString n == ("__debug__" : Str))=false:=by decide) (hc:(Str.ofString n == ("__classdict__" : Str))=false:=by decide) :
  SimE K F (.Call (.Name (Str.ofString n) np) args [] pos) (do let v ← getv n; kbe f v; let vs ← ms; xh g vs):=by
 refine yk hf ?_
 try clear hf
 intro fa fd body hg hda hf;intro σ ρ s rel;refine Run.of_wp fun hne=>?_;simp only [jq];refine wpAny_bind (Run.bindWp (za fk n np hd hc σ ρ s rel) hne fun v σ₁ ρ₁ s₁ wv e1 e2 rel₁ x₁ rv=>?_);rw [e2] at hne ⊢
 cases v with
 | fn x=>
  by_cases hx:x=f
  ·clear e2;subst hx
   have e3:(kbe x (.fn x) >>= fun zZ=>(ms >>= fun vs=>xh g vs)) σ₁=(ms >>= fun vs=>xh g vs) σ₁:=M.bind_ok (by show (if x=x then Res.ok () σ₁ else .stuck)=Res.ok () σ₁; rw [if_pos rfl])
   rw [e3] at hne ⊢;simp only [Rep] at rv;refine xl rv fun hg' a o_236=>?_
   try clear rv
   obtain rfl:=o_236
   rw [hg] at hg'; (injection hg' with c_1; injection c_1 with c_1; subst c_1)
   refine ya hda.obj fun o ho hdat=>?_
   refine Calls.callWith_function (o:=o) (fd:=fd) (j1 (by rw [kq]; exact hpl) ?_)
   refine wpAny_mono (Run.bindWp (P:=fun ws s₂=>(s₂.heap.get? fa=some o∧o.data = .func fd)∧wpAny (model K.prog K.w) F.A (PySem.call (.ref fa) ([] ++ ws)) _ _ s₂) (hs pos σ₁ ρ₁ s₁ rel₁) hne fun vs σ' ρ' s' ws q1 q2 rel' x' rvs=>⟨⟨rel'.base _ _ ho,hdat⟩,?_⟩) (fun zZ zZ q=>q) fun zZ zZ q=>q.up x₁;rw [q2] at hne ⊢;exact wpAny_mono ((kbu fk hf hr rel' rvs).wp hne) (fun zZ zZ q=>(q.up x').up x₁) fun zZ zZ q=>(q.up x').up x₁
  ·exact absurd (by rw [M.bind_def]; simp only [kbe,hx,if_false]) hne
 | _=>exact absurd rfl hne
end
section
variable {K:Glo} {F:Frm}
noncomputable def Frm.in1 (F:Frm):Frm:=⟨F.env,F.A.in1,F.mine,F.nh⟩
theorem Rel.in1 {σ:S} {ρ:List Addr} {s:Shared} (r:Rel K F σ ρ s):Rel K F.in1 σ ρ s :=
 {toGRel:=r.toGRel,vars:=r.vars,loc:=r.loc,cels:=r.cels,mineAbove:=r.mineAbove,mineApart:=r.mineApart,mineLoc:=r.mineLoc,frs:=r.frs}
theorem Rel.out1 {σ:S} {ρ:List Addr} {s:Shared} (r:Rel K F.in1 σ ρ s):Rel K F σ ρ s :=
 {toGRel:=r.toGRel,vars:=r.vars,loc:=r.loc,cels:=r.cels,mineAbove:=r.mineAbove,mineApart:=r.mineApart,mineLoc:=r.mineLoc,frs:=r.frs}
theorem Room.in1 {A:Around} {n:Nat} (r:Room A (n + 1)):Room A.in1 n:=⟨r.1,by have:=r.2.1; show A.depth + n < _; exact gdp this,by have:=r.2.2; show A.units + 1 + 1000 + 10 * n < _; exact zdq this⟩
theorem FOk.in1 (fk:FOk F) {n:Nat} (r:Room F.A (n + 1)):FOk F.in1:=⟨fk.kind,fk.glob,fk.blt,fun zZ=>r.1,by have:=r.2.2; show F.A.units + 1 + 1000 < _; exact ydq this⟩
theorem gc6 {σ:S} {ρ:List Addr} {s:Shared} {l:Nat} {a:Addr} {A:Around} (rel:Rel K F σ ρ s) (hh:A.handled=none) (hρ:ρ[l]?=some a) :
  match gj l σ with
  | .ok (some v) σ'=>wpAny (model K.prog K.w) A (pyNext (.ref a)) (fun r s' => ∃ w,r=some w∧Rel K F σ' ρ s'∧Ext F.mine ρ ρ s.heap s'.heap∧Heap.ExtBut a s.heap s'.heap∧Rep K s'.heap ρ v w) (fun zZ zZ=>False) s
  | .ok none σ'=>wpAny (model K.prog K.w) A (pyNext (.ref a)) (fun r s'=>r=none∧Rel K F σ' ρ s'∧Ext F.mine ρ ρ s.heap s'.heap∧Heap.ExtBut a s.heap s'.heap) (fun zZ zZ=>False) s
  | _=>True:=by
 cases en:gj l σ with
 | stuck=>trivial
 | exc e y=>trivial
 | ok ov σ'=>
  cases ov with
  | none=>
   dsimp only
   have h:=yah (K:=K) (F:=F) (A:=A) (Q:=fun r s'=>False) (E:=fun e s' => ∃ a',e = .ref a'∧Rel K F σ' ρ s'∧Ext F.mine ρ ρ s.heap s'.heap∧Heap.ExtBut a s.heap s'.heap∧∃ o,s'.heap.get? a'=some o∧o.cls = .type "StopIteration") rel hh hρ
   rw [en] at h;unfold pyNext;refine wpAny_bind (wpAny_attempt (wpAny_mono (h fun e s' r' x' hb he=>(w5 e rfl r' x' hb he)) (fun zZ zZ q=>q.elim) fun e s' q=>?_));refine wrap fun G_ hG_=>?_;obtain ⟨a',o_237,r',x',hb,o,ho,hc⟩:=q;refine hG_ ?_;clear hG_ G_;obtain rfl:=o_237
   refine wpAny_bind (wpAny_isInstance (T:= "StopIteration") (b:=true) ⟨o,ho,hc⟩ isSubtype_stop ?_)
   exact wpAny_pure ⟨rfl,r',x',hb⟩
  | some v=>
   dsimp only;have h:=yah (K:=K) (F:=F) (A:=A) (Q:=fun r s' => ∃ w,r=some w∧Rel K F σ' ρ s'∧Ext F.mine ρ ρ s.heap s'.heap∧Heap.ExtBut a s.heap s'.heap∧Rep K s'.heap ρ v w) (E:=fun e s'=>False) rel hh hρ;rw [en] at h;unfold pyNext;refine wpAny_bind (wpAny_attempt (wpAny_mono (h fun w s' r' x' hb rv=>(w5 w rfl r' x' hb rv)) (fun r s' q=>?_) fun e s' q=>q.elim));obtain ⟨w,rfl,q⟩:=q;exact wpAny_pure (ja w rfl q)
noncomputable def gtB (a b:V):M Bool:=fun σ=>match toD σ.st 6 a,toD σ.st 6 b with
 | some d,some d'=>match gtD d d' with
  | some r=>.ok r σ
  | none=>.stuck
 | _,_=>.stuck
noncomputable def gx (LM:Nat→List V→Fun):V→V→M V
 | .none,it=>pure it
 | k,it=>keyF LM k [it]
noncomputable def wx (LM:Nat→List V→Fun) (l:Nat) (k:V):Nat→Option (V×V)→M (Option V)
 | 0,_=>stuck
 | n + 1,best=>fun σ=>match gj l σ with
  | .ok none σ'=>.ok (best.map (·.1)) σ'
  | .ok (some it) σ'=>(match gx LM k it σ' with
   | .ok val σ''=>(match best with
    | none=>wx LM l k n (some (it,val)) σ''
    | some b=>(match gtB val b.2 σ'' with
     | .ok r σ3=>wx LM l k n (if r=true then some (it,val) else best) σ3
     | _=>.stuck))
   | _=>.stuck)
  | _=>.stuck
theorem yaz (LM:Nat→List V→Fun) (l:Nat) (k:V) (n:Nat) (best:Option (V×V)) (σ:S):wx LM l k (n + 1) best σ=(match gj l σ with
  | .ok none σ'=>.ok (best.map (·.1)) σ'
  | .ok (some it) σ'=>(match gx LM k it σ' with
   | .ok val σ''=>(match best with
    | none=>wx LM l k n (some (it,val)) σ''
    | some b=>(match gtB val b.2 σ'' with
     | .ok r σ3=>wx LM l k n (if r=true then some (it,val) else best) σ3
     | _=>.stuck))
   | _=>.stuck)
  | _=>.stuck):=rfl
noncomputable def waa (K:Glo) (h:Heap) (ρ:List Addr):Option (V×V)→Array Value→Prop
 | none,xs=>xs = #[]
 | some b,xs => ∃ wi wv,xs = #[wi,wv]∧Rep K h ρ b.1 wi∧Rep K h ρ b.2 wv
noncomputable abbrev BAt (h:Heap) (B:Addr) (xs:Array Value) (c:Nat):Prop:=h.get? B=some {cls:= .type "list",dict:=none,data:= .seq xs c,slots:= #[]}
theorem Ext.list_kept {mine ρ ρ':List Addr} {h h':Heap} {B:Addr} {xs:Array Value} {c:Nat} (x:Ext mine ρ ρ' h h') (hB:BAt h B xs c) (n1:B∉ρ) (n2:B∉mine):BAt h' B xs c∧B∉ρ':=by
 refine ya (x.keep B _ hB n1 n2) fun o' e' l=>?_
 refine ⟨by rw [l.same fun es n q=>by cases q] at e'; exact e',fun q=>?_⟩
 rcases x.new B q with h1 | h1
 ·exact n1 h1
 ·rw [hB] at h1; (injection h1)
theorem waa.mono {h h':Heap} {ρ ρ':List Addr} {b:Option (V×V)} {xs:Array Value} (x:waa K h ρ b xs) (f:∀ v w,Rep K h ρ v w→Rep K h' ρ' v w):waa K h' ρ' b xs:=by
 cases b with
 | none=>exact x
 | some b=>obtain ⟨wi,wv,e,r1,r2⟩:=x; exact (gk wi wv e (f _ _ r1) (f _ _ r2))
theorem Rel.listB {σ:S} {ρ:List Addr} {s s':Shared} {B:Addr} {xs:Array Value} {c:Nat} (rel:Rel K F σ ρ s) (hB:BAt s.heap B xs c) (n1:B∉ρ) (n2:B∉F.mine) (n3:K.base.get? B=none) (hx:∀ b o,b≠B→s.heap.get? b=some o→s'.heap.get? b=some o)
  (hg:s'.gens=s.gens) (hos:s'.os=s.os):Rel K F σ ρ s':=by
 have hne:∀ t∈K.own,t≠B:=fun t ht q=>by
  refine yd (rel.own t ht) fun o e c' zZ=>?_;have e':s.heap.get? B=_:=hB
  rw [q,e'] at e; (injection e with c_1; subst c_1); exact absurd (show Value.type "list" = Value.type "tuple" from c') (by decide)
 exact rel.hidO (fp:=[B]) (fun a ha=>by rw [List.mem_singleton.mp ha]; exact n1) (fun a ha=>by rw [List.mem_singleton.mp ha]; exact n3) (fun a ha=>by rw [List.mem_singleton.mp ha]; exact n2)
  (fun a ha=>by rw [List.mem_singleton.mp ha]; exact .inr (.inr (kac _ hB rfl _ _ rfl))) (fun b o hb e=>hx b o (fun q=>hb (by rw [q]; simp)) e) (fun t ht hb=>absurd (List.mem_singleton.mp hb) (hne t ht)) hg hos
theorem zae {h h':Heap} {ρ:List Addr} {B:Addr} {xs:Array Value} {c:Nat} (hB:BAt h B xs c) (hx:∀ b o,b≠B→h.get? b=some o→h'.get? b=some o) {v:V} {w:Value} (r:Rep K h ρ v w):Rep K h' ρ v w :=
 r.mono' (List.prefix_refl _) fun b o e f=>hx b o (fun q=>by
  have e':h.get? B=_:=hB
  rw [q,e'] at e; (injection e with c_1; subst c_1)
  rcases f with ⟨f,_⟩ | ⟨f | f,_⟩
  ·exact absurd (show Value.type "list" = Value.type "tuple" from f) (by decide)
  ·exact absurd (show Value.type "list" = Value.type "range" from f) (by decide)
  ·exact absurd (show Value.type "list" = Value.type "code" from f) (by decide)) e
noncomputable def gck (K:Glo) (h:Heap) (ρ:List Addr) (wd:Value):Option V→Value→Prop
 | some v,w=>Rep K h ρ v w
 | none,w=>w=wd
noncomputable def ya4 (K:Glo) (F:Frm) (out:Res S (Option V)) (ρ₀:List Addr) (h₀:Heap) (B:Addr) (wd:Value):Result→Shared→Prop:=fun r s'=>match out with
 | .ok ov σ' => ∃ ρ' w,r = .ok (.ret w)∧Rel K F σ' ρ' s'∧ExtF [B] F.mine ρ₀ ρ' h₀ s'.heap∧gck K s'.heap ρ' wd ov w
 | _=>True
theorem zcl (fk:FOk F) {LM:Nat→List V→Fun} {lvl:Nat} (hf:q0 K lvl LM) (hr:Room F.A lvl) {σ:S} {ρ:List Addr} {s:Shared} {k it:V} {wk w:Value} (rel:Rel K F σ ρ s) (rk:Rep K s.heap ρ k wk) (ri:Rep K s.heap ρ it w) :
  Run K F (match wk with | .none=>pure w | _=>PySem.call wk [w]) (Rep K) (gx LM k it σ) ρ s:=by
 cases k with
 | none=>rw [Rep.none_iff.mp rk]; exact Run.pure rel ri
 | obj l=>
  refine ya (Rep.obj_iff.mp rk) fun a zZ o_239=>?_;obtain rfl:=o_239;exact ka9 fk hf hr rel rk (RepL.cons ri RepL.nil)
 | _=>exact Run.stuck
section
variable {LM:Nat→List V→Fun} {lvl l:Nat} {k:V} {a B:Addr} {wk wd:Value} {ρ₀:List Addr} {h₀:Heap}
theorem gb8 {γ:Type} (fk:FOk F) (hf:q0 K lvl LM) (hr:Room F.A (lvl + 1)) {it val:V} {w:Value} {σ₁ σ₂:S} {ρ:List Addr} {s₁:Shared} (r1:Rel K F.in1 σ₁ ρ s₁) (rk:Rep K s₁.heap ρ k wk) (ri:Rep K s₁.heap ρ it w) (ek:gx LM k it σ₁ = .ok val σ₂)
  {cont:Value→Sem γ} {hd:Value→Sem Value} {Q:γ→Shared→Prop} {E:Value→Shared→Prop}
  (h:∀ wv s₂ ρ₂,Rel K F.in1 σ₂ ρ₂ s₂→Ext F.in1.mine ρ ρ₂ s₁.heap s₂.heap→Rep K s₂.heap ρ₂ val wv→wpAny (model K.prog K.w) F.in1.A (cont wv) Q E s₂) :
  wpAny (model K.prog K.w) F.in1.A (match wk with
   | .none=>pure w >>= fun v=>cont v
   | _=>tryCatch (holding [w] (PySem.call wk [w])) hd >>= fun v=>cont v) Q E s₁:=by
 have hk:=zcl (K:=K) (F:=F.in1) (fk.in1 hr) hf hr.in1 r1 rk ri;rw [ek] at hk
 cases k with
 | none=>
  rw [Rep.none_iff.mp rk];have e1:=Res.ok.inj ek;rw [← e1.1,← e1.2] at h;exact wpAny_bind (wpAny_pure (h w s₁ ρ r1 (Ext.refl ..) ri))
 | obj lk=>
  refine ya (Rep.obj_iff.mp rk) fun ak hak e=>?_;rw [e] at hk ⊢;exact wpAny_bind (wpAny_tryCatch (wpAny_holding (wpAny_mono hk (fun wv s₂ hq=>hq.elim fun ρ₂ q=>h wv s₂ ρ₂ q.1 q.2.1 q.2.2) fun zZ zZ q=>q.elim)))
 | _=>(injection ek)
theorem zb9 (n2:B∉F.mine) (n3:K.base.get? B=none) {it val:V} {w wv:Value} {σ₂:S} {s₂:Shared} {ρ₂:List Addr} {xs₂:Array Value} {c₂:Nat} {Q:Unit→Shared→Prop} {E:Value→Shared→Prop} (q1:Rel K F.in1 σ₂ ρ₂ s₂) (q2:ExtF [B] F.mine ρ₀ ρ₂ h₀ s₂.heap) (q3:Rep K s₂.heap ρ₂ k wk)
  (q4:Rep K s₂.heap ρ₂ it w) (q5:Rep K s₂.heap ρ₂ val wv) (q6:BAt s₂.heap B xs₂ c₂) (hsz:xs₂.size≤sizeLine) (q7:B∉ρ₂)
  (hQ:∀ s₃ c₃,Rel K F.in1 σ₂ ρ₂ s₃→ExtF [B] F.mine ρ₀ ρ₂ h₀ s₃.heap→Rep K s₃.heap ρ₂ k wk→BAt s₃.heap B #[w,wv] c₃→waa K s₃.heap ρ₂ (some (it,val)) #[w,wv]→Q () s₃) :
  wpAny (model K.prog K.w) F.in1.A (updateSeq B fun zZ => #[w,wv]) Q E s₂:=by
 have hkeep:∀ b o,b≠B→s₂.heap.get? b=some o→(s₂.heap.update B (Obj.mapSeq fun zZ => #[w,wv])).get? b=some o:=fun b o nb g=>(Heap.get?_update_other _ _ (Ne.symm nb)).trans g
 refine wpAny_updateSeq (hz:=hsz) q6 rfl (hQ _ _ (Rel.listB (F:=F.in1) (s':={s₂ with heap:=s₂.heap.update B (Obj.mapSeq fun zZ => #[w,wv])}) q1 q6 q7 n2 n3 hkeep rfl rfl) ?_ (zae q6 hkeep q3) (Heap.get?_update_self _ q6 rfl) ⟨w,wv,rfl,zae q6 hkeep q4,zae q6 hkeep q5⟩)
 exact q2.trans (ExtF.step (fun b hb=>by rw [List.mem_singleton.mp hb]; exact ⟨_,Heap.get?_update_self _ q6 rfl⟩) fun b o nb g=>hkeep b o (fun q=>nb (by rw [q]; simp)) g)
theorem zdb {γ:Type} (hr:Room F.A (lvl + 1)) (n2:B∉F.mine) (n3:K.base.get? B=none) {it val b2:V} {w wv wi wo:Value} {σ₂:S} {s₂:Shared} {ρ₂:List Addr} {c₂:Nat} {dv dw:PyData} {r3:Bool} (q1:Rel K F.in1 σ₂ ρ₂ s₂) (q2:ExtF [B] F.mine ρ₀ ρ₂ h₀ s₂.heap) (q3:Rep K s₂.heap ρ₂ k wk)
  (q4:Rep K s₂.heap ρ₂ it w) (q5:Rep K s₂.heap ρ₂ val wv) (ro:Rep K s₂.heap ρ₂ b2 wo) (q6:BAt s₂.heap B #[wi,wo] c₂) (q7:B∉ρ₂) (d1:toD σ₂.st 6 val=some dv) (d2:toD σ₂.st 6 b2=some dw) (d3:gtD dv dw=some r3)
  {C1 C2:Sem γ} {hd:Value→Sem Bool} {H L1 L2:List Value} {Q:γ→Shared→Prop} {E:Value→Shared→Prop}
  (h1:r3=true→∀ s₃ c₃,Rel K F.in1 σ₂ ρ₂ s₃→ExtF [B] F.mine ρ₀ ρ₂ h₀ s₃.heap→Rep K s₃.heap ρ₂ k wk→BAt s₃.heap B #[w,wv] c₃→waa K s₃.heap ρ₂ (some (it,val)) #[w,wv]→wpAny (model K.prog K.w) F.in1.A C1 Q E s₃)
  (h2:r3=false→wpAny (model K.prog K.w) F.in1.A C2 Q E s₂) :
  wpAny (model K.prog K.w) F.in1.A (do
   let better ← tryCatch (holding H (do
    let answer ← richCompare .Gt wv wo
    let yes ← holding [answer] (truthy answer)
    letGo [answer]
    pure yes)) hd
   if better=true then (updateSeq B (fun zZ => #[w,wv]) >>= fun zZ=>letGo L1 >>= fun zZ=>C1) else (letGo L2 >>= fun zZ=>C2)) Q E s₂:=by
 refine yd (yn q1.toGRel 6 val wv dv d1 q5) fun as t1 c1 p1=>?_;refine yd (yn q1.toGRel 6 b2 wo dw d2 ro) fun bs t2 c2 p2=>?_;have hu:=hr.2.2
 have hub:F.in1.A.units + min dv.depth dw.depth < cLine:=by show F.A.units + 1 + _ < _; exact jdq hu p2
 refine wpAny_bind (wpAny_tryCatch (wpAny_holding (wpAny_bind (kc9 t1 t2 d3 K.prog K.w _ _ ?_))));refine wpAny_bind (wpAny_holding (wpAny_truthy_bool ?_));refine wpAny_bind (wpAny_letGo (wpAny_pure ?_))
 cases r3 with
 | true=>exact wpAny_bind (zb9 n2 n3 q1 q2 q3 q4 q5 q6 (by rw [sizeLine_eq]; show (2:Nat)≤_; decide) q7 fun s₃ c₃ p1 p2 p3 p4 p5=>wpAny_bind (wpAny_letGo (h1 rfl s₃ c₃ p1 p2 p3 p4 p5)))
 | false=>exact wpAny_bind (wpAny_letGo (h2 rfl))
theorem kcr {v u:V} {σ σ':S} {r:Bool} (e:gtB v u σ = .ok r σ'):∃ dv dw,toD σ.st 6 v=some dv∧toD σ.st 6 u=some dw∧gtD dv dw=some r∧σ'=σ:=by
 unfold gtB at e
 cases d1:toD σ.st 6 v with
 | none=>rw [d1] at e; (injection e)
 | some dv=>
  cases d2:toD σ.st 6 u with
  | none=>rw [d1,d2] at e; (injection e)
  | some dw=>
   rw [d1,d2] at e;dsimp only at e
   cases d3:gtD dv dw with
   | none=>rw [d3] at e; (injection e)
   | some r3=>rw [d3] at e; cases e; exact (zn dv dw rfl rfl d3 rfl)
theorem zc7 (fk:FOk F) (hf:q0 K lvl LM) (hr:Room F.A (lvl + 1)) (n2:B∉F.mine) (n3:K.base.get? B=none):∀ (n:Nat) (best:Option (V×V)) (σ:S) (ρ:List Addr) (s:Shared) (xs:Array Value) (c:Nat) (ov:Option V) (σe:S),
  wx LM l k n best σ = .ok ov σe→Rel K F σ ρ s→ExtF [B] F.mine ρ₀ ρ h₀ s.heap→ρ[l]?=some a→Rep K s.heap ρ k wk→BAt s.heap B xs c→waa K s.heap ρ best xs→B∉ρ→
  codeAny (model K.prog K.w) F.A (.builtin "max.loop" ⟨[.ref a,wk,.ref B],[(Str.ofString "default",wd)]⟩) (ya4 K F (.ok ov σe) ρ₀ h₀ B wd) s:=by
 have hname:(toString "max" ++ toString ".loop" : String) = "max.loop" :=by decide
 intro n
 induction n with
 | zero=>intro best σ ρ s xs c ov σe e; (injection e)
 | succ n ih=>
  intro best σ ρ s xs c ov σe e rel x0 hρ rk hB rb n1;rw [yaz] at e;refine codeAny_builtin PySem.F.entry_max_loop ?_;rw [Around.under_plainId PySem.F.plain_max_loop _];show wpAny _ F.in1.A (seqItems? (.ref B) >>= _) _ _ s;refine z7 fun Q' E' hQ zZ=>?_;have hdone:∀ f s',ya4 K F (.ok ov σe) ρ₀ h₀ B wd (.ok f) s'→Q' (.done f) s':=fun f s' h=>hQ (.done f) s' h
  have hend:∀ (σ₂:S) (s₂:Shared) (ρ₂:List Addr) (xs₂:Array Value) (c₂:Nat) (best₂:Option (V×V)),wx LM l k n best₂ σ₂ = .ok ov σe→Rel K F.in1 σ₂ ρ₂ s₂→ExtF [B] F.mine ρ₀ ρ₂ h₀ s₂.heap→ρ₂[l]?=some a→Rep K s₂.heap ρ₂ k wk→BAt s₂.heap B xs₂ c₂→waa K s₂.heap ρ₂ best₂ xs₂→B∉ρ₂→
    wpAny (model K.prog K.w) F.in1.A (again (.builtin (toString "max" ++ toString ".loop") ⟨[.ref a,wk,.ref B],[(Str.ofString "default",wd)]⟩)) Q' E' s₂:=by
   intro σ₂ s₂ ρ₂ xs₂ c₂ best₂ q1 q2 q3 q4 q5 q6 q7 q8;rw [hname];exact wpAny_pure (hQ (.again _) _ ⟨plainId_quiet PySem.F.plain_max_loop _,ih best₂ σ₂ ρ₂ s₂ xs₂ c₂ ov σe q1 q2.out1 q3 q4 q5 q6 q7 q8⟩)
  clear hQ ih;refine wpAny_bind (wpAny_seqItems hB rfl ?_);show wpAny _ F.in1.A (tryCatch (pyNext (.ref a)) _ >>= _) _ _ s
  have hn:=gc6 (K:=K) (F:=F.in1) (A:=F.in1.A) rel.in1 (show F.A.handled=none from hr.1) hρ
  cases en:gj l σ with
  | stuck=>rw [en] at e; (injection e)
  | exc _ _=>rw [en] at e; (injection e)
  | ok oit σ₁=>
   rw [en] at e hn;clear en
   cases oit with
   | none=>
    dsimp only at e hn;refine wpAny_bind (wpAny_tryCatch (wpAny_mono hn (fun r s₁ hq=>?_) fun zZ zZ q=>q.elim));clear hn hend;refine xj hq fun o_240 r1 x1 hb1=>?_
    try clear hq
    obtain rfl:=o_240;have x1':Ext F.mine ρ ρ s.heap s₁.heap:=x1;refine kd (x1'.list_kept hB n1 n2) fun hB1 zZ=>?_;have rb1:=rb.mono fun zZ zZ r=>r.mono x1';have x3:=x0.trans (ExtF.of x1');clear rb x1 hB x0 x1' rel rk hb1
    cases best with
    | none=>
     have e:=Res.ok.inj e
     rw [show xs = #[] from rb1]
     exact wpAny_bind (wpAny_rule (wpAny_pure (hdone _ _ ⟨ρ,wd,rfl,by rw [← e.2]; exact r1.out1,x3,by rw [← e.1]; rfl⟩)))
    | some b=>
     have e:=Res.ok.inj e;refine yc rb1 fun wi wv o_241 ri rv=>?_
     try clear rb1
     obtain rfl:=o_241;dsimp only;have hkeep:∀ b o,b≠B→s₁.heap.get? b=some o→(s₁.heap.update B (Obj.mapSeq fun zZ => #[])).get? b=some o:=fun b o nb g=>(Heap.get?_update_other _ _ (Ne.symm nb)).trans g;refine wpAny_bind (wpAny_updateSeq hB1 rfl (wpAny_bind (wpAny_letGo (wpAny_pure (hdone _ _ ⟨ρ,wi,rfl,?_,?_,?_⟩)))))
     ·rw [← e.2]; exact r1.out1.listB (s':={s₁ with heap:=s₁.heap.update B (Obj.mapSeq fun zZ => #[])}) hB1 n1 n2 n3 hkeep rfl rfl
     ·exact x3.trans (ExtF.step (fun b hb=>by rw [List.mem_singleton.mp hb]; exact ⟨_,Heap.get?_update_self _ hB1 rfl⟩) fun b o nb g=>hkeep b o (fun q=>nb (by rw [q]; simp)) g)
     ·rw [← e.1]; exact zae hB1 hkeep ri
   | some it=>
    dsimp only at e hn;refine wpAny_bind (wpAny_tryCatch (wpAny_mono hn (fun r s₁ hq=>?_) fun zZ zZ q=>q.elim));clear hn hdone;refine wrap fun G_ hG_=>?_;obtain ⟨w,o_242,r1,x1,hb1,rit⟩:=hq;refine hG_ ?_;clear hG_ G_;obtain rfl:=o_242;have x1':Ext F.mine ρ ρ s.heap s₁.heap:=x1;refine kd (x1'.list_kept hB n1 n2) fun hB1 zZ=>?_;have rb1:=rb.mono fun zZ zZ r=>r.mono x1';have x3:=x0.trans (ExtF.of x1');have rk1:=rk.mono x1';clear rb x1 hB x0 x1' rel rk hb1
    cases ek:gx LM k it σ₁ with
    | stuck=>rw [ek] at e; cases e
    | exc _ _=>rw [ek] at e; (injection e)
    | ok val σ₂=>
     rw [ek] at e;dsimp only at e
     cases best with
     | none=>
      rw [show xs = #[] from rb1] at hB1 ⊢
      dsimp only at e;refine gb8 fk hf hr r1 rk1 rit ek fun wv s₂ ρ₂ r2 x2 rv=>?_;refine kd (x2.list_kept hB1 n1 n2) fun hB2 n1'=>?_
      exact wpAny_bind (zb9 n2 n3 r2 (x3.trans (ExtF.of x2)) (rk1.mono x2) (rit.mono x2) rv hB2 (by rw [sizeLine_eq]; exact Nat.zero_le _) n1' fun s₃ c₃ p1 p2 p3 p4 p5=>hend σ₂ s₃ ρ₂ _ c₃ _ e p1 p2 (getElem?_prefix x2.pre hρ) p3 p4 p5 n1')
     | some b=>
      refine yc rb1 fun wi wo o_243 ri ro=>?_
      try clear rb1
      obtain rfl:=o_243;dsimp only at e
      cases eg:gtB val b.2 σ₂ with
      | stuck=>rw [eg] at e; (injection e)
      | exc _ _=>rw [eg] at e; (injection e)
      | ok rr σ₃=>
       rw [eg] at e;dsimp only at e;refine ym (kcr eg) fun dv dw d1 d2 d3 h3=>?_;rw [h3] at e;clear eg h3;refine gb8 fk hf hr r1 rk1 rit ek fun wv s₂ ρ₂ r2 x2 rv=>?_;refine kd (x2.list_kept hB1 n1 n2) fun hB2 n1'=>?_
       exact zdb hr n2 n3 r2 (x3.trans (ExtF.of x2)) (rk1.mono x2) (rit.mono x2) rv (ro.mono x2) hB2 n1' d1 d2 d3
        (fun hr3 s₃ c₃ p1 p2 p3 p4 p5=>hend σ₂ s₃ ρ₂ _ c₃ _ (by rw [if_pos hr3] at e; exact e) p1 p2 (getElem?_prefix x2.pre hρ) p3 p4 p5 n1')
        (fun hr3=>hend σ₂ s₂ ρ₂ _ _ (some b) (by rw [if_neg (by rw [hr3]; decide)] at e; exact e) r2 (x3.trans (ExtF.of x2)) (getElem?_prefix x2.pre hρ) (rk1.mono x2) hB2 ⟨wi,wo,rfl,ri.mono x2,ro.mono x2⟩ n1')
end
end
section
variable {K:Glo} {F:Frm}
theorem wbz {prog:Program} {w:World} {A:Around} {E:Value→Shared→Prop} {s:Shared} {id:String} {b:Builtin} {args:List Value} {kw:List (Str×Value)} {Q:Value→Shared→Prop} (hk:builtinKind id=none) (hp:plainId id=true)
  (hb:entryFor table id=some b) (ha:argsOk id ⟨args,kw⟩)
  (hc:wpAny (model prog w) A.in1 (b ⟨args,kw⟩) (fun fin s'=>match fin with
   | .done f=>(match (Except.ok f:Result) with | .ok (.ret v)=>Q v s' | .ok _=>False | .error e=>E e s')
   | .again c'=>c'.quiet=true∧codeAny (model prog w) A c' (fun r s'=>match r with | .ok (.ret v)=>Q v s' | .ok _=>False | .error e=>E e s') s') E s):wpAny (model prog w) A (PySem.call (.builtin id) args kw) Q E s:=by
 refine wpAny_call (codeAny_call_builtin hp hb ?_);simp only [checkBuiltinCall,hk]
 cases hsig:Manifest.signature? id with
 | none=>exact wpAny_pure hc
 | some sig=>
  have ha':Bind.checkArgs id sig ⟨args,kw⟩=pure ():=by simpa only [argsOk,hsig] using ha
  simp only [ha'];exact wpAny_pure hc
noncomputable def maxM (LM:Nat→List V→Fun):V→V→V→M V
 | .obj l,d,k=>fun σ=>match σ.st[l]? with
  | some (.itr _ _ _)=>(match wx LM l k 4096 none σ with
   | .ok (some v) σ'=>.ok v σ'
   | .ok none σ'=>.ok d σ'
   | _=>.stuck)
  | _=>.stuck
 | _,_,_=>stuck
theorem xcr (d k:Value):Builtin.Builtins.bindParams "max" ["key", "default"] 0 ⟨[],[(Str.ofString "default",d),(Str.ofString "key",k)]⟩=pure [some k,some d]:=by rfl
theorem gb5 (a d k:Value):argsOk "max" ⟨[a],[(Str.ofString "default",d),(Str.ofString "key",k)]⟩:=by
 unfold argsOk; kernel_rfl
theorem yc7 (fk:FOk F) {LM:Nat→List V→Fun} {lvl:Nat} (hf:q0 K lvl LM) (hr:Room F.A (lvl + 1)) {σ:S} {ρ:List Addr} {s:Shared} {v d k:V} {wv wd wk:Value} (rel:Rel K F σ ρ s) (rv:Rep K s.heap ρ v wv) (rd:Rep K s.heap ρ d wd) (rk:Rep K s.heap ρ k wk) :
  Run K F (PySem.call (.builtin "max") [wv] [(Str.ofString "default",wd),(Str.ofString "key",wk)]) (Rep K) (maxM LM v d k σ) ρ s:=by
 have hname:(toString "max" ++ toString ".loop" : String) = "max.loop" :=by decide
 cases v with
 | obj l=>
  unfold maxM;dsimp only
  cases hc:σ.st[l]? with
  | none=>exact Run.stuck
  | some c=>
   cases c with
   | itr k2 i2 d2=>
    dsimp only;refine ya (Rep.obj_iff.mp rv) fun a hρ o_244=>?_;clear rv;obtain rfl:=o_244;refine yd (rel.cell l a _ hρ hc) fun o ho hcl zZ=>?_
    cases em:wx LM l k 4096 none σ with
    | stuck=>exact Run.stuck
    | exc _ _=>exact Run.stuck
    | ok ov σe=>
     have main:wpAny (model K.prog K.w) F.A (PySem.call (.builtin "max") [.ref a] [(Str.ofString "default",wd),(Str.ofString "key",wk)]) (fun w s'=>ya4 K F (.ok ov σe) ρ s.heap s.heap.objs.size wd (.ok (.ret w)) s') (fun zZ zZ=>False) s:=by
      refine wbz PySem.F.kind_max PySem.F.plain_max PySem.F.entry_max (gb5 _ _ _) ?_
      show wpAny _ F.A.in1 (Builtin.Builtins.bindParams "max" ["key", "default"] 0 ⟨[],[(Str.ofString "default",wd),(Str.ofString "key",wk)]⟩ >>= _) _ _ s
      refine wpAny_bind (wpAny_of_eq (xcr wd wk) ?_);refine wpAny_bind (wpAny_pure ?_);refine wpAny_bind (gad ho hcl ?_)
      refine wpAny_bind (wpAny_newObj_type ?_ (by size_fits))
      refine xj (j2 rel) fun f0 f1 f2 f3=>?_
      have hk:∀ b o,s.heap.get? b=some o→(s.heap.push {cls:= .type "list",data:= .seq #[]}).get? b=some o:=fun b o e=>Heap.get?_push_of_some _ e
      have x1:Ext F.mine ρ ρ s.heap (s.heap.push {cls:= .type "list",data:= .seq #[]}):=Ext.kept hk
      rw [hname];refine wpAny_pure ⟨plainId_quiet PySem.F.plain_max_loop _,codeAny_mono (zc7 (ρ₀:=ρ) (h₀:=s.heap) fk hf hr f2 f1 4096 none σ ρ _ #[] 0 ov σe em (rel.push _ s.toks) (ExtF.of x1) hρ (rk.mono x1) (Heap.get?_push_size _ rfl) rfl f3) fun r s' h=>?_⟩;obtain ⟨ρ',w,rfl,h⟩:=h;exact (yh ρ' w rfl h)
     have fin:∀ w s',ya4 K F (.ok ov σe) ρ s.heap s.heap.objs.size wd (.ok (.ret w)) s'→∃ ρ',Rel K F σe ρ' s'∧Ext F.mine ρ ρ' s.heap s'.heap∧gck K s'.heap ρ' wd ov w:=by
      rintro w s' ⟨ρ',w',e,r',x',h'⟩
      (injection e with c_1; injection c_1 with c_1; subst c_1)
      have hno:∀ b o,s.heap.get? b=some o→b∉[s.heap.objs.size]:=fun b o e q=>by
       rw [List.mem_singleton.mp q,Heap.get?_none_of_le (Nat.le_refl _)] at e; (injection e)
      exact (gc ρ' r' ⟨x'.pre,x'.alive,x'.new,fun b o e n1 n2=>x'.keep b o e n1 (hno b o e) n2,fun b o e f=>x'.froz b o e f (hno b o e)⟩ h')
     cases ov with
     | some u=>
      refine Run.ok (wpAny_mono main (fun w s' h=>?_) fun zZ zZ h=>h);refine yd (fin w s' h) fun ρ' r' x' h'=>?_;exact (gc ρ' r' x' h')
     | none=>
      refine Run.ok (wpAny_mono main (fun w s' h=>?_) fun zZ zZ h=>h);refine yd (fin w s' h) fun ρ' r' x' h'=>?_;have h':w=wd:=h';rw [h'];exact (gc ρ' r' x' (rd.mono x'))
   | _=>exact Run.stuck
 | _=>exact Run.stuck
theorem gcr (fk:FOk F) {LM:Nat→List V→Fun} {lvl:Nat} (hf:q0 K lvl LM) (hr:Room F.A (lvl + 1)) {np pos p1 p2:Pos} {e d k:Expr} {me md mk:M V} (hx:F.env.kindOf (Str.ofString "max")=some .globalImplicit) (hm:K.mg (Str.ofString "max")=none)
  (he:SimE K F e me) (hd:SimE K F d md) (hk:SimE K F k mk) (hst:starEach (e :: []) F.env=(false,eval e F.env) :: starEach [] F.env:=by rfl) :
  SimE K F (.Call (.Name (Str.ofString "max") np) [e] [⟨some (Str.ofString "default"),d,p1⟩,⟨some (Str.ofString "key"),k,p2⟩] pos) (do let v ← me; let a ← md; let b ← mk; maxM LM v a b):=by
 intro σ ρ s rel;refine Run.of_wp fun hne=>?_;simp only [yam]
 refine wpAny_bind (yv fk rel hx hm (v:= .builtin "max") (by decide +kernel) ?_)
 refine callWith_kw ?_ (by rw [hst]; rfl) (by rw [kq,hst]; rfl)
 rw [hst];show wpAny _ _ (spliced ((false,eval e F.env) :: [])) _ _ s;rw [yi];refine wpAny_bind (Run.bindWp (he σ ρ s rel) hne fun vv σ₁ ρ₁ s₁ wv e1 e2 rel₁ x₁ rv=>?_);rw [e2] at hne ⊢;refine wpAny_bind (wpAny_holding (wpAny_pure (wpAny_pure ?_)))
 show wpAny _ _ (evalAll [(do let v ← eval d F.env; standAt pos; pure v),(do let v ← eval k F.env; standAt pos; pure v)]) _ _ s₁
 refine wpAny_evalAll_cons (wpAny_bind ?_)
 refine wpAny_mono (Run.bindWp (P:=fun wc s₃=>wpAny (model K.prog K.w) F.A (do standAt pos; pure wc) _ _ s₃) (hd σ₁ ρ₁ s₁ rel₁) hne fun vd σ₂ ρ₂ s₂ wd e3 e4 rel₂ x₂ rd=>?_) (fun zZ zZ q=>q) fun zZ zZ q=>q.up x₁
 rw [e4] at hne ⊢;refine wpAny_bind (wpAny_standAt (wpAny_pure ?_));refine wpAny_evalAll_cons (wpAny_bind ?_)
 refine wpAny_mono (Run.bindWp (P:=fun wc s₃=>wpAny (model K.prog K.w) F.A (do standAt pos; pure wc) _ _ s₃) (hk σ₂ ρ₂ s₂ rel₂) hne fun vk σ₃ ρ₃ s₃ wk e5 e6 rel₃ x₃ rk=>?_) (fun zZ zZ q=>q) fun zZ zZ q=>(q.up x₂).up x₁
 rw [e6] at hne ⊢;refine wpAny_bind (wpAny_standAt (wpAny_pure (wpAny_evalAll_nil ?_)));have key:=yc7 (F:=F) fk hf hr rel₃ ((rv.mono x₂).mono x₃) (rd.mono x₃) rk;exact wpAny_mono (key.wp hne) (fun zZ zZ q=>((q.up x₃).up x₂).up x₁) fun zZ zZ q=>((q.up x₃).up x₂).up x₁
end
open PySem PySem.W PyProof.Rows PySem.SeqAt
section
variable {K:Glo} {F:Frm}
noncomputable def clsD:PyData→Nat
 | .int _=>1
 | .tuple xs=>match xs with
  | .int _ :: _=>3
  | _=>0
 | _=>0
noncomputable def ja4:List PyData→Bool
 | []=>true
 | d :: r=>clsD d != 0 && r.all fun e=>clsD e == clsD d
theorem ycl {ds:List PyData} (h:ja4 ds=true):∃ c,c≠0∧∀ d∈ds,clsD d=c:=by
 cases ds with
 | nil=>exact (ja 1 (by decide) (fun d hd=>by simp at hd))
 | cons d r=>
  unfold ja4 at h;simp only [Bool.and_eq_true,bne_iff_ne,ne_eq,List.all_eq_true,beq_iff_eq] at h;refine (ja (clsD d) h.1 (fun e he=>?_))
  rcases List.mem_cons.mp he with rfl | he
  ·rfl
  ·exact h.2 e he
theorem yb9 {d:PyData} (h:clsD d=1):∃ i,d = .int i:=by
 cases d with
 | int i=>exact ⟨i,rfl⟩
 | tuple xs=>cases xs with
  | nil=>(injection h)
  | cons z zs=>cases z <;> cases h
 | _=>(exfalso; exact nomatch h)
section
variable {prog:Program} {w:World} {A:Around} {E:Value→Shared→Prop} {s:Shared}
theorem kc4 {x y:PyData} {a b:Value} {as bs:List Addr} {r:Bool} {Q:Bool→Shared→Prop} (ra:Reads s.heap a x as) (rb:Reads s.heap b y bs) (e:lt0 x y=some r) (h:Q r s):wpAny (model prog w) A (oneLt' true a b) Q E s:=by
 cases ra with
 | int i t=>
  cases rb with
  | int j u=>exact oneLt_int (Option.some.inj e ▸ h)
  | _=>cases e
 | _=>cases e
theorem zcs {r fin:Bool} {Q:Bool→Shared→Prop} (hQ:Q r s):∀ (xs ys:List PyData) (vs ws:List Value) (as bs:List Addr) (i:Nat),ReadsAll s.heap vs xs as→ReadsAll s.heap ws ys bs→PyData.canLayAll0 xs=true→PyData.canLayAll0 ys=true→
  A.units + min (PyData.depthAll xs) (PyData.depthAll ys) < cLine→ga2 xs ys=some r→fin=decide (xs.length < ys.length)→KatLex prog w A true fin Q (vs.zip ws) i s:=by
 intro xs
 induction xs with
 | nil=>
  intro ys vs ws as bs i ra rb ha hb hu e hf
  cases ra
  subst hf
  cases e
  exact kat_nil hQ
 | cons x xs ih=>
  intro ys vs ws as bs i ra rb ha hb hu e hf
  cases ra with
  | cons ra1 ra2=>
   cases rb with
   | nil=>
    subst hf
    cases e
    rw [List.zip_nil_right];exact kat_nil ((decide_eq_false (Nat.not_lt_zero _)).symm ▸ hQ)
   | @cons _ ws' y ys _ _ rb1 rb2=>
    simp only [PyData.canLayAll0,Bool.and_eq_true] at ha hb
    refine kat_cons (eqAt_reads x y A s _ _ _ _ ra1 rb1 ha.1 hb.1 (room_head (by simpa [PyData.depthAll] using hu)) prog w _ _ ?_)
    have e:(if PyData.eqv x y=true then ga2 xs ys else lt0 x y)=some r:=e
    cases he:PyData.eqv x y with
    | true=>
     rw [he,if_pos rfl] at e
     exact kat_yes (ih _ _ _ _ _ (i + 1) ra2 rb2 ha.2 hb.2 (room_tail (by simpa [PyData.depthAll] using hu)) e (by rw [hf]; simp))
    | false=>
     rw [he,if_neg (by decide)] at e
     refine kat_no ?_
     cases i with
     | zero=>exact kc4 ra1 rb1 e hQ
     | succ i=>exact kat_one _ _ (qax ra1 rb1 e prog w _ _ hQ)
end
theorem ga9 {d:PyData} (h:clsD d=3):∃ i r,d = .tuple (.int i :: r):=by
 cases d with
 | tuple xs=>cases xs with
  | nil=>(injection h)
  | cons z zs=>cases z <;> first | (cases h; done) | exact (yaw _ _ rfl)
 | _=>(exfalso; exact nomatch h)
theorem xbp {h:Heap} {ws:List Value} {T:Value} (H:∀ v∈ws,∃ a o xs n f,v = .ref a∧h.get? a=some o∧o.cls = .type "tuple" ∧ o.data = .seq xs n∧xs[0]?=some f∧(∀ M:Model,Looks M h (typeOf f) T)) :
  ∃ fs,KatTups h ws fs∧fs.length=ws.length∧∀ v∈fs,∀ M:Model,Looks M h (typeOf v) T:=by
 induction ws with
 | nil=>exact (gc ([]) KatTups.nil rfl (fun v hv=>by simp at hv))
 | cons v ws ih=>
  refine yd (ih fun v hv=>H v (List.mem_cons_of_mem _ hv)) fun fs k1 k2 k3=>?_;refine wrap fun G_ hG_=>?_;obtain ⟨a,o,xs,n,f,o_246,e1,e2,e3,e4,e5⟩:=H v List.mem_cons_self;refine hG_ ?_;clear hG_ G_;clear H;obtain rfl:=o_246
  exact ⟨f :: fs,KatTups.cons e1 e2 e3 e4 k1,by simp [k2],fun v hv=>by
   rcases List.mem_cons.mp hv with rfl | hv
   ·exact e5
   ·exact k3 v hv⟩
theorem ycs {h:Heap} {v:Value} {d:PyData} {as:List Addr} (q1:Reads h v d as) (hc:clsD d=3):∃ a o xs n f,v = .ref a∧h.get? a=some o∧o.cls = .type "tuple" ∧ o.data = .seq xs n∧xs[0]?=some f∧(∀ M:Model,Looks M h (typeOf f) (.type "int")):=by
 obtain ⟨i,r',o_247⟩:=ga9 hc;obtain rfl:=o_247
 cases q1 with
 | tuple k1 k2 k3 k4=>
  rename_i l o items n
  cases hi:items.toList with
  | nil=>rw [hi] at k4; cases k4
  | cons y ys=>
   rw [hi] at k4
   cases k4 with
   | cons k5 k6=>
    refine ⟨_,_,_,_,y,rfl,k1,k2,k3,?_,fun M=>by cases k5; exact .now⟩
    rw [← Array.getElem?_toList,hi]; rfl
theorem qd5 {s:Shared} {a b:PyData} {va vb:Value} {as bs:List Addr} {rr:Bool} {A:Around} {C:Bool→Shared→Prop} (hu:A.units + 7 < cLine) (e:ltD a b=some rr) (p1:Reads s.heap va a as) (p2:a.canLay0=true) (p3:a.depth≤6)
  (q1:Reads s.heap vb b bs) (q2:b.canLay0=true) (p4:clsD a=3) (q4:clsD b=3) (hC:C rr s):wpAny (model K.prog K.w) A (keyLt' (tuples' true) va vb) C (fun zZ zZ=>False) s:=by
 obtain ⟨ia,xa,o_248⟩:=ga9 p4;obtain rfl:=o_248;obtain ⟨ib,xb,o_249⟩:=ga9 q4;obtain rfl:=o_249
 cases p1 with
 | tuple h1 h2 h3 h4=>
  cases q1 with
  | tuple k1 k2 k3 k4=>
   refine kat_lt (s:=s) h1 h3 k1 k3 (zcs hC _ _ _ _ _ _ 0 h4 k4 p2 q2 ?_ e ?_)
   ·have p3:PyData.depthAll (.int ia :: xa) + 1≤6:=by simpa [PyData.depth] using p3
    (first | lia | omega)
   ·rw [← Array.length_toList,← Array.length_toList,ReadsAll.length _ _ _ h4,ReadsAll.length _ _ _ k4]
theorem wat {σst:gb} {us:List V} {xs:List Value} {ds:List PyData} {ρ:List Addr} {s:Shared} (g:GRel K σst ρ s) (r:RepL K s.heap ρ us xs) (h2:2≤us.length) (hd:mapO (toD σst 6) us=some ds) (hs:ja4 ds=true) (hall:zao ltD ds=true) :
  ∃ κ:SortKind,(∀ A E (Q:SortKind→Shared→Prop),Q κ s→wpAny (model K.prog K.w) A (keyKind' xs.toArray) Q E s)∧
   ∀ (A:Around) (i j:Nat) (C:Bool→Shared→Prop),A.units + 7 < cLine→i < us.length→j < us.length→C (btOf ltD ds i j) s→wpAny (model K.prog K.w) A (keyLt' κ (xs.getD i Value.none) (xs.getD j Value.none)) C (fun zZ zZ=>False) s:=by
 obtain ⟨c,hc0,hc⟩:=ycl hs;have hxl:xs.length=us.length:=r.length
 have read:∀ i,i < us.length→∃ d as,ds[i]?=some d∧Reads s.heap (xs.getD i Value.none) d as∧d.canLay0=true∧d.depth≤6∧clsD d=c:=by
  intro i hi;obtain ⟨d,e1,e2⟩:=yby (i:=i) (v:=us[i]) hd (List.getElem?_eq_getElem hi);have r1:=qbx r hi;rw [List.getD_eq_getElem?_getD,List.getElem?_eq_getElem hi] at r1;refine wrap fun G_ hG_=>?_;obtain ⟨as,q1,q2,q3⟩:=yn g 6 _ _ d e2 r1;refine hG_ ?_;clear hG_ G_;exact ⟨d,as,e1,q1,q2,q3,hc d (List.mem_of_getElem? e1)⟩
 have mem:∀ v∈xs,∃ d as,Reads s.heap v d as∧clsD d=c:=by
  intro v hv;obtain ⟨i,hi,o_250⟩:=List.mem_iff_getElem.mp hv;obtain rfl:=o_250;refine wrap fun G_ hG_=>?_
  obtain ⟨d,as,_,q1,_,_,q4⟩:=read i (by (first | lia | omega))
  refine hG_ ?_;clear hG_ G_;rw [List.getD_eq_getElem?_getD,List.getElem?_eq_getElem hi] at q1;exact ⟨d,as,q1,q4⟩
 have two:∀ i j,i < us.length→j < us.length→∃ a b as bs,ltD a b=some (btOf ltD ds i j)∧Reads s.heap (xs.getD i Value.none) a as∧a.canLay0=true∧a.depth≤6∧clsD a=c∧Reads s.heap (xs.getD j Value.none) b bs∧b.canLay0=true∧clsD b=c:=by
  intro i j hi hj;refine wrap fun G_ hG_=>?_;obtain ⟨a,as,e1,p1,p2,p3,p4⟩:=read i hi;obtain ⟨b,bs,e2,q1,q2,q3,q4⟩:=read j hj;obtain ⟨x,hx⟩:=qce hall e1 e2;refine hG_ ?_;clear hG_ G_;refine ⟨a,b,as,bs,?_,p1,p2,p3,p4,q1,q2,q4⟩;unfold btOf;rw [e1,e2]; dsimp only; rw [hx]; rfl
 by_cases h:c=1
 ·refine ⟨oneType',fun A E Q q=>?_,fun A i j C hu hi hj hC=>?_⟩
  ·refine kas_kind (s:=s) (T:= .type "int") (by (first | lia | omega)) (fun v hv=>?_) (by decide) (by decide) q
   refine wrap fun G_ hG_=>?_;obtain ⟨d,as,q1,q2⟩:=mem v hv;obtain ⟨i,o_251⟩:=yb9 (q2.trans h);refine hG_ ?_;clear hG_ G_;obtain rfl:=o_251
   cases q1 with
   | int _ t=>exact .now
  ·refine wrap fun G_ hG_=>?_;obtain ⟨a,b,as,bs,e,p1,p2,p3,p4,q1,q2,q4⟩:=two i j hi hj;refine hG_ ?_;clear hG_ G_;rw [keyLt'_oneType];obtain ⟨i,o_252⟩:=yb9 (p4.trans h);obtain rfl:=o_252;exact kc4 p1 q1 e hC
 ·have h:c=3:=by
   refine wrap fun G_ hG_=>?_
   obtain ⟨d,_,_,_,_,_,q⟩:=read 0 (by (first | lia | omega))
   refine hG_ ?_;clear hG_ G_;subst q
   cases d with
   | int i=>exact absurd rfl h
   | tuple xs=>cases xs with
    | nil=>exact absurd rfl hc0
    | cons z zs=>cases z <;> first | rfl | exact absurd rfl hc0
   | _=>exact absurd rfl hc0
  refine ⟨tuples' true,fun A E Q q=>?_,fun A i j C hu hi hj hC=>?_⟩
  ·refine wrap fun G_ hG_=>?_
   obtain ⟨fs,k1,k2,k3⟩:=xbp (h:=s.heap) (ws:=xs) (T:= .type "int") fun v hv=>(mem v hv).elim fun d q=>q.elim fun as q=>ycs q.1 (q.2.trans h)
   refine hG_ ?_;clear hG_ G_
   exact kat_kind (s:=s) (T:= .type "int") k1 (by (first | lia | omega)) (fun v hv=>k3 v hv _) (by decide) q
  ·refine wrap fun G_ hG_=>?_;obtain ⟨a,b,as,bs,e,p1,p2,p3,p4,q1,q2,q4⟩:=two i j hi hj;refine hG_ ?_;clear hG_ G_;exact qd5 hu e p1 p2 p3 q1 q2 (p4.trans h) (q4.trans h) hC
noncomputable def askB (n:Nat) (ask:Nat→Nat→Bool):Bool:=(List.range n).all fun i=>(List.range n).all fun j=>(!ask i j || !ask j i) && (List.range n).all fun k=>(ask j i || ask k j || !ask k i)
theorem jc7 {n:Nat} {ask:Nat→Nat→Bool} (h:askB n ask=true):Ask n ask:=by
 unfold askB at h;simp only [List.all_eq_true,List.mem_range,Bool.and_eq_true,Bool.or_eq_true,Bool.not_eq_true'] at h;refine ⟨fun i j hi hj e=>?_,fun i j k hi hj hk e1 e2=>?_⟩
 ·rcases (h i hi j hj).1 with h | h
  ·rw [e] at h; (injection h)
  ·exact h
 ·rcases (h i hi j hj).2 k hk with (h | h) | h
  ·rw [e1] at h; (injection h)
  ·rw [e2] at h; (injection h)
  ·exact h
theorem wc7 {n:Nat} {ask:Nat→Nat→Bool} (A:Ask n ask):askB n ask=true:=by
 unfold askB;simp only [List.all_eq_true,List.mem_range,Bool.and_eq_true,Bool.or_eq_true,Bool.not_eq_true'];intro i hi j hj;refine ⟨?_,fun k hk=>?_⟩
 ·cases e:ask i j with
  | false=>exact .inl rfl
  | true=>exact .inr (A.asymm i j hi hj e)
 ·cases e1:ask j i with
  | true=>exact .inl (.inl rfl)
  | false=>
   cases e2:ask k j with
   | true=>exact .inl (.inr rfl)
   | false=>exact .inr (A.trans i j k hi hj hk e1 e2)
noncomputable def okS (ds:List PyData):Bool:=ja4 ds && zao ltD ds && askB ds.length (btOf ltD ds.reverse) && decide (ds.length < 64)
noncomputable def revS (ds:List PyData) (vs:List V):List V:=if vs.length < 2 then vs else (qbt (btOf ltD ds.reverse) vs.reverse).reverse
theorem qr {ds:List PyData} {i j:Nat} (hi:i < ds.length) (hj:j < ds.length):btOf ltD ds.reverse i j=btOf ltD ds (ds.length - 1 - i) (ds.length - 1 - j):=by
 unfold btOf;rw [List.getElem?_reverse hi,List.getElem?_reverse hj]
theorem xab {α β:Type} {f:α→Option β}:∀ {vs:List α} {ds:List β},mapO f vs=some ds→ds.length=vs.length
 | [],ds,h=>by (injection h with c_1; subst c_1); rfl
 | v :: vs,ds,h=>by
  refine yc (jax h) fun b bs zZ h2 o_253=>?_;clear h;obtain rfl:=o_253;simp only [List.length_cons,List.length_cons,xab h2]
end
section
variable {K:Glo} {F:Frm}
theorem jcl {h:Heap} {a:Addr} {ws:List Value}:∀ b o,b≠a→h.get? b=some o→(xe h a ws).get? b=some o:=by
 intro b o hb e;unfold xe;refine Heap.get?_push_of_some _ (Heap.get?_push_of_some _ ?_);rw [Heap.get?_update_ne _ _ _ _ hb];exact e
theorem xbe {h:Heap} {a:Addr} {ws:List Value} {out:Array Value} (ha:a < h.objs.size):Heap.SameBut a ((h.push (seqObj "tuple" ws.toArray 0)).push (seqObj "list" #[] 0)) (sortedHeap h a ws out):=by
 unfold sortedHeap;refine ⟨?_,fun b hb=>?_⟩
 ·simp only [Heap.size_update,size_push',size_push',Heap.size_update,size_push',size_push']
 ·rw [Heap.get?_update_ne _ _ _ _ hb]
  by_cases h1:b=h.objs.size + 1
  ·subst h1
   have s1:((h.update a (Obj.mapSeq fun zZ => #[])).push (seqObj "tuple" ws.toArray 0)).objs.size=h.objs.size + 1:=by rw [size_push',Heap.size_update]
   have s2:(h.push (seqObj "tuple" ws.toArray 0)).objs.size=h.objs.size + 1:=size_push' ..
   have e1:=Heap.get?_push_size ((h.update a (Obj.mapSeq fun zZ => #[])).push (seqObj "tuple" ws.toArray 0)) (o:=seqObj "list" #[] 0) rfl
   have e2:=Heap.get?_push_size (h.push (seqObj "tuple" ws.toArray 0)) (o:=seqObj "list" #[] 0) rfl
   rw [s1] at e1;rw [s2] at e2;simp only [e1,e2]
  ·have s1:((h.update a (Obj.mapSeq fun zZ => #[])).push (seqObj "tuple" ws.toArray 0)).objs.size=h.objs.size + 1:=by rw [size_push',Heap.size_update]
   have s2:(h.push (seqObj "tuple" ws.toArray 0)).objs.size=h.objs.size + 1:=size_push' ..
   have g1:=Heap.get?_push_ne ((h.update a (Obj.mapSeq fun zZ => #[])).push (seqObj "tuple" ws.toArray 0)) b (seqObj "list" #[] 0) (by simp only [s1]; exact h1)
   have g2:=Heap.get?_push_ne (h.push (seqObj "tuple" ws.toArray 0)) b (seqObj "list" #[] 0) (by rw [s2]; exact h1)
   simp only [g1,g2]
   by_cases h2:b=h.objs.size
   ·clear h1 g1 g2;subst h2
    have e1:=Heap.get?_push_size (h.update a (Obj.mapSeq fun zZ => #[])) (o:=seqObj "tuple" ws.toArray 0) rfl
    rw [Heap.size_update] at e1;rw [e1,Heap.get?_push_size _ rfl]
   ·have g3:=Heap.get?_push_ne (h.update a (Obj.mapSeq fun zZ => #[])) b (seqObj "tuple" ws.toArray 0) (by rw [Heap.size_update]; exact h2)
    simp only [g3,Heap.get?_push_ne h b _ h2,Heap.get?_update_ne _ _ _ _ hb]
theorem qbi {h:Heap} {a:Addr} {xs:List Value} {out:Array Value} {n:Nat} (ho:h.get? a=some (seqObj "list" xs.toArray n)):∃ m,IsL (sortedHeap h a xs out) a out m:=by
 unfold sortedHeap;have h1:=get?_update_seq ho (fun zZ=>(#[]:Array Value))
 exact ⟨_,get?_update_seq (Heap.get?_push_of_some (seqObj "list" #[] 0) (Heap.get?_push_of_some (seqObj "tuple" xs.toArray 0) h1)) (fun zZ=>out)⟩
theorem kao {ds:List PyData} (h:okS ds=true):ja4 ds=true∧zao ltD ds=true∧Ask ds.length (btOf ltD ds.reverse)∧ds.length < 64:=by
 unfold okS at h;simp only [Bool.and_eq_true,decide_eq_true_eq] at h;exact ⟨h.1.1.1,h.1.1.2,jc7 h.1.2,h.2⟩
theorem wam {ds:List PyData} {vs:List V} (h:okS ds=true) (hl:ds.length=vs.length):(revS ds vs).length=vs.length:=by
 unfold revS
 split
 ·rfl
 ·refine xj (kao h) fun zZ zZ hA zZ=>?_;rw [List.length_reverse];unfold qbt;rw [List.length_map,Array.length_toList,List.length_reverse];rw [hl] at hA
  exact (gbh hA (by exact jcc (by assumption))).1
theorem zba {h:Heap} {ρ:List Addr} {ds:List PyData} {us:List V} {xs:List Value} (ok:okS ds=true) (hl:ds.length=us.length) (h2:¬ us.length < 2) (hr:RepL K h ρ us xs):RepL K h ρ (revS ds us) (qab (btOf ltD ds.reverse) xs.reverse).reverse:=by
 unfold revS;rw [if_neg h2];refine RepL.reverse ?_;refine xj (kao ok) fun zZ zZ hA zZ=>?_;have hxl:xs.length=us.length:=hr.length
 have hsl:=qc5 hA (by exact wdq hl h2)
 unfold qbt qab;rw [List.length_reverse,List.length_reverse,hxl];rw [hl] at hsl
 exact kbx hr.reverse _ (fun i hi=>by rw [List.length_reverse]; exact hsl i hi)
noncomputable def xv:V→M V
 | .obj l=>fun σ=>if l=0 then .stuck else match σ.st[l]? with
  | some (.lst vs)=>(match mapO (toD (σ.st.set l (.lst [])) 6) vs with
   | some ds=>if okS ds=true then .ok .none {σ with st:=σ.st.set l (.lst (revS ds vs))} else .stuck
   | none=>.stuck)
  | _=>.stuck
 | _=>fun _=>.stuck
theorem zb6 (fk:FOk F) {σ:S} {ρ:List Addr} {s:Shared} {o:V} {wo:Value} (rel:Rel K F σ ρ s) (ro:Rep K s.heap ρ o wo) :
  Run K F (PySem.call (.builtin "list.sort") [wo] [(Str.ofString "reverse",.bool true)]) (Rep K) (xv o σ) ρ s:=by
 unfold xv
 split
 ·rename_i l
  by_cases hl0:l=0
  ·rw [if_pos hl0]; exact Run.stuck
  rw [if_neg hl0]
  cases hl:σ.st[l]? with
  | none=>exact Run.stuck
  | some c=>
   cases c with
   | lst us=>
    dsimp only
    cases hd:mapO (toD (σ.st.set l (.lst [])) 6) us with
    | none=>exact Run.stuck
    | some ds=>
     dsimp only
     by_cases ok:okS ds=true
     ·rw [if_pos ok];refine xj (kao ok) fun hs hall hA h64=>?_;have hdl:ds.length=us.length:=xab hd;refine zh (rel.list ro hl) fun a xs n o_254 hρ hL hr hn=>?_;obtain rfl:=o_254;have hxl:xs.length=us.length:=hr.length;have ha:a < s.heap.objs.size:=Heap.lt_size hL
      have fin:∀ (out:List Value),RepL K s.heap ρ (revS ds us) out→∃ ρ',Rel K F {σ with st:=σ.st.set l (.lst (revS ds us))} ρ' {s with heap:=sortedHeap s.heap a xs out.toArray}∧
        Ext F.mine ρ ρ' s.heap (sortedHeap s.heap a xs out.toArray)∧Rep K (sortedHeap s.heap a xs out.toArray) ρ' .none .none:=by
       intro out hrep;refine qb (qbi (xs:=xs) (out:=out.toArray) hL) fun m hm=>?_
       have hk:∀ b o,s.heap.get? b=some o→((s.heap.push (seqObj "tuple" xs.toArray 0)).push (seqObj "list" #[] 0)).get? b=some o:=fun b o e=>Heap.get?_push_of_some _ (Heap.get?_push_of_some _ e)
       have rel1:Rel K F σ ρ {s with heap:=(s.heap.push (seqObj "tuple" xs.toArray 0)).push (seqObj "list" #[] 0)}:=rel.kept hk rfl rfl
       refine kd (rel1.upd (s':={s with heap:=sortedHeap s.heap a xs out.toArray}) hρ hl0 (xbe ha) (n:=m) hm (RepL.mono' (List.prefix_refl _) (zl hk) hrep) (by rw [wam ok hdl]; exact hn) rfl rfl) fun rel' x'=>?_
       exact (gc ρ rel' ((Ext.kept hk).trans x') Rep.none)
      by_cases hsm:us.length < 2
      ·have e:revS ds us=us:=by unfold revS; rw [if_pos hsm]
       exact Run.ok (wpAny_call_entry_kw slot_list_sort ⟨_,hL,rfl⟩ entry_list_sort (qbd hL (by exact qbb hxl hsm) ⟨_,rfl,fin xs (by rw [e]; exact hr)⟩ _ (.inr rfl)) (wad _))
      ·have hrm:RepL K (xe s.heap a xs) ρ us xs:=by
        refine RepL.mono' (List.prefix_refl _) (fun b o e f=>jcl b o ?_ e) hr
        rintro rfl
        exact absurd rfl (jb4 hL.isList e f)
       have relm:Rel K F {σ with st:=σ.st.set l (.lst [])} ρ {s with heap:=xe s.heap a xs}:=by
        refine kd (rel.upd (s':={s with heap:=s.heap.update a (Obj.mapSeq fun _=>(#[]:Array Value))}) (vs:=[]) (ws:=[]) hρ hl0 (Heap.SameBut.update ..) (get?_update_seq hL (fun _=>(#[]:Array Value))) RepL.nil (Nat.zero_le _) rfl rfl) fun r1 _=>?_
        exact r1.kept (s':={s with heap:=xe s.heap a xs}) (fun b o e=>Heap.get?_push_of_some _ (Heap.get?_push_of_some _ e)) rfl rfl
       obtain ⟨κ,k1,k2⟩:=wat relm.toGRel hrm (by exact wcc hsm) hd hs hall
       have hu:=fk.units;have hu1:F.A.in1.units=F.A.units + 1:=rfl
       refine Run.ok (wpAny_call_entry_kw slot_list_sort ⟨_,hL,rfl⟩ entry_list_sort (qau (κ:=κ) (ask:=btOf ltD ds.reverse) hL (by exact qcc hxl hsm) (by exact qcy hxl h64 hdl) (fun Q q=>k1 _ _ Q q) (by rw [hxl,← hdl]; exact hA) (fun i j C hi hj hC=>?_) ⟨_,rfl,fin _ (zba ok hdl hsm hr)⟩) (wad _))
       unfold kas_ask;rw [y5 hi,y5 hj]
       refine k2 _ _ _ C (by exact qdq hu hu1) (by exact kcy hxl hj) (by exact xcy hxl hj) ?_
       rw [qr (by exact gbr hi hdl hxl) (by exact gbr hj hdl hxl),show ds.length=xs.length by exact kcc hdl hxl] at hC
       exact hC
     ·rw [if_neg ok]; exact Run.stuck
   | _=>exact Run.stuck
 ·exact Run.stuck
theorem jaz (fk:FOk F) {o:Expr} {apos pos kp cp:Pos} {mo:M V} {k:Nat} (ho:SimE K F o mo) {pl:Sem Bool}
  (he:eval (.Call (.Attribute o (Str.ofString "sort") apos) [] [⟨some (Str.ofString "reverse"),.Constant (.bool true) k cp,kp⟩] pos) F.env=(do
   let ov ← eval o F.env
   standAt apos.atName
   let (f,first) ← holding [ov] (getMethod ov (Str.ofString "sort") pl)
   callWith pos f first (backTo pos (starEach [] F.env)) (backToKw pos (keywordEach [⟨some (Str.ofString "reverse"),.Constant (.bool true) k cp,kp⟩] F.env))):=by rfl) :
  SimE K F (.Call (.Attribute o (Str.ofString "sort") apos) [] [⟨some (Str.ofString "reverse"),.Constant (.bool true) k cp,kp⟩] pos) (do let ov ← mo; chkL ov; xv ov):=by
 intro σ ρ s rel;refine Run.of_wp fun hne=>?_;rw [he];refine wpAny_bind ?_;refine Run.bindWp (ho σ ρ s rel) hne fun ov σ₁ ρ₁ s₁ wo e1 e2 rel₁ x₁ ro=>?_;rw [e2] at hne ⊢
 have hcl:∃ l us,ov = .obj l∧σ₁.st[l]?=some (.lst us):=by
  cases ov with
  | obj l=>
   cases hc:σ₁.st[l]? with
   | none=>exact absurd (by rw [M.bind_def]; simp only [chkL,hc]) hne
   | some c=>
    cases c with
    | lst us=>exact (yh l us rfl hc)
    | _=>exact absurd (by rw [M.bind_def]; simp only [chkL,hc]) hne
  | _=>exact absurd (by rw [M.bind_def]; dsimp only [chkL]) hne
 refine jm hcl fun l us o_255 hc=>?_
 try clear hcl
 clear e1 e2;obtain rfl:=o_255;refine zh (rel₁.list ro hc) fun a ws n o_256 hρ hL hr zZ=>?_;obtain rfl:=o_256;have e3:(chkL (.obj l) >>= fun zZ=>xv (.obj l)) σ₁=xv (.obj l) σ₁:=M.bind_ok (wan hc);rw [e3] at hne ⊢;refine wpAny_bind (wpAny_standAt (wpAny_bind (wpAny_holding ?_)));refine getMethod_list_of slot_list_sort PySem.F.type_list_sort hL.isList ⟨_,hL,rfl⟩ ?_;refine callWith_builtin_kwB rfl rfl ?_;unfold evalArgs;refine wpAny_bind (wpAny_pure (wpAny_bind (wpAny_pure ?_)));refine wpAny_holding ?_
 rw [if_pos (by rfl)]
 refine wpAny_bind (kws_cons (wpAny_Constant_bool (kws_nil ?_)));refine wpAny_bind (wpAny_pure (wpAny_pure ?_));exact wpAny_mono ((zb6 fk rel₁ ro).wp hne) (fun zZ zZ q=>q.up x₁) fun zZ zZ q=>q.up x₁
end
section
variable {K:Glo} {F:Frm}
theorem Rel.adopt {σ:S} {ρ:List Addr} {s:Shared} {a:Addr} {c:Cel} (r:Rel K F σ ρ s) (n1:a∉ρ) (n2:a∉F.mine) (n3:K.base.get? a=none) (hL:qk K s.heap ρ c a):Rel K F {σ with st:=σ.st ++ [c]} (ρ ++ [a]) s:=by
 have hpre:ρ <+: ρ ++ [a]:=List.prefix_append _ _;refine {gens:=r.gens,os:=r.os,base:=r.base,len:=?_,cell:=?_,nodup:=?_,above:=?_,own:=r.own,vars:=?_,loc:=r.loc,cels:=r.cels,mineAbove:=r.mineAbove,mineApart:=?_,mineLoc:=r.mineLoc,frs:=r.frs}
 ·simp [r.len]
 ·intro l b c' h1 h2;dsimp only at h2
  by_cases hl:l < σ.st.length
  ·rw [List.getElem?_append_left (by rw [r.len]; exact hl)] at h1
   rw [List.getElem?_append_left hl] at h2;exact (r.cell l b c' h1 h2).mono hpre (fun b o e zZ=>e) (fun zZ e zZ=>e) fun zZ zZ n=>n
  ·have hl':l=σ.st.length:=by
    rcases List.getElem?_eq_some_iff.mp h2 with ⟨h3,_⟩
    simp at h3; exact nL1 h3 hl
   clear hl;subst hl'
   rw [← r.len,List.getElem?_concat_length] at h1; (injection h1 with c_1; subst c_1)
   rw [List.getElem?_concat_length] at h2; (injection h2 with c_1; subst c_1)
   exact hL.mono hpre (fun b o e zZ=>e) (fun zZ e zZ=>e) fun zZ zZ n=>n
 ·refine List.nodup_append.mpr ⟨r.nodup,by simp,?_⟩
  intro b hb c hc;simp only [List.mem_singleton] at hc; subst hc
  rintro rfl
  exact n1 hb
 ·intro l b hlb hl0
  by_cases hlt:l < ρ.length
  ·rw [List.getElem?_append_left hlt] at hlb;exact r.above l b hlb hl0
  ·have hb:b=a:=by
    rw [List.getElem?_append_right (by exact nL2 hlt)] at hlb
    have:=List.mem_of_getElem? hlb
    simpa using this
   clear n1 hL hlb;subst hb;exact n3
 ·intro y v e;refine ya (r.vars y v e) fun w h1 h2=>?_;exact (ja w h1 (Rep.mono' hpre (fun zZ zZ e zZ=>e) h2))
 ·intro b hb hc
  rcases List.mem_append.mp hc with hc | hc
  ·exact r.mineApart b hb hc
  ·simp only [List.mem_singleton] at hc; subst hc; exact n2 hb
noncomputable def zw (kM:V→M V):List V→M (List V)
 | []=>pure []
 | v :: vs=>fun σ=>match kM v σ with
  | .ok u σ1=>(match zw kM vs σ1 with
   | .ok us σ2=>.ok (u :: us) σ2
   | _=>.stuck)
  | _=>.stuck
section
variable {prog:Program} {w:World} {A:Around} {E:Value→Shared→Prop} {s:Shared}
theorem wcl {G:Frm} {kM:V→M V} {f:V} {wf:Value} {B L:Addr} {ρ₀:List Addr} {h₀:Heap} {e1:Nat} {us:List V} {xs:List Value}
  (hkey:∀ σ ρ s v w,Rel K G σ ρ s→Rep K s.heap ρ f wf→Rep K s.heap ρ v w→Run K G (PySem.call wf [w]) (Rep K) (kM v σ) ρ s) (n2:B∉G.mine) (n3:K.base.get? B=none) (m2:L∉G.mine) (hBL:B≠L)
  {body:Value→PUnit→Sem (ForInStep PUnit)} {Q:PUnit→Shared→Prop} {E:Value→Shared→Prop}
  (hb:∀ x (s:Shared) (R':ForInStep PUnit→Shared→Prop),wpAny (model K.prog K.w) G.A (PySem.call wf [x]) (fun k s'=>wpAny (model K.prog K.w) G.A (Builtin.List.listUpdate (.ref B) (·.push k)) (fun zZ s''=>R' (.yield ⟨⟩) s'') E s') (fun zZ zZ=>False) s→wpAny (model K.prog K.w) G.A (body x ⟨⟩) R' E s) :
  ∀ (vs:List V) (ws:List Value) (σ:S) (ρ:List Addr) (s:Shared) (kA:Array Value) (c:Nat) (ks₀ ks:List V) (σe:S),zw kM vs σ = .ok ks σe→Rel K G σ ρ s→ExtF [B] G.mine ρ₀ ρ h₀ s.heap→Rep K s.heap ρ f wf→RepL K s.heap ρ vs ws→
   BAt s.heap B kA c→RepL K s.heap ρ ks₀ kA.toList→B∉ρ→BAt s.heap L #[] e1→L∉ρ→kA.size + vs.length≤100→RepL K s.heap ρ us xs→
   (∀ ρ' s' kA' c',Rel K G σe ρ' s'→ExtF [B] G.mine ρ₀ ρ' h₀ s'.heap→BAt s'.heap B kA' c'→RepL K s'.heap ρ' (ks₀ ++ ks) kA'.toList→B∉ρ'→BAt s'.heap L #[] e1→L∉ρ'→RepL K s'.heap ρ' us xs→Q ⟨⟩ s')→
   wpAny (model K.prog K.w) G.A (forIn ws PUnit.unit body) Q E s:=by
 intro vs
 induction vs with
 | nil=>
  intro ws σ ρ s kA c ks₀ ks σe e rel x rf rv hB rk n1 hL m1 hsz ru hQ;obtain rfl:=RepL.nil_iff.mp rv
  (injection e with c_1 c_2; subst c_1 c_2)
  simp only [List.forIn_nil]
  exact wpAny_pure (hQ ρ s kA c rel x hB (by rw [List.append_nil]; exact rk) n1 hL m1 ru)
 | cons v vs ih=>
  intro ws σ ρ s kA c ks₀ ks σe e rel x rf rv hB rk n1 hL m1 hsz ru hQ;refine yc (RepL.cons_iff.mp rv) fun w ws o_257 rv1 rv2=>?_;clear rv;obtain rfl:=o_257;unfold zw at e
  cases e1':kM v σ with
  | stuck=>rw [e1'] at e; (injection e)
  | exc _ _=>rw [e1'] at e; (injection e)
  | ok u σ1=>
   rw [e1'] at e;dsimp only at e
   cases e2:zw kM vs σ1 with
   | stuck=>rw [e2] at e; (injection e)
   | exc _ _=>rw [e2] at e; (injection e)
   | ok us' σ2=>
    rw [e2] at e
    cases e
    rw [List.forIn_cons];have hr:=hkey σ ρ s v w rel rf rv1;rw [e1'] at hr;refine wpAny_bind (hb _ _ _ (wpAny_mono hr (fun k s1 h=>?_) fun zZ zZ q=>q.elim));refine yd h fun ρ1 rel1 x1 ruk=>?_
    try clear h
    refine kd (x1.list_kept hB n1 n2) fun hB1 n1'=>?_;refine kd (x1.list_kept hL m1 m2) fun hL1 m1'=>?_
    have hsz1:kA.size + 1≤100:=by simp only [List.length_cons] at hsz; exact kdq hsz
    have hkeep:∀ b o,b≠B→s1.heap.get? b=some o→(s1.heap.update B (Obj.mapSeq (·.push k))).get? b=some o:=fun b o nb g=>(Heap.get?_update_other _ _ (Ne.symm nb)).trans g
    refine listUpdate_at hB1 rfl ?_ (by rw [sizeLine_eq]; exact xdq hsz1) (Nat.le_trans (Nat.le_of_eq (Array.size_push ..)) (by rw [sizeLine_eq]; exact gdq hsz1))
    have rp:∀ {v w},Rep K s1.heap ρ1 v w→Rep K (s1.heap.update B (Obj.mapSeq (·.push k))) ρ1 v w:=fun r=>zae hB1 hkeep r
    have rpl:∀ {vs ws},RepL K s1.heap ρ1 vs ws→RepL K (s1.heap.update B (Obj.mapSeq (·.push k))) ρ1 vs ws:=by
     intro vs ws r;refine RepL.mono' (List.prefix_refl _) (fun b o e f=>?_) r;refine hkeep b o (fun q=>?_) e;have e':s1.heap.get? B=_:=hB1
     rw [q,e'] at e; (injection e with c_1; subst c_1)
     rcases f with ⟨f,_⟩ | ⟨f | f,_⟩
     ·exact absurd (show Value.type "list" = Value.type "tuple" from f) (by decide)
     ·exact absurd (show Value.type "list" = Value.type "range" from f) (by decide)
     ·exact absurd (show Value.type "list" = Value.type "code" from f) (by decide)
    show wpAny _ _ (forIn ws PUnit.unit body) _ _ _
    refine ih ws σ1 ρ1 {s1 with heap:=s1.heap.update B (Obj.mapSeq (·.push k))} (kA.push k) _ (ks₀ ++ [u]) us' σe e2 (Rel.listB rel1 hB1 n1' n2 n3 hkeep rfl rfl) ?_ (rp (rf.mono x1)) (rpl (rv2.mono x1)) (get?_update_seq hB1 (·.push k)) ?_ n1' (hkeep L _ (Ne.symm hBL) hL1) m1' ?_ (rpl (ru.mono x1)) ?_
    ·exact (x.trans (ExtF.of x1)).trans (ExtF.step (fun b hb=>by rw [List.mem_singleton.mp hb]; exact ⟨_,get?_update_seq hB1 (·.push k)⟩) fun b o nb g=>hkeep b o (fun q=>nb (by rw [q]; simp)) g)
    ·rw [Array.toList_push];exact RepL.append (rpl (rk.mono x1)) (RepL.cons (rp ruk) RepL.nil)
    ·rw [Array.size_push]; simp only [List.length_cons] at hsz; exact zdr hsz
    ·intro ρ' s' kA' c' p1 p2 p3 p4 p5 p6 p7 p8
     exact hQ ρ' s' kA' c' p1 p2 p3 (by rw [List.append_assoc] at p4; exact p4) p5 p6 p7 p8
end
theorem ydb {α:Type} (a:Array α) (d:α) {i:Nat} (h:i < a.size):a.getD i d=a[i]:=by simp [Array.getD,h]
theorem jdb {α:Type} (a:Array α) (d:α) {i:Nat} (h:¬ i < a.size):a.getD i d=d:=by simp [Array.getD,h]
theorem yba {ks vs:List Value} (h:ks.length=vs.length) (i:Nat):kas_item (ks.toArray.zip vs.toArray).reverse i=(ks.reverse.getD i Value.none,vs.reverse.getD i Value.none):=by
 have hz:(ks.toArray.zip vs.toArray).reverse.size=vs.length:=by simp [h]
 unfold kas_item
 by_cases hi:i < vs.length
 ·have e:(ks.toArray.zip vs.toArray).reverse.getD i (Value.none,Value.none)=(ks.toArray.zip vs.toArray).reverse[i]'(by rw [hz]; exact hi):=ydb _ _ (by rw [hz]; exact hi)
  rw [e,List.getD_eq_getElem?_getD,List.getD_eq_getElem?_getD,List.getElem?_eq_getElem (by rw [List.length_reverse]; exact nL65 hi h),List.getElem?_eq_getElem (by rw [List.length_reverse]; exact hi)]
  simp [List.getElem_reverse,h]
 ·have e:(ks.toArray.zip vs.toArray).reverse.getD i (Value.none,Value.none)=(Value.none,Value.none):=jdb _ _ (by rw [hz]; exact hi)
  rw [e,List.getD_eq_getElem?_getD,List.getD_eq_getElem?_getD,List.getElem?_eq_none (by rw [List.length_reverse]; exact ydr h hi),List.getElem?_eq_none (by rw [List.length_reverse]; exact nL2 hi)]
  rfl
end
section
variable {K:Glo} {F:Frm}
section
variable {prog:Program} {w:World} {A:Around} {E:Value→Shared→Prop} {s:Shared}
theorem gbe {l:Addr} {vs:List Value} {kw:List (Str×Value)} {Q:Value→Shared→Prop} (hl:s.heap.IsList l vs.toArray) (h64:vs.length≤100) (ha1:argsOk "sorted" ⟨[.ref l],kw⟩) (ha2:∀ x,argsOk "list.sort" ⟨[.ref x],kw⟩)
  (h:wpAny (model prog w) A.in1.in1 (Builtin.«list.sort» ⟨[.ref (s.heap.objs.size + 1)],kw⟩) (fun fin s' => ∃ v,fin = .done (.ret v)∧Q (.ref (s.heap.objs.size + 1)) s') E {s with heap:=gh s.heap vs}) :
  wpAny (model prog w) A (call (.builtin "sorted") [.ref l] kw) Q E s:=by
 refine call_function_entry_kw kind_sorted plain_sorted entry_sorted ha1 ?_;unfold Builtin.«sorted»
 refine wpAny_bind (m:=checkCount "sorted" 1 1 _) (wpAny_pure ?_)
 refine wpAny_bind (collect_list hl ?_ (by rw [sizeLine_eq]; exact gcy h64))
 refine wpAny_bind (wpAny_newList ?_ (by rw [sizeLine_eq]; exact gcy h64))
 have hsz:((s.heap.push (seqObj "list" #[] 0)).update s.heap.objs.size (Obj.mapSeq (· ++ vs.toArray))).objs.size=s.heap.objs.size + 1:=by
  rw [Heap.size_update,size_push']
 have hoL:(gh s.heap vs).get? (s.heap.objs.size + 1)=some (seqObj "list" vs.toArray 0):=by
  unfold gh;rw [← hsz]; exact Heap.get?_push_size _ rfl
 show wpAny _ _ _ _ _ {s with heap:=gh s.heap vs}
 rw [hsz];refine wpAny_bind (wpAny_holding (wpAny_call_entry_kw slot_list_sort ⟨_,hoL,rfl⟩ entry_list_sort (wpAny_mono h (fun fin s' hq=>?_) fun zZ zZ q=>q) (ha2 _)));obtain ⟨v,rfl,hq⟩:=hq;exact (ja v rfl (wpAny_pure (ja _ rfl hq)))
theorem zbf (a:Addr):Builtin.«list.sort» ⟨[.ref a],[(Str.ofString "key",.none),(Str.ofString "reverse",.bool true)]⟩=(do
  let items ← Builtin.List.listItems (.ref a)
  Builtin.List.listUpdate (.ref a) fun zZ => #[]
  let before ← seqEpoch a
  let held ← newTuple items.toList
  let keyStore ← newList []
  holding [held,keyStore] do
   rule "list.sort.reverse"
   let kind ← if items.size < 2 then pure general' else keyKind' items
   let ((),s) ← (if items.size < 2 then pure () else sortRuns').run (SortSt.mk' kind (items.zip items).reverse #[] 7 none)
   let sorted:=(arrOf s).map (·.2)
   let touched:=(← seqEpoch a) != before
   Builtin.List.listUpdate (.ref a) fun zZ=>sorted.reverse
   if let some e:=failedOf s then rule "list.sort.comparison-raised"; throw e
   if touched then rule "list.sort.modified"; raiseError "ValueError" "list modified during sort"
   ret .none):=rfl
theorem kbi (a:Addr):Builtin.«list.sort» ⟨[.ref a],[(Str.ofString "key",.none),(Str.ofString "reverse",.bool true)]⟩=Builtin.«list.sort» ⟨[.ref a],[(Str.ofString "reverse",.bool true)]⟩ :=
 (zbf a).trans (qae a).symm
end
noncomputable def qbz (wk:Value):List (Str×Value):=[(Str.ofString "key",wk),(Str.ofString "reverse",.bool true)]
noncomputable def gce:V→Bool
 | .none=>true
 | .obj _=>true
 | _=>false
noncomputable def qaa (LM:Nat→List V→Fun):V→V→M V
 | .obj l,k=>fun σ=>if gce k=false then .stuck else match σ.st[l]? with
  | some (.lst vs)=>(match zw (gx LM k) vs σ with
   | .ok ks σ1=>(match mapO (toD σ1.st 6) ks with
    | some ds=>if okS ds=true then .ok (.obj σ1.st.length) {σ1 with st:=σ1.st ++ [.lst (revS ds vs)]} else .stuck
    | none=>.stuck)
   | _=>.stuck)
  | _=>.stuck
 | _,_=>stuck
theorem ybf (LM:Nat→List V→Fun):∀ (vs:List V) (σ:S),zw (gx LM .none) vs σ = .ok vs σ
 | [],σ=>rfl
 | v :: vs,σ=>by
  unfold zw
  show (match (pure v:M V) σ with
   | .ok u σ1=>(match zw (gx LM .none) vs σ1 with
    | .ok us σ2=>Res.ok (u :: us) σ2
    | _=>.stuck)
   | _=>.stuck)=_
  show (match zw (gx LM .none) vs σ with
    | .ok us σ2=>Res.ok (v :: us) σ2
    | _=>.stuck)=_
  rw [ybf LM vs σ]
theorem waz {kM:V→M V}:∀ {vs:List V} {ks:List V} {σ σe:S},zw kM vs σ = .ok ks σe→ks.length=vs.length
 | [],ks,σ,σe,h=>by (injection h with c_1 c_2; subst c_1 c_2); rfl
 | v :: vs,ks,σ,σe,h=>by
  unfold zw at h
  cases e1:kM v σ with
  | stuck=>rw [e1] at h; (injection h)
  | exc _ _=>rw [e1] at h; (injection h)
  | ok u σ1=>
   rw [e1] at h;dsimp only at h
   cases e2:zw kM vs σ1 with
   | stuck=>rw [e2] at h; (injection h)
   | exc _ _=>rw [e2] at h; (injection h)
   | ok us σ2=>
    rw [e2] at h; cases h;simp only [List.length_cons,List.length_cons,waz e2]
theorem qc7 {G:Frm} {L B:Addr} {e1 c:Nat} {us:List V} {xs:List Value} {kvs:List V} {ks:List Value} {ds:List PyData} {σ:S} {ρ:List Addr} {s:Shared} {P:PySem.Fin→Shared→Prop} {E:Value→Shared→Prop}
  (rel:Rel K G σ ρ s) (hB:BAt s.heap B ks.toArray c) (n1:B∉ρ) (n2:B∉G.mine) (n3:K.base.get? B=none) (hL:BAt s.heap L #[] e1) (m1:L∉ρ) (m2:L∉G.mine) (m3:K.base.get? L=none) (hBL:B≠L)
  (rk:RepL K s.heap ρ kvs ks) (ru:RepL K s.heap ρ us xs) (hlen:kvs.length=us.length) (hd:mapO (toD σ.st 6) kvs=some ds) (ok:okS ds=true) (hu:G.A.units + 7 < cLine)
  (h:∀ out s' c',Rel K G σ ρ s'→(∀ b o,b≠B→b≠L→s.heap.get? b=some o→s'.heap.get? b=some o)→(∃ o,s'.heap.get? B=some o)→BAt s'.heap L (List.toArray out) c'→RepL K s'.heap ρ (revS ds us) out→P (.done (.ret .none)) s') :
  wpAny (model K.prog K.w) G.A (ksk_end L true xs.toArray e1 (.ref B) ks.toArray) P E s:=by
 refine xj (kao ok) fun hs hall hA h64=>?_;have hdl:ds.length=kvs.length:=xab hd;have hxl:xs.length=us.length:=ru.length;have hkl:ks.length=kvs.length:=rk.length
 have tail:∀ (st:SortSt) (outs:List Value),(arrOf st).map (·.2)=outs.toArray→failedOf st=none→outs.length=us.length→RepL K s.heap ρ (revS ds us) outs.reverse→wpAny (model K.prog K.w) G.A (ksk_tail L true e1 (.ref B) st) P E s:=by
  intro st outs har hf hol hrep;unfold ksk_tail
  try dsimp only
  have hk1:∀ b o,b≠B→s.heap.get? b=some o→(s.heap.update B (Obj.mapSeq fun zZ=>(#[]:Array Value))).get? b=some o:=fun b o nb g=>(Heap.get?_update_other _ _ (Ne.symm nb)).trans g
  have r1:Rel K G σ ρ {s with heap:=s.heap.update B (Obj.mapSeq fun zZ=>(#[]:Array Value))}:=Rel.listB rel hB n1 n2 n3 hk1 rfl rfl
  have hL1:=hk1 L _ (Ne.symm hBL) hL
  refine wpAny_bind (listUpdate_at hB rfl ?_ (by simp only [List.size_toArray,sizeLine_eq]; exact jdr hkl h64 hdl) (Nat.zero_le _))
  refine wpAny_bind (wpAny_letGo ?_);refine wpAny_bind (seqEpoch_at hL1 rfl ?_)
  have ho:(if true=true then ((arrOf st).map (·.2)).reverse else (arrOf st).map (·.2))=outs.reverse.toArray:=by
   rw [if_pos rfl,har]
   simp
  rw [ho]
  refine wpAny_bind (listUpdate_at hL1 rfl ?_ (Nat.zero_le _) (by rw [List.size_toArray,List.length_reverse,sizeLine_eq]; exact wdr hol h64 hdl hlen))
  rw [hf];simp only [bne_self_eq_false,Bool.false_eq_true,if_false];have hk2:∀ b o,b≠L→(s.heap.update B (Obj.mapSeq fun zZ=>(#[]:Array Value))).get? b=some o→((s.heap.update B (Obj.mapSeq fun zZ=>(#[]:Array Value))).update L (Obj.mapSeq fun zZ=>outs.reverse.toArray)).get? b=some o:=fun b o nb g=>(Heap.get?_update_other _ _ (Ne.symm nb)).trans g
  have r2:Rel K G σ ρ {s with heap:=(s.heap.update B (Obj.mapSeq fun zZ=>(#[]:Array Value))).update L (Obj.mapSeq fun zZ=>outs.reverse.toArray)}:=Rel.listB r1 hL1 m1 m2 m3 hk2 rfl rfl
  refine wpAny_pure (h outs.reverse _ _ r2 (fun b o b1 b2 e=>hk2 b o b2 (hk1 b o b1 e)) ⟨_,hk2 B _ hBL (get?_update_seq hB fun zZ => #[])⟩ (get?_update_seq hL1 fun zZ=>outs.reverse.toArray) ?_);refine RepL.mono' (List.prefix_refl _) (fun b o e f=>?_) hrep
  have bad:∀ {xs:Array Value} {n:Nat},¬ Froz {cls:= .type "list",dict:=none,data:= .seq xs n,slots:= #[]}:=by
   intro xs n f
   rcases f with ⟨f,_⟩ | ⟨f | f,_⟩
   ·exact absurd (show Value.type "list" = Value.type "tuple" from f) (by decide)
   ·exact absurd (show Value.type "list" = Value.type "range" from f) (by decide)
   ·exact absurd (show Value.type "list" = Value.type "code" from f) (by decide)
  refine hk2 b o (fun q=>?_) (hk1 b o (fun q=>?_) e)
  ·have e':s.heap.get? L=_:=hL
   rw [q,e'] at e; (injection e with c_1; subst c_1); exact bad f
  ·have e':s.heap.get? B=_:=hB
   rw [q,e'] at e; (injection e with c_1; subst c_1); exact bad f
 unfold ksk_end
 try dsimp only
 rw [if_pos rfl];refine wpAny_bind (wpAny_rule ?_)
 by_cases hsm:us.length < 2
 ·have hsm':xs.toArray.size < 2:=by rw [List.size_toArray]; exact qbb hxl hsm
  rw [if_pos hsm',if_pos hsm'];refine wpAny_bind (wpAny_pure ?_);rw [StateT.run_pure];refine wpAny_bind (wpAny_pure ?_)
  try dsimp only
  refine tail (SortSt.mk' general' (if true=true then (ks.toArray.zip xs.toArray).reverse else ks.toArray.zip xs.toArray) #[] 7 none) xs ?_ rfl hxl ?_
  ·show ((if true=true then (ks.toArray.zip xs.toArray).reverse else ks.toArray.zip xs.toArray)).map (·.2)=_
   rw [if_pos rfl]
   have e:xs.reverse=xs:=jal (by exact qbb hxl hsm)
   apply Array.toList_inj.mp
   rw [Array.toList_map,Array.toList_reverse,Array.toList_zip,List.map_reverse,List.map_snd_zip (by simp; exact qdr hxl hkl hlen)]
   exact e
  ·have e:revS ds us=us:=by unfold revS; rw [if_pos hsm]
   rw [e,jal (by exact qbb hxl hsm)]; exact ru
 ·have hsm':¬ xs.toArray.size < 2:=by rw [List.size_toArray]; exact kdr hxl hsm
  rw [if_neg hsm',if_neg hsm']
  obtain ⟨κ,k1,k2⟩:=wat rel.toGRel rk (by exact qcc hlen hsm) hd hs hall
  refine wpAny_bind (k1 _ _ _ ?_)
  have hzs:(ks.toArray.zip xs.toArray).reverse.size=us.length:=by simp; exact xdr hkl hxl hlen
  have est:SortSt.mk' κ (if true=true then (ks.toArray.zip xs.toArray).reverse else ks.toArray.zip xs.toArray) #[] 7 none=kas_st κ (ks.toArray.zip xs.toArray).reverse (List.toArray (List.range us.length)):=by
   have e:=kas_range (ks.toArray.zip xs.toArray).reverse;rw [hzs] at e;show _=SortSt.mk' κ ((List.toArray (List.range us.length)).map (kas_item (ks.toArray.zip xs.toArray).reverse)) #[] 7 none;rw [e,if_pos rfl]
  have run:=kas_runs (prog:=K.prog) (w:=K.w) (A:=G.A) (κ:=κ) (it:=(ks.toArray.zip xs.toArray).reverse) (E:=E) (n:=us.length) (s:=s) (Q:=fun zZ st' s'=>s'=s∧∃ p:Array Nat,p=krun (btOf ltD ds.reverse) (kas_sort us.length)∧p.size=us.length∧arrOf st'=p.map (kas_item (ks.toArray.zip xs.toArray).reverse)∧failedOf st'=none)
   (G:=fun p s'=>s'=s∧p=krun (btOf ltD ds.reverse) (kas_sort us.length)) (by exact wcc hsm) (by exact gdr h64 hdl hlen) (fun p' st' s' a1 a2 a3 a4=>⟨a4.1,p',a4.2,a1,a2,a3⟩)
   (zam (n:=us.length) (ask:=btOf ltD ds.reverse) (fun i j C hi hj hC=>by
    unfold kas_cmp
    rw [yba (by exact xcc hkl hxl hlen),yba (by exact xcc hkl hxl hlen)]
    dsimp only
    rw [y5 (by exact zbs hi hkl hlen),y5 (by exact zbs hj hkl hlen)]
    refine k2 _ _ _ C hu (by exact zds hkl hlen hj) (by exact yds hkl hj hlen) ?_
    rw [qr (by exact zbs hi hdl hlen) (by exact zbs hj hdl hlen),show ds.length=ks.length by exact kcc hdl hkl] at hC
    exact hC) _ (by rw [hdl,hlen] at hA; exact zb8 hA (by exact jcc hsm)) ⟨rfl,rfl⟩)
  rw [← est] at run;refine wpAny_bind (wpAny_mono run ?_ fun zZ zZ e=>e)
  rintro ⟨⟨⟩,st'⟩ s' ⟨rfl,p,hpk,hp,har,hf⟩
  dsimp only;refine tail st' (qab (btOf ltD ds.reverse) xs.reverse) ?_ hf ?_ ?_
  ·apply Array.toList_inj.mp
   rw [har,Array.map_map,Array.toList_map];show _=qab _ _;unfold qab;rw [List.length_reverse,hxl,hpk]
   exact List.map_congr_left fun i zZ=>by show (kas_item (ks.toArray.zip xs.toArray).reverse i).2=_; rw [yba (by exact xcc hkl hxl hlen)]
  ·unfold qab;simp only [List.length_map,Array.length_toList,List.length_reverse,hxl,← hpk,hp]
  ·exact zba ok (by exact zcz hdl hlen) hsm ru
end
section
variable {K:Glo} {F:Frm}
theorem jcs (fk:FOk F) {LM:Nat→List V→Fun} {lvl:Nat} (hf:q0 K lvl LM) (hr:Room F.A lvl) {l:Nat} {wf:Value} (σ:S) (ρ:List Addr) (s:Shared) (v:V) (w:Value) (rel:Rel K F σ ρ s) (rf:Rep K s.heap ρ (.obj l) wf) (rv:Rep K s.heap ρ v w) :
  Run K F (PySem.call wf [w]) (Rep K) (gx LM (.obj l) v σ) ρ s:=ka9 fk hf hr rel rf (RepL.cons rv RepL.nil)
theorem kbz (fk:FOk F) {LM:Nat→List V→Fun} {lvl:Nat} (hf:q0 K lvl LM) (hr:Room F.A (lvl + 2)) {σ:S} {ρ:List Addr} {s:Shared} {v k:V} {wv wk:Value} (rel:Rel K F σ ρ s) (rv:Rep K s.heap ρ v wv) (rk:Rep K s.heap ρ k wk) :
  Run K F (PySem.call (.builtin "sorted") [wv] (qbz wk)) (Rep K) (qaa LM v k σ) ρ s:=by
 cases v with
 | obj l=>
  unfold qaa;dsimp only
  by_cases hik:gce k=false
  ·rw [if_pos hik]; exact Run.stuck
  rw [if_neg hik]
  cases hl:σ.st[l]? with
  | none=>exact Run.stuck
  | some c=>
   cases c with
   | lst us=>
    dsimp only;refine zh (rel.list rv hl) fun a xs n o_259 hρ hL hru hn=>?_;obtain rfl:=o_259;have hxl:xs.length=us.length:=hru.length
    cases ek:zw (gx LM k) us σ with
    | stuck=>exact Run.stuck
    | exc _ _=>exact Run.stuck
    | ok kvs σ1=>
     dsimp only
     cases hd:mapO (toD σ1.st 6) kvs with
     | none=>exact Run.stuck
     | some ds=>
      dsimp only
      by_cases ok:okS ds=true
      ·rw [if_pos ok];refine xj (kao ok) fun hs hall hA h64=>?_;have hkl:kvs.length=us.length:=waz ek;have hdl:ds.length=kvs.length:=xab hd
       have hsz:((s.heap.push (seqObj "list" #[] 0)).update s.heap.objs.size (Obj.mapSeq (· ++ xs.toArray))).objs.size=s.heap.objs.size + 1:=by
        rw [Heap.size_update,size_push']
       have hoL:(gh s.heap xs).get? (s.heap.objs.size + 1)=some (seqObj "list" xs.toArray 0):=by
        unfold gh;rw [← hsz]; exact Heap.get?_push_size _ rfl
       cases k with
       | none=>
        obtain rfl:=Rep.none_iff.mp rk;rw [ybf] at ek
        (injection ek with c_1 c_2; subst c_1 c_2)
        have fin:∀ (out:List Value),RepL K s.heap ρ (revS ds us) out→∃ ρ',Rel K F {σ with st:=σ.st ++ [.lst (revS ds us)]} ρ' {s with heap:=sortedAll s.heap xs out.toArray}∧
          Ext F.mine ρ ρ' s.heap (sortedAll s.heap xs out.toArray)∧Rep K (sortedAll s.heap xs out.toArray) ρ' (.obj σ.st.length) (.ref (s.heap.objs.size + 1)):=by
         intro out hrep;refine qb (jbp (h:=s.heap) (xs:=xs) (out:=out.toArray)) fun m hm=>?_
         refine kd (rel.newAt (s':={s with heap:=sortedAll s.heap xs out.toArray}) zbi (Heap.get?_none_of_le (Nat.le_succ _)) (n:=m) hm hrep (by rw [wam ok hdl]; exact hn) rfl rfl) fun rel' x'=>?_
         exact (gc _ rel' x' (Rep.obj_iff.mpr (ja _ (by rw [← rel.len,List.getElem?_concat_length]) rfl)))
        refine Run.ok (gbe hL.isList (by exact jds hxl h64 hdl) (ksk_s2 _ _ _) (fun x=>ksk_l2 _ _ _) ?_)
        unfold qbz;rw [kbi]
        by_cases hsm:us.length < 2
        ·have e:revS ds us=us:=by unfold revS; rw [if_pos hsm]
         exact qbd (s:={s with heap:=gh s.heap xs}) hoL (by exact qbb hxl hsm) ⟨_,rfl,fin xs (by rw [e]; exact hru)⟩ _ (.inr rfl)
        ·have hrm:RepL K (xe (gh s.heap xs) (s.heap.objs.size + 1) xs) ρ us xs:=RepL.mono' (List.prefix_refl _) (fun b o e zZ=>zat b o e) hru
         have relm:Rel K F σ ρ {s with heap:=xe (gh s.heap xs) (s.heap.objs.size + 1) xs}:=rel.kept (fun b o e=>zat b o e) rfl rfl
         obtain ⟨κ,k1,k2⟩:=wat relm.toGRel hrm (by exact wcc hsm) hd hs hall
         have hu:=fk.units;have hu1:F.A.in1.in1.units=F.A.units + 1 + 1:=rfl
         refine qau (s:={s with heap:=gh s.heap xs}) (κ:=κ) (ask:=btOf ltD ds.reverse) hoL (by exact qcc hxl hsm) (by exact qcy hxl h64 hdl) (fun Q q=>k1 _ _ Q q) (by rw [hxl,← hdl]; exact hA) (fun i j C hi hj hC=>?_) ⟨_,rfl,fin _ (zba ok hdl hsm hru)⟩
         unfold kas_ask;rw [y5 hi,y5 hj]
         refine k2 _ _ _ C (by exact wds hu hu1) (by exact kcy hxl hj) (by exact xcy hxl hj) ?_
         rw [qr (by exact gbr hi hdl hxl) (by exact gbr hj hdl hxl),show ds.length=xs.length by exact kcc hdl hxl] at hC
         exact hC
       | obj lk=>
        refine ya (Rep.obj_iff.mp rk) fun q hq o_260=>?_;obtain rfl:=o_260
        refine Run.ok (gbe hL.isList (by exact qds hxl h64 hdl hkl) (ksk_s2 _ _ _) (fun x=>ksk_l2 _ _ _) ?_)
        unfold qbz;simp only [ksk_t2];unfold ksk_tree;have ha:s.heap.objs.size + 1 < (gh s.heap xs).objs.size:=Heap.lt_size hoL
        obtain ⟨e1,ho1⟩ : ∃ e1,((gh s.heap xs).update (s.heap.objs.size + 1) (Obj.mapSeq fun zZ=>(#[]:Array Value))).get? (s.heap.objs.size + 1)=some (seqObj "list" #[] e1):=⟨_,get?_update_seq hoL fun zZ => #[]⟩
        refine wpAny_bind (listItems_at hoL rfl ?_)
        refine wpAny_bind (listUpdate_at hoL rfl ?_ (by simp only [List.size_toArray,sizeLine_eq]; exact ycz hxl h64 hdl hkl) (Nat.zero_le _))
        refine wpAny_bind (seqEpoch_at ho1 rfl ?_)
        refine wpAny_bind (wpAny_newTuple ?_ (by show xs.length≤_; rw [sizeLine_eq]; exact ycz hxl h64 hdl hkl))
        refine wpAny_bind (wpAny_newList ?_ (Nat.zero_le _));refine wpAny_holding ?_
        have hcs:(gh s.heap xs).objs.size=s.heap.objs.size + 2:=by unfold gh; rw [size_push',hsz]
        have hB0:(((gh s.heap xs).update (s.heap.objs.size + 1) (Obj.mapSeq fun zZ=>(#[]:Array Value))).push (seqObj "tuple" xs.toArray 0)).objs.size=s.heap.objs.size + 3:=by simp only [size_push',Heap.size_update,hcs]
        have hBat:BAt (xe (gh s.heap xs) (s.heap.objs.size + 1) xs) (s.heap.objs.size + 3) #[] 0:=by
         unfold xe BAt;rw [← hB0]; exact Heap.get?_push_size _ rfl
        have hLat:BAt (xe (gh s.heap xs) (s.heap.objs.size + 1) xs) (s.heap.objs.size + 1) #[] e1:=by
         unfold xe BAt;exact Heap.get?_push_of_some _ (Heap.get?_push_of_some _ ho1)
        show wpAny _ F.A.in1.in1 (ksk_rest (s.heap.objs.size + 1) (.ref q) true xs.toArray e1 (.ref (((gh s.heap xs).update (s.heap.objs.size + 1) (Obj.mapSeq fun zZ=>(#[]:Array Value))).push (seqObj "tuple" xs.toArray 0)).objs.size)) _ _ {s with heap:=xe (gh s.heap xs) (s.heap.objs.size + 1) xs}
        rw [hB0];have far:∀ k,s.heap.get? (s.heap.objs.size + k)=none:=fun k=>Heap.get?_none_of_le (Nat.le_add_right _ _)
        have farB:∀ k,K.base.get? (s.heap.objs.size + k)=none:=fun k=>by
         cases e:K.base.get? (s.heap.objs.size + k) with
         | none=>rfl
         | some o=>have:=rel.base _ _ e; rw [far k] at this; cases this
        have farM:∀ k,s.heap.objs.size + k∉F.mine:=fun k h=>by
         refine xl (rel.mineAbove _ h) fun zZ o e=>?_;rw [far k] at e; cases e
        have farR:∀ k,s.heap.objs.size + k∉ρ:=fun k h=>by
         refine ya (rel.toGRel.alive h) fun o e zZ=>?_;rw [far k] at e; cases e
        have relm:Rel K F σ ρ {s with heap:=xe (gh s.heap xs) (s.heap.objs.size + 1) xs}:=rel.kept (fun b o e=>zat b o e) rfl rfl
        have xm:Ext F.mine ρ ρ s.heap (xe (gh s.heap xs) (s.heap.objs.size + 1) xs):=Ext.kept fun b o e=>zat b o e;have hr1:=hr.in1;have fk1:=fk.in1 hr;have fk2:=fk1.in1 hr1;have hu:=fk2.units;have hu1:F.A.in1.in1.units=F.A.units + 1 + 1:=rfl;unfold ksk_rest;refine wpAny_bind (wpAny_rule ?_)
        first
         | rw [List.forIn_toArray]
         | (rw [← Array.forIn_toList]; simp only [List.toList_toArray])
        refine wpAny_bind (wcl (G:=F.in1.in1) (B:=s.heap.objs.size + 3) (L:=s.heap.objs.size + 1) (ρ₀:=ρ) (h₀:=s.heap) (kM:=gx LM (.obj lk)) (f:= .obj lk) (wf:= .ref q) (us:=us) (xs:=xs)
         (fun σ ρ s v w r rf rv=>jcs fk2 hf hr1.in1 σ ρ s v w r rf rv) (farM 3) (farB 3) (farM 1) (fun h=>absurd (Nat.add_left_cancel h) (by decide)) (fun x s R' h=>?_) us xs σ ρ {s with heap:=xe (gh s.heap xs) (s.heap.objs.size + 1) xs} #[] 0 [] kvs σ1 ek relm.in1.in1 (ExtF.of xm) (rk.mono xm) (hru.mono xm) hBat RepL.nil (farR 3) hLat (farR 1) (by show 0 + us.length≤100; exact kds h64 hdl hkl) (hru.mono xm) ?_)
        ·refine wpAny_bind (wpAny_attempt (wpAny_mono h (fun k s' h'=>?_) fun zZ zZ q=>q.elim));dsimp only;refine wpAny_bind ?_;refine wpAny_mono h' (fun zZ s'' h''=>?_) fun zZ zZ e=>e;exact wpAny_pure h''
        ·intro ρ' s' kA' c' p1 p2 p3 p4 p5 p6 p7 p8;refine wpAny_bind (listItems_at p3 rfl ?_)
         have ekA:kA'=kA'.toList.toArray:=by simp
         rw [ekA] at p3 ⊢
         refine qc7 (G:=F.in1.in1) (ks:=kA'.toList) (kvs:=kvs) (ds:=ds) p1 p3 p5 (farM 3) (farB 3) p6 p7 (farM 1) (farB 1) (fun h=>absurd (Nat.add_left_cancel h) (by decide)) (by simpa using p4) p8 hkl hd ok (by show F.A.in1.in1.units + 7 < _; have:F.in1.in1.A.units=F.A.in1.in1.units:=rfl; exact xds hu this) ?_
         intro out s'' c'' r1 hkk hBal hLL hrr
         refine ⟨_,rfl,ρ' ++ [s.heap.objs.size + 1],Rel.adopt r1.out1.out1 p7 (farM 1) (farB 1) ⟨by rw [wam ok (by exact zcz hdl hkl)]; exact hn,out,c'',hLL,hrr⟩,?_,?_⟩
         ·have no3:∀ b o,s.heap.get? b=some o→b≠s.heap.objs.size + 3∧b≠s.heap.objs.size + 1:=fun b o e=>by
           have:=Heap.lt_size e;exact ⟨Nat.ne_of_lt (Nat.lt_of_lt_of_le this (Nat.le_add_right _ _)),Nat.ne_of_lt (Nat.lt_of_lt_of_le this (Nat.le_add_right _ _))⟩
          refine ⟨p2.pre.trans (List.prefix_append _ _),fun b o e=>?_,fun b hb=>?_,fun b o e m1 m2=>?_,fun b o e f=>?_⟩
          ·refine kd (no3 b o e) fun n1 n2=>?_;refine qb (p2.alive b o e) fun o1 e1=>?_;exact ⟨o1,hkk b o1 n1 n2 e1⟩
          ·rcases List.mem_append.mp hb with hb | hb
           ·exact p2.new b hb
           ·rw [List.mem_singleton.mp hb]; exact .inr (far 1)
          ·refine kd (no3 b o e) fun n1 n2=>?_
           refine ya (p2.keep b o e m1 (by simpa using n1) m2) fun o1 e1 k1=>?_
           exact (ja o1 (hkk b o1 n1 n2 e1) k1)
          ·refine kd (no3 b o e) fun n1 n2=>?_
           exact hkk b o n1 n2 (p2.froz b o e f (by simpa using n1))
         ·exact Rep.obj_iff.mpr (ja _ (by rw [← p1.len,List.getElem?_concat_length]) rfl)
       | _=>exact absurd rfl hik
      ·rw [if_neg ok]; exact Run.stuck
   | _=>exact Run.stuck
 | _=>exact Run.stuck
theorem gbp (fk:FOk F) {LM:Nat→List V→Fun} {lvl:Nat} (hf:q0 K lvl LM) (hr:Room F.A (lvl + 2)) {np pos p1 p2 cp:Pos} {e k:Expr} {me mk:M V} {ck:Nat} (hx:F.env.kindOf (Str.ofString "sorted")=some .globalImplicit) (hm:K.mg (Str.ofString "sorted")=none)
  (he:SimE K F e me) (hk:SimE K F k mk) (hst:starEach (e :: []) F.env=(false,eval e F.env) :: starEach [] F.env:=by rfl) :
  SimE K F (.Call (.Name (Str.ofString "sorted") np) [e] [⟨some (Str.ofString "key"),k,p1⟩,⟨some (Str.ofString "reverse"),.Constant (.bool true) ck cp,p2⟩] pos) (do let v ← me; let b ← mk; qaa LM v b):=by
 intro σ ρ s rel;refine Run.of_wp fun hne=>?_;simp only [yam]
 refine wpAny_bind (yv fk rel hx hm (v:= .builtin "sorted") (by decide +kernel) ?_)
 refine callWith_kw ?_ (by rw [hst]; rfl) (by rw [kq,hst]; rfl)
 rw [hst];show wpAny _ _ (spliced ((false,eval e F.env) :: [])) _ _ s;rw [yi];refine wpAny_bind (Run.bindWp (he σ ρ s rel) hne fun vv σ₁ ρ₁ s₁ wv e1 e2 rel₁ x₁ rv=>?_);rw [e2] at hne ⊢;refine wpAny_bind (wpAny_holding (wpAny_pure (wpAny_pure ?_)))
 show wpAny _ _ (evalAll [(do let v ← eval k F.env; standAt pos; pure v),(do let v ← eval (.Constant (.bool true) ck cp) F.env; standAt pos; pure v)]) _ _ s₁
 refine wpAny_evalAll_cons (wpAny_bind ?_)
 refine wpAny_mono (Run.bindWp (P:=fun wc s₃=>wpAny (model K.prog K.w) F.A (do standAt pos; pure wc) _ _ s₃) (hk σ₁ ρ₁ s₁ rel₁) hne fun vk σ₂ ρ₂ s₂ wk e3 e4 rel₂ x₂ rk=>?_) (fun zZ zZ q=>q) fun zZ zZ q=>q.up x₁
 rw [e4] at hne ⊢;refine wpAny_bind (wpAny_standAt (wpAny_pure ?_));refine wpAny_evalAll_cons (wpAny_bind (wpAny_Constant_bool ?_));refine wpAny_bind (wpAny_standAt (wpAny_pure (wpAny_evalAll_nil ?_)));have key:=kbz (F:=F) fk hf hr rel₂ (rv.mono x₂) rk;exact wpAny_mono (key.wp hne) (fun zZ zZ q=>(q.up x₂).up x₁) fun zZ zZ q=>(q.up x₂).up x₁
end
section
variable {K:Glo} {F:Frm}
noncomputable def wz (T:String):String:=s!"object of type '{T}' has no len()"
theorem yb6:typeLookup (.type "list_iterator") "__len__" = pure none:=by rw [typeLookup_type,builtinLookup_eq_fast]; kernel_rfl
theorem zcf:typeLookup (.type "int") "__len__" = pure none:=by rw [typeLookup_type,builtinLookup_eq_fast]; kernel_rfl
theorem jb6:typeLookup (.type "NoneType") "__len__" = pure none:=by rw [typeLookup_type,builtinLookup_eq_fast]; kernel_rfl
theorem qam {prog:Program} {w:World} {A:Around} {E:Value→Shared→Prop} {s:Shared} {v:Value} {T:String} {Q:Value→Shared→Prop} (hh:A.handled=none) (hT:s.TypeIs v T) (hl:typeLookup (.type T) "__len__" = pure none)
  (hn:(Value.type T == Value.type "builtin_function_or_method")=false) (hw:(Str.ofString (wz (shownName T))).length≤sizeLine)
  (h:E (.ref (s.heap.objs.size + 1)) {s with heap:=y0 s.heap "TypeError" (Str.ofString (wz (shownName T))) s.toks,toks:=s.toks + 1}):wpAny (model prog w) A (PySem.call (.builtin "len") [v]) Q E s:=by
 refine Calls.call_function_entry PySem.kind_len PySem.plain_len PySem.entry_len (PySem.args_len1 _) ?_;unfold Builtin.«len»
 refine wpAny_bind (m:=oneArg "len" ⟨[v],[]⟩) (wpAny_pure ?_)
 refine wpAny_bind (wpAny_callSpecial?_none hT hl ?_);dsimp only;refine wpAny_bind (wpAny_rule (wpAny_bind (wpAny_typeNameOf' hT hn ?_)));exact gcd (A:=A.in1) plainExc_TypeError hh hw h
noncomputable def jbf:V→M V
 | .obj l=>fun σ=>match σ.st[l]? with
  | some (.lst vs)=>.ok (.int vs.length) σ
  | some (.itr _ _ _)=>.exc ⟨"TypeError",Str.ofString (wz (shownName "list_iterator"))⟩ σ
  | _=>.stuck
 | .int _=>fun σ=>.exc ⟨"TypeError",Str.ofString (wz (shownName "int"))⟩ σ
 | .none=>fun σ=>.exc ⟨"TypeError",Str.ofString (wz (shownName "NoneType"))⟩ σ
 | _=>fun _=>.stuck
noncomputable def lenX (vs:List V):M V:=match vs with
 | [v]=>jbf v
 | _=>fun _=>.stuck
theorem qaz (T:String) (h:(Str.ofString (wz (shownName T))).length≤1000):(Str.ofString (wz (shownName T))).length≤sizeLine:=by rw [sizeLine_eq]; exact gds h
theorem ycf:wt K (.builtin "len") lenX:=by
 intro F fk hnh σ ρ s vs ws rel r
 cases vs with
 | nil=>exact Run.stuck
 | cons v t=>
  cases t with
  | cons _ _=>exact Run.stuck
  | nil=>
   cases v with
   | obj l=>
    cases hl:σ.st[l]? with
    | none=>unfold lenX jbf; dsimp only; rw [hl]; exact Run.stuck
    | some c=>
     unfold lenX jbf; dsimp only; rw [hl]
     cases c with
     | lst us=>
      have h:=gi F fk hnh σ ρ s _ ws rel r;unfold lenB at h;dsimp only at h;rw [hl] at h;exact h
     | itr k i d=>
      refine yc (RepL.cons_iff.mp r) fun x r' o_261 r1 r2=>?_;obtain rfl:=o_261;obtain rfl:=RepL.nil_iff.mp r2;refine ya (Rep.obj_iff.mp r1) fun a hρ o_262=>?_;obtain rfl:=o_262;refine yd (rel.cell l a _ hρ hl) fun o ho hc zZ=>?_
      exact qam (T:= "list_iterator") (v:= .ref a) (s:=s) (fk.hd hnh) ⟨o,ho,hc⟩ yb6 (by decide) (qaz _ (by decide +kernel)) (ybv rel (by decide))
     | _=>exact Run.stuck
   | int i=>
    refine yc (RepL.cons_iff.mp r) fun x r' o_263 r1 r2=>?_;obtain rfl:=o_263;obtain rfl:=RepL.nil_iff.mp r2;refine qb (Rep.int_iff.mp r1) fun t o_264=>?_;obtain rfl:=o_264
    exact qam (T:= "int") (fk.hd hnh) (typeIs_int s _ t) zcf (by decide) (qaz _ (by decide +kernel)) (ybv rel (by decide))
   | none=>
    refine yc (RepL.cons_iff.mp r) fun x r' o_265 r1 r2=>?_;obtain rfl:=o_265;obtain rfl:=RepL.nil_iff.mp r2;obtain rfl:=Rep.none_iff.mp r1
    exact qam (T:= "NoneType") (v:= .none) (s:=s) (fk.hd hnh) (by first | rfl | exact typeIs_none s) jb6 (by decide) (qaz _ (by decide +kernel)) (ybv rel (by decide))
   | _=>exact Run.stuck
end
section
variable {K:Glo} {F:Frm}
noncomputable def kaa (body:M Fl) (h:Exc→M Fl) (els:M Fl):M Fl:=fun σ=>match body σ with
 | .ok .next σ'=>els σ'
 | .ok f σ'=>.ok f σ'
 | .exc e σ'=>h e σ'
 | .stuck=>.stuck
noncomputable def xbt (mh:M Fl):Exc→M Fl:=fun e σ=>if e.cls = "TypeError" then (match mh σ with
  | .ok f σ'=>.ok f σ'
  | _=>.stuck) else .stuck
theorem jcf:isSubtype (.type "AttributeError") (.type "BaseException")=pure true:=by rw [isSubtype_type]; kernel_rfl
theorem wcf:isSubtype (.type ((Manifest.find? "AttributeError").elim "type" fun x=>x.metatype)) (.type "tuple")=pure false:=by rw [isSubtype_type]; kernel_rfl
theorem qcl:isSubtype (.type "TypeError") (.type "AttributeError")=pure false:=by rw [isSubtype_type]; kernel_rfl
theorem js.kept {n:Bool} {e:Exc} {h₀:Heap} {v:Value} {s s':Shared} (x:js n K F e h₀ v s) (hk:∀ b o,s.heap.get? b=some o→s'.heap.get? b=some o):js n K F e h₀ v s':=by
 refine zf x fun X f g h0 a t tok oe vs h1 h2 o_266 h5 h6 h7 h8 h9=>?_
 try clear x
 refine zv o_266 fun o k1 k2 m k3=>?_
 try clear o_266
 refine (kl X f g h0 a t tok oe vs h1 h2 ⟨o,hk _ _ k1,k2,m,k3⟩ (hk _ _ h5) h6 h7 h8 ?_)
 rcases h9 with h | ⟨T,oT,ts,fl,q1,q2,q3,q4,q5⟩
 ·exact .inl h
 ·exact .inr (jk T oT ts fl q1 q2 q3 (hk _ _ q4) q5)
theorem kcl (fk:FOk F) {np1 np2 tpos pos:Pos} {kk:Nat} {b₀:Stmt} {suite:List Stmt} {mh:M Fl}
  (hx1:F.env.kindOf (Str.ofString "TypeError")=some .globalImplicit) (hm1:K.mg (Str.ofString "TypeError")=none) (hb1:bootBuiltins (Str.ofString "TypeError")=some (.type "TypeError"))
  (hx2:F.env.kindOf (Str.ofString "AttributeError")=some .globalImplicit) (hm2:K.mg (Str.ofString "AttributeError")=none) (hb2:bootBuiltins (Str.ofString "AttributeError")=some (.type "AttributeError"))
  (hs:∀ v,yj K (Fh F v) (b₀ :: suite) mh) :
  wc4 K F [.ExceptHandler (some (.Tuple [.Name (Str.ofString "TypeError") np1,.Name (Str.ofString "AttributeError") np2] kk tpos)) none (b₀ :: suite) pos] (xbt mh):=by
 intro e σ ρ ρ₀ h₀ s v rel ext x hne;have x0:=x;refine zf x0 fun X hfresh hX hcls a t tok oe vs o_267 haX ht ha hc hd h0 hst=>?_
 try clear x0
 obtain rfl:=o_267;unfold xbt at hne ⊢
 by_cases hq:e.cls = "TypeError"
 ·rw [if_pos hq] at hne ⊢
  refine wpAny_handleBy_tup2 (X:=e.cls) (T1:= "TypeError") (T2:= "AttributeError") (b1:=true) (b2:=false) x9.exc x9.nt jcf wcf (by rw [hq]; exact x9.self) (by rw [hq]; exact qcl) ?_
  show wpAny _ (Fh F (.ref a)).A (do standAt tpos; newTuple (← spliced (backTo tpos (starEach [.Name (Str.ofString "TypeError") np1,.Name (Str.ofString "AttributeError") np2] F.env)))) _ _ s
  refine wpAny_bind (wpAny_standAt (wpAny_bind ?_))
  show wpAny _ _ (spliced ((false,eval (.Name (Str.ofString "TypeError") np1) F.env) :: (false,eval (.Name (Str.ofString "AttributeError") np2) F.env) :: [])) _ _ s
  rw [yi]
  refine wpAny_bind (yv (F:=Fh F (.ref a)) (fk.h _) (rel.h _) hx1 hm1 hb1 ?_ (by decide) (by decide))
  refine wpAny_bind (wpAny_holding ?_);rw [yi]
  refine wpAny_bind (yv (F:=Fh F (.ref a)) (fk.h _) (rel.h _) hx2 hm2 hb2 ?_ (by decide) (by decide))
  refine wpAny_bind (wpAny_holding (wpAny_pure (wpAny_pure (wpAny_pure ?_))))
  have hk:∀ b o,s.heap.get? b=some o→(s.heap.push {cls:= .type "tuple",data:= .seq #[.type "TypeError",.type "AttributeError"]}).get? b=some o:=fun b o e=>Heap.get?_push_of_some _ e
  refine wpAny_newTuple ?_ (by rw [sizeLine_eq]; decide)
  refine (gu _ rfl (IsTup.new _ _) ⟨oe,hk _ _ ha,hc⟩ ?_)
  rw [if_pos (by rfl)]
  have rel1:Rel K F σ ρ {s with heap:=s.heap.push {cls:= .type "tuple",data:= .seq #[.type "TypeError",.type "AttributeError"]}}:=rel.kept hk rfl rfl
  refine js.flight (F:=Fh F (.ref a)) (e:=e) (ρ₀:=ρ₀) (h₀:=h₀) (s:={s with heap:=s.heap.push {cls:= .type "tuple",data:= .seq #[.type "TypeError",.type "AttributeError"]}}) (js.kept x hk) (rel1.h _) (ext.trans (Ext.kept hk)) (.inl rfl) fun s₂ rel₂ ext₂ x₂=>?_
  have hrun:=hs (.ref a) σ ρ s₂ rel₂
  cases em:mh σ with
  | stuck=>rw [em] at hne; exact absurd rfl hne
  | exc y z=>rw [em] at hne; exact absurd rfl hne
  | ok f σ'=>
   (try rw [em] at hrun); (try rw [em] at hne); (try dsimp only at hne ⊢)
   refine wpAny_mono hrun (fun wf s₄ h₄=>?_) fun zZ zZ h=>h.elim;refine yd h₄ fun ρ' rel₄ x₄ rf=>?_
   try clear h₄
   exact (zd f σ' ρ' rfl rel₄.unh (ext₂.trans x₄) rf)
 ·rw [if_neg hq] at hne; exact absurd rfl hne
theorem xbz (fk:FOk F) {body els:List Stmt} {h₀:ExceptHandler} {hs:List ExceptHandler} {pos:Pos} {mb me:M Fl} {mh:Exc→M Fl} (hb:yj K F body mb) (hh:wc4 K F (h₀ :: hs) mh) (he:yj K F els me) :
  SimS K F (.Try body (h₀ :: hs) els [] pos) (kaa mb mh me):=by
 intro σ ρ s rel;refine Run.of_wp fun hne=>?_;refine wpAny_Try_except ?_;unfold kaa at hne ⊢;have hrun:=hb σ ρ s rel
 cases em:mb σ with
 | stuck=>rw [em] at hne; exact absurd rfl hne
 | ok f σ'=>
  (try rw [em] at hrun); (try rw [em] at hne); (try dsimp only at hne ⊢)
  refine wpAny_mono hrun (fun wf s₁ h₁=>?_) fun zZ zZ h=>h.elim;refine yd h₁ fun ρ' rel₁ x₁ rf=>?_
  try clear h₁
  cases f with
  | next=>
   have:wf = .next:=rf; subst this;dsimp only at hne ⊢;exact wpAny_mono ((he σ' ρ' s₁ rel₁).wp hne) (fun zZ zZ q=>q.up x₁) fun zZ zZ q=>q.up x₁
  | brk=>have:wf = .brk:=rf; subst this; exact (zd _ σ' ρ' rfl rel₁ x₁ rf)
  | cont=>have:wf = .cont:=rf; subst this; exact (zd _ σ' ρ' rfl rel₁ x₁ rf)
  | ret v=>obtain ⟨w,e,r⟩:=id rf; subst e; exact (zd _ σ' ρ' rfl rel₁ x₁ rf)
 | exc e σ'=>
  (try rw [em] at hrun); (try rw [em] at hne); (try dsimp only at hne ⊢)
  refine wpAny_mono hrun (fun zZ zZ h=>h.elim) fun v s₁ h₁=>?_;refine yd h₁ fun ρ' rel₁ x₁ xr=>?_
  try clear h₁
  refine xr.noted rel₁ x₁ fun s₂ rel₂ x₂ xn=>?_;refine js.flight xn rel₂ x₂ (.inl rfl) fun s₃ rel₃ x₃ xf=>?_;refine hh e σ' ρ' ρ s.heap s₃ v rel₃ x₃ ?_ hne;refine zf xf fun X' f' g' hc' a' t' tok' oe' vs' q1 q2 q3 q4 q5 q6 q7 q8=>?_
  try clear xf
  refine (kl X' f' g' hc' a' t' tok' oe' vs' q1 q2 q3 q4 q5 q6 q7 ?_)
  rcases q8 with ⟨q,_⟩ | ⟨T',oT',ts',fl',r1,r2,r3,r4,r5,r6,r7,r8⟩
  ·(exfalso; exact nomatch q)
  ·exact .inr (jn T' oT' ts' fl' r1 r2 r3 r4 r5 r6 r7 r8.1)
end
section
variable {K:Glo}
theorem wcs {d:DefRec} {x:String} {params:List String} {lvl:Nat} {mb:M Fl} (hd:d∈recsOf K.p) (hx:d.name=Str.ofString x) (hsc:d.scope.kind = .function) (hco:d.scope.isCoroutine=false) (hgen:d.scope.isGenerator=false) (hnd:params.Nodup) (hin:d.name=K.lamIn)
  (hbind:∀ (pm code doc:Value) (ws:List Value),ws.length=params.length→bindArgs (PySem.Calls.docDef d.name d.params d.body d.scope pm code doc) ⟨ws,[]⟩=pure ((params.map Str.ofString).zip ws))
  (hkind:∀ n,∀ y∈params,d.scope.names.lookup (Str.ofString y)=some .local∨(d.scope.names.lookup (Str.ofString y)=some .cell∧((cellsFrom n d.scope.names []).lookup (Str.ofString y)).isSome=true))
  (hb:∀ pm code doc L fa A,(∃ c,code = .ref c∧CodeHd K.base c K.tabP)→Room A lvl→FOk (frm d pm code doc L fa A)→yj K (frm d pm code doc L fa A) d.body mb):HasF K x (lvl + 1) (funM params mb):=by
 refine wrap fun G_ hG_=>?_;obtain ⟨a,o,pm,code,doc,h1,h2,h3,h4,h5⟩:=K.top.fn d hd;refine hG_ ?_;clear hG_ G_;have da:DefAt K a (PySem.Calls.docDef d.name d.params d.body d.scope pm code doc) d.body:=⟨⟨o,h2,h3⟩,h4,rfl,rfl,rfl,rfl,hco,hgen,hsc⟩
 refine (x5 a _ d.body (by rw [← hx]; exact h1) da ?_)
 exact gbu da hnd (hbind pm code doc) hkind fun L A hr=>hb pm code doc L a A (h5 hin) hr (FOk.def hr hsc)
noncomputable def wdb (l:List (Str×NameKind)):Bool:=l.all fun x=>match x.2 with
 | .cell=>false
 | _=>true
theorem wb6 {l:List (Str×NameKind)} (h:wdb l=true):∀ x∈l,x.2≠.cell:=by
 intro x hx e;have:=(List.all_eq_true.mp h) x hx;rw [e] at this
 (injection this)
noncomputable def stAt (l:List Stmt) (i:Nat):Stmt:=l.getD i (.Pass ⟨0,0,0,0⟩)
noncomputable def qcs:Stmt→List Stmt
 | .For _ _ b _ _=>b
 | .While _ b _ _=>b
 | _=>[]
noncomputable def noE':Expr:= .Constant .none 0 ⟨0,0,0,0⟩
noncomputable def qdb:Stmt→Expr
 | .Assign _ e _=>e
 | .Return (some e) _=>e
 | _=>noE'
noncomputable def kc7:Expr→Expr
 | .Call _ _ (k :: _) _=>k.value
 | _=>noE'
noncomputable def xcl (caps:List String):Expr→LamRec
 | .Lambda a b sc _=>⟨a,b,sc,caps⟩
 | e=>⟨{posonlyargs:=[],args:=[],vararg:=none,kwonlyargs:=[],kw_defaults:=[],kwarg:=none,defaults:=[]},e,{kind:= .function,names:=[],isGenerator:=false,isCoroutine:=false},caps⟩
end
section
noncomputable def zbq (LM:Nat→List V→Fun):V→M Unit:=(qm 3 (zt (fun v=>setv "k" v) (zt (fun v=>setv "order" v) (zt (fun v=>setv "elem" v) (fun _=>pure ())))))
noncomputable def ybq (LM:Nat→List V→Fun):M Bool:=(pure true:M Bool)
noncomputable def jbq (LM:Nat→List V→Fun) (l:Nat):M Unit:=(do let v ← (getv "elem"); yl l v)
noncomputable def qb6 (LM:Nat→List V→Fun) (l:Nat) (nxt:S→Nat→Option (Option V)):M Unit:=yq 4096 (zbq LM) (ybq LM) (jbq LM l) nxt
noncomputable def gab (LM:Nat→List V→Fun):M Fl:=(do let v ← ((getv "result") >>= zk [] (qb6 LM)); pure (.ret v):M Fl)
noncomputable def wa6 (LM:Nat→List V→Fun):M Fl:=(do let a ← getv "order"; let b ← (pure (V.int 1):M V); let c ← xas a b; setv "order" c; pure .next:M Fl)
noncomputable def qa6 (LM:Nat→List V→Fun):M Fl:=(seqM (do let v ← (do let o ← (getv "result"); let i ← (pure (V.int 0):M V); getI o i); (qm 3 (zt (fun v=>setv "top" v) (zt (fun v=>setv "_order" v) (zt (fun v=>setv "_elem" v) (fun _=>pure ()))))) v; pure .next:M Fl) (wa6 LM))
noncomputable def ka6 (LM:Nat→List V→Fun):M Fl:=(do if (← (do let a ← (getv "top"); let b ← (getv "k"); let c ← ltV a b; truV c))=true then (seqM (do let _ ← (do let v ← getv "_heapreplace"; kbe "heapreplace" v; let vs ← (do let v ← (getv "result"); let vs ← (do let v ← (do let vs ← (do let v ← (getv "k"); let vs ← (do let v ← (getv "order"); let vs ← (do let v ← (getv "elem"); let vs ← (pure []:M (List V)); pure (v :: vs)); pure (v :: vs)); pure (v :: vs)); mkT vs); let vs ← (pure []:M (List V)); pure (v :: vs)); pure (v :: vs)); xh gw vs); pure .next:M Fl) (qa6 LM)) else (pure .next:M Fl):M Fl)
noncomputable def xae (LM:Nat→List V→Fun):V→M Unit:=(fun v=>setv "elem" v)
noncomputable def gae (LM:Nat→List V→Fun):M Fl:=(seqM (do let v ← (do let f ← getv "key"; chkF f; let v ← (getv "elem"); keyF LM f [v]); (fun v=>setv "k" v) v; pure .next:M Fl) (ka6 LM))
noncomputable def zac (LM:Nat→List V→Fun):M Fl:=(seqM (do let _ ← (do let ov ← (getv "result"); chkL ov; xv ov); pure .next:M Fl) (gab LM))
noncomputable def kam (LM:Nat→List V→Fun):M Fl:=(seqM (do let v ← (getv "it"); let nx ← ga3 v; forN nx (xae LM) (gae LM) 4096 0) (zac LM))
noncomputable def xa6 (LM:Nat→List V→Fun):M Fl:=(seqM (do let v ← (pure (V.fn "heapreplace"):M V); (fun v=>setv "_heapreplace" v) v; pure .next:M Fl) (kam LM))
noncomputable def kaz (LM:Nat→List V→Fun):M Fl:=(seqM (do let v ← (do let a ← (getv "n"); negV a); (fun v=>setv "order" v) v; pure .next:M Fl) (xa6 LM))
noncomputable def xaz (LM:Nat→List V→Fun):M Fl:=(seqM (do let v ← (do let o ← (do let o ← (getv "result"); let i ← (pure (V.int 0):M V); getI o i); let i ← (pure (V.int 0):M V); getI o i); (fun v=>setv "top" v) v; pure .next:M Fl) (kaz LM))
noncomputable def gaz (LM:Nat→List V→Fun):M Fl:=(seqM (do let _ ← (do let vs ← (do let v ← (getv "result"); let vs ← (pure []:M (List V)); pure (v :: vs)); xh qad vs); pure .next:M Fl) (xaz LM))
noncomputable def xao (LM:Nat→List V→Fun):V→M Unit:=(qm 2 (zt (fun v=>setv "i" v) (zt (fun v=>setv "elem" v) (fun _=>pure ()))))
noncomputable def xbi (LM:Nat→List V→Fun):M Bool:=(pure true:M Bool)
noncomputable def gbi (LM:Nat→List V→Fun) (l:Nat):M Unit:=(do let v ← (do let vs ← (do let v ← (do let f ← getv "key"; chkF f; let v ← (getv "elem"); keyF LM f [v]); let vs ← (do let v ← (getv "i"); let vs ← (do let v ← (getv "elem"); let vs ← (pure []:M (List V)); pure (v :: vs)); pure (v :: vs)); pure (v :: vs)); mkT vs); yl l v)
noncomputable def gbz (LM:Nat→List V→Fun) (l:Nat) (nx:Nat→M (Option V)):M Unit:=xw 4096 (xao LM) (xbi LM) (gbi LM l) nx
noncomputable def xai (LM:Nat→List V→Fun):M Fl:=(seqM (do if (← (do let b ← (do let v ← (getv "result"); truV v); pure (!b)))=true then (do let v ← (getv "result"); pure (.ret v):M Fl) else (pure .next:M Fl):M Fl) (gaz LM))
noncomputable def gai (LM:Nat→List V→Fun):M Fl:=(seqM (do let v ← ((do let r ← (do let vs ← (do let v ← (pure (V.int 0):M V); let vs ← (do let v ← (do let a ← (getv "n"); negV a); let vs ← (do let v ← (do let a ← (pure (V.int 1):M V); negV a); let vs ← (pure []:M (List V)); pure (v :: vs)); pure (v :: vs)); pure (v :: vs)); gp vs); let v ← (getv "it"); za4 r v) >>= zj ["key"] (gbz LM)); (fun v=>setv "result" v) v; pure .next:M Fl) (xai LM))
noncomputable def zbj (LM:Nat→List V→Fun):V→M Unit:=(qm 2 (zt (fun v=>setv "elem" v) (zt (fun v=>setv "order" v) (fun _=>pure ()))))
noncomputable def ybj (LM:Nat→List V→Fun):M Bool:=(pure true:M Bool)
noncomputable def jbj (LM:Nat→List V→Fun) (l:Nat):M Unit:=(do let v ← (getv "elem"); yl l v)
noncomputable def zb0 (LM:Nat→List V→Fun) (l:Nat) (nxt:S→Nat→Option (Option V)):M Unit:=yq 4096 (zbj LM) (ybj LM) (jbj LM l) nxt
noncomputable def yb0 (LM:Nat→List V→Fun):M Fl:=(do let v ← ((getv "result") >>= zk [] (zb0 LM)); pure (.ret v):M Fl)
noncomputable def jb0 (LM:Nat→List V→Fun):M Fl:=(do let a ← getv "order"; let b ← (pure (V.int 1):M V); let c ← xas a b; setv "order" c; pure .next:M Fl)
noncomputable def wb0 (LM:Nat→List V→Fun):M Fl:=(seqM (do let v ← (do let o ← (getv "result"); let i ← (pure (V.int 0):M V); getI o i); (qm 2 (zt (fun v=>setv "top" v) (zt (fun v=>setv "_order" v) (fun _=>pure ())))) v; pure .next:M Fl) (jb0 LM))
noncomputable def wbj (LM:Nat→List V→Fun):V→M Unit:=(fun v=>setv "elem" v)
noncomputable def qbj (LM:Nat→List V→Fun):M Fl:=(do if (← (do let a ← (getv "top"); let b ← (getv "elem"); let c ← ltV a b; truV c))=true then (seqM (do let _ ← (do let v ← getv "_heapreplace"; kbe "heapreplace" v; let vs ← (do let v ← (getv "result"); let vs ← (do let v ← (do let vs ← (do let v ← (getv "elem"); let vs ← (do let v ← (getv "order"); let vs ← (pure []:M (List V)); pure (v :: vs)); pure (v :: vs)); mkT vs); let vs ← (pure []:M (List V)); pure (v :: vs)); pure (v :: vs)); xh gw vs); pure .next:M Fl) (wb0 LM)) else (pure .next:M Fl):M Fl)
noncomputable def qb0 (LM:Nat→List V→Fun):M Fl:=(seqM (do let _ ← (do let ov ← (getv "result"); chkL ov; xv ov); pure .next:M Fl) (yb0 LM))
noncomputable def kb0 (LM:Nat→List V→Fun):M Fl:=(seqM (do let v ← (getv "it"); let nx ← ga3 v; forN nx (wbj LM) (qbj LM) 4096 0) (qb0 LM))
noncomputable def xb0 (LM:Nat→List V→Fun):M Fl:=(seqM (do let v ← (pure (V.fn "heapreplace"):M V); (fun v=>setv "_heapreplace" v) v; pure .next:M Fl) (kb0 LM))
noncomputable def gb0 (LM:Nat→List V→Fun):M Fl:=(seqM (do let v ← (do let a ← (getv "n"); negV a); (fun v=>setv "order" v) v; pure .next:M Fl) (xb0 LM))
noncomputable def zb1 (LM:Nat→List V→Fun):M Fl:=(seqM (do let v ← (do let o ← (do let o ← (getv "result"); let i ← (pure (V.int 0):M V); getI o i); let i ← (pure (V.int 0):M V); getI o i); (fun v=>setv "top" v) v; pure .next:M Fl) (gb0 LM))
noncomputable def yb1 (LM:Nat→List V→Fun):M Fl:=(seqM (do let _ ← (do let vs ← (do let v ← (getv "result"); let vs ← (pure []:M (List V)); pure (v :: vs)); xh qad vs); pure .next:M Fl) (zb1 LM))
noncomputable def kbj (LM:Nat→List V→Fun):V→M Unit:=(qm 2 (zt (fun v=>setv "i" v) (zt (fun v=>setv "elem" v) (fun _=>pure ()))))
noncomputable def xbj (LM:Nat→List V→Fun):M Bool:=(pure true:M Bool)
noncomputable def gbj (LM:Nat→List V→Fun) (l:Nat):M Unit:=(do let v ← (do let vs ← (do let v ← (getv "elem"); let vs ← (do let v ← (getv "i"); let vs ← (pure []:M (List V)); pure (v :: vs)); pure (v :: vs)); mkT vs); yl l v)
noncomputable def jb1 (LM:Nat→List V→Fun) (l:Nat) (nx:Nat→M (Option V)):M Unit:=xw 4096 (kbj LM) (xbj LM) (gbj LM l) nx
noncomputable def wb1 (LM:Nat→List V→Fun):M Fl:=(seqM (do if (← (do let b ← (do let v ← (getv "result"); truV v); pure (!b)))=true then (do let v ← (getv "result"); pure (.ret v):M Fl) else (pure .next:M Fl):M Fl) (yb1 LM))
noncomputable def qb1 (LM:Nat→List V→Fun):M Fl:=(seqM (do let v ← ((do let r ← (do let vs ← (do let v ← (pure (V.int 0):M V); let vs ← (do let v ← (do let a ← (getv "n"); negV a); let vs ← (do let v ← (do let a ← (pure (V.int 1):M V); negV a); let vs ← (pure []:M (List V)); pure (v :: vs)); pure (v :: vs)); pure (v :: vs)); gp vs); let v ← (getv "it"); za4 r v) >>= zj [] (jb1 LM)); (fun v=>setv "result" v) v; pure .next:M Fl) (wb1 LM))
noncomputable def za0 (LM:Nat→List V→Fun):M Fl:=(seqM (do let v ← (do let vs ← (do let v ← (getv "iterable"); let vs ← (pure []:M (List V)); pure (v :: vs)); j3 vs); (fun v=>setv "it" v) v; pure .next:M Fl) (gai LM))
noncomputable def xaa (LM:Nat→List V→Fun):M Fl:=(do let v ← (do let vs ← (do let v ← (getv "iterable"); let vs ← (pure []:M (List V)); pure (v :: vs)); lenX vs); (fun v=>setv "size" v) v; pure .next:M Fl)
noncomputable def zbk (LM:Nat→List V→Fun):M Fl:=(pure .next:M Fl)
noncomputable def gao (LM:Nat→List V→Fun):M Fl:=(do if (← (do let a ← (getv "n"); let b ← (getv "size"); let c ← geV a b; truV c))=true then (do let v ← (do let o ← (do let v ← (getv "iterable"); let b ← (getv "key"); qaa LM v b); let i ← (do let a ← (pure V.none:M V); let b ← (getv "n"); let c ← (pure V.none:M V); pure (a,b,c)); qt o i); pure (.ret v):M Fl) else (pure .next:M Fl):M Fl)
noncomputable def zaj (LM:Nat→List V→Fun):M Fl:=(seqM (do if (← (do let a ← (getv "key"); let b ← (pure V.none:M V); let c ← isV a b; truV c))=true then (seqM (do let v ← (do let vs ← (do let v ← (getv "iterable"); let vs ← (pure []:M (List V)); pure (v :: vs)); j3 vs); (fun v=>setv "it" v) v; pure .next:M Fl) (qb1 LM)) else (pure .next:M Fl):M Fl) (za0 LM))
noncomputable def ya0 (LM:Nat→List V→Fun):M Fl:=(do let v ← (do if (← (do let a ← (getv "result"); let b ← (getv "sentinel"); let c ← isV a b; truV c))=true then (do let vs ← (pure []:M (List V)); newL vs) else (do let vs ← (do let v ← (getv "result"); let vs ← (pure []:M (List V)); pure (v :: vs)); newL vs)); pure (.ret v):M Fl)
noncomputable def ja0 (LM:Nat→List V→Fun):M Fl:=(seqM (do let v ← (do let v ← (getv "it"); let a ← (getv "sentinel"); let b ← (getv "key"); maxM LM v a b); (fun v=>setv "result" v) v; pure .next:M Fl) (ya0 LM))
noncomputable def yaj (LM:Nat→List V→Fun):M Fl:=(seqM (do let v ← (do let vs ← (pure []:M (List V)); objB vs); (fun v=>setv "sentinel" v) v; pure .next:M Fl) (ja0 LM))
noncomputable def jaj (LM:Nat→List V→Fun):M Fl:=(seqM (kaa (xaa LM) (xbt (zbk LM)) (gao LM)) (zaj LM))
noncomputable def g0 (LM:Nat→List V→Fun):M Fl:=(seqM (do if (← (do let a ← (getv "n"); let b ← (pure (V.int 1):M V); let c ← eqV a b; truV c))=true then (seqM (do let v ← (do let vs ← (do let v ← (getv "iterable"); let vs ← (pure []:M (List V)); pure (v :: vs)); j3 vs); (fun v=>setv "it" v) v; pure .next:M Fl) (yaj LM)) else (pure .next:M Fl):M Fl) (jaj LM))
noncomputable def zr (LM:Nat→List V→Fun):Fun:=funM ["n", "iterable", "key"] (g0 LM)
end
section
variable {K:Glo} {F:Frm}
theorem kb1 (fk:FOk F) {σ:S} {ρ:List Addr} {s:Shared} {a b:V} {wa wb:Value} (rel:Rel K F σ ρ s) (ra:Rep K s.heap ρ a wa) (rb:Rep K s.heap ρ b wb) :
  Run K F (getItem wa wb) (Rep K) (getI a b σ) ρ s:=by
 cases a with
 | obj l=>
  cases b with
  | int k=>
   refine qb (Rep.int_iff.mp rb) fun t o_268=>?_;obtain rfl:=o_268;unfold getI;dsimp only
   cases hc:σ.st[l]? with
   | none=>exact Run.stuck
   | some c=>
    cases c with
    | lst vs=>
     dsimp only;refine zh (rel.list ra hc) fun ad ws n o_269 hρ hL hr hn=>?_;obtain rfl:=o_269
     cases hi:ix vs.length k with
     | none=>exact Run.stuck
     | some j=>
      dsimp only
      cases hv:vs[j]? with
      | none=>exact Run.stuck
      | some v=>
       refine ya (hr.get? hv) fun w hw rw'=>?_
       exact Run.ok (zal hL.isList (by rw [hr.length]; exact hn) (by rw [hr.length]; exact hi) hw ⟨ρ,rel,Ext.refl ..,rw'⟩)
    | _=>exact Run.stuck
  | _=>exact Run.stuck
 | tup vs=>
  cases b with
  | int k=>
   refine qb (Rep.int_iff.mp rb) fun t o_270=>?_;obtain rfl:=o_270;refine qu ra.tupOf fun hn ad ws o_271 ht hr=>?_;obtain rfl:=o_271;unfold getI;dsimp only
   cases hi:ix vs.length k with
   | none=>exact Run.stuck
   | some j=>
    dsimp only
    cases hv:vs[j]? with
    | none=>exact Run.stuck
    | some v=>
     refine ya (hr.get? hv) fun w hw rw'=>?_;have hrg:=qa8 hi hn
     exact Run.ok (PyProof.Rows.getItem_tuple ht (by exact nL16 hrg) (by exact nL15 hrg) (j:=j) (by rw [List.size_toArray,hr.length]; exact gch hi) (by simpa using hw) ⟨ρ,rel,Ext.refl ..,rw'⟩)
  | _=>exact Run.stuck
 | _=>exact Run.stuck
theorem kb6 (o i:Expr) (spos pos:Pos) (op:Operator) (value:Expr) (env:Env):exec (.AugAssign (.Subscript o i spos) op value pos) env=(do
  standAt pos
  let ov ← eval o env
  let iv ← holding [ov] (eval i env)
  let new ← holding [ov,iv] do
   standAt spos
   let old ← getItem ov iv
   let v ← holding [old] (eval value env)
   standAt pos
   operate [old,v] (inplaceOp op old v)
  standAt spos
  augStore i ov iv new):=rfl
noncomputable def augI (mo mi m:M V) (f:V→V→M V):M Fl:=do let o ← mo; let i ← mi; let c ← (do let a ← getI o i; let b ← m; f a b); setI o i c; pure .next
theorem yac (fk:FOk F) {op:Operator} {f:V→V→M V} (ho:wbt K op f) {o i e:Expr} {spos:Pos} {mo mi m:M V} (pos:Pos) (hO:SimE K F o mo) (hI:SimE K F i mi) (h:SimE K F e m)
  (hst:∀ ov iv new,augStore i ov iv new=(do holding [new,ov,iv] (setItem ov iv new); release [new,ov,iv] []; pure .next):=by intro _ _ _; rfl) :
  SimS K F (.AugAssign (.Subscript o i spos) op e pos) (augI mo mi m f):=by
 intro σ ρ s rel;rw [kb6];unfold augI;refine Run.standAt (Run.bind (hO σ ρ s rel) fun ov σ₁ ρ₁ s₁ wo zZ rel₁ x₁ ro=>?_);refine Run.bind (Run.holding (hI σ₁ ρ₁ s₁ rel₁)) fun iv σ₂ ρ₂ s₂ wi zZ rel₂ x₂ ri=>?_;refine Run.bind (R:=Rep K) (Run.holding (Run.standAt (Run.bind (kb1 fk rel₂ (ro.mono x₂) ri) fun a σ₃ ρ₃ s₃ wa zZ rel₃ x₃ ra=>Run.bind (Run.holding (h σ₃ ρ₃ s₃ rel₃)) fun b σ₄ ρ₄ s₄ wb zZ rel₄ x₄ rb=>Run.standAt (Run.operate (ho F fk σ₄ ρ₄ s₄ a b wa wb rel₄ (ra.mono x₄) rb))))) fun c σ₅ ρ₅ s₅ wc zZ rel₅ x₅ rc=>?_;refine Run.standAt ?_;rw [hst];refine Run.bind (Run.holding (ja5 fk rel₅ ((ro.mono x₂).mono x₅) (ri.mono x₅) rc)) fun u σ₆ ρ₆ s₆ zZ zZ rel₆ x₆ zZ=>?_;exact Run.ok (wpAny_bind (wpAny_release (wpAny_pure (gc ρ₆ rel₆ (Ext.refl ..) rfl))))
noncomputable def notV (v:V):M V:=do let b ← truV v; pure (.bool (!b))
theorem kdb:UnOk K .Not notV:=by
 intro F fk σ ρ s a wa rel ra;unfold unaryOp;refine Run.holding ?_
 show Run K F (do let b ← truthy wa; pure (Value.bool (!b))) (Rep K) (notV a σ) ρ s
 refine Run.bind (ki F fk σ ρ s a wa rel ra) fun b σ₁ ρ₁ s₁ wb zZ rel₁ x₁ rb=>?_;have:wb=b:=rb;subst this;exact Run.pure rel₁ (Rep.bool _)
noncomputable def wbf:List V→M V
 | [.rng a b c]=>fun σ=>if Builtin.Range.small a b c=true∧0≤Builtin.Range.rangeSize a b c∧Builtin.Range.rangeSize a b c≤1000 then
   .ok (.obj σ.st.length) {σ with st:=σ.st ++ [.lst ((List.range (Builtin.Range.rangeSize a b c).toNat).map fun (i:Nat)=>V.int (a + (i:Int) * c))]} else .stuck
 | _=>stuck
theorem xb6:wt K (.type "list") wbf:=by
 intro F fk hnh σ ρ s vs ws rel r
 rcases (show wbf vs σ = .stuck∨(∃ a b c,vs=[.rng a b c]) by
  rcases vs with _ | ⟨v,_ | ⟨u,r⟩⟩
  ·exact .inl rfl
  ·cases v <;> first | exact .inl rfl | exact .inr (qa2 _ _ _ rfl)
  ·cases v <;> exact .inl rfl) with h | ⟨a,b,c,rfl⟩
 ·rw [h]; exact Run.stuck
 unfold wbf;dsimp only;refine yc (RepL.cons_iff.mp r) fun x r' o_272 r1 r2=>?_;obtain rfl:=o_272;obtain rfl:=RepL.nil_iff.mp r2;refine ku (Rep.rng_iff.mp r1) fun ra t u v o_273 hR=>?_;obtain rfl:=o_273
 by_cases hs:Builtin.Range.small a b c=true∧0≤Builtin.Range.rangeSize a b c∧Builtin.Range.rangeSize a b c≤1000
 ·rw [if_pos hs]
  refine Run.ok (call_list_range (n:=(Builtin.Range.rangeSize a b c).toNat) (fk.hd hnh) hR hs.1 (Int.toNat_of_nonneg hs.2.1).symm (by (first | lia | omega)) fun h' tk acc' c' hk hD hacc=>?_)
  have hlen:acc'.toList.length=((List.range (Builtin.Range.rangeSize a b c).toNat).map fun (i:Nat)=>V.int (a + (i:Int) * c)).length:=by
   rw [List.length_map,List.length_range]; exact hacc.1
  have hr:RepL K s.heap ρ ((List.range (Builtin.Range.rangeSize a b c).toNat).map fun (i:Nat)=>V.int (a + (i:Int) * c)) acc'.toList:=by
   refine RepL.of_get hlen fun i v w e1 e2=>?_
   refine qb (hacc.2 i w (by simpa using e2)) fun tk' o_274=>?_
   obtain rfl:=o_274;rw [List.getElem?_map] at e1
   cases hi:(List.range (Builtin.Range.rangeSize a b c).toNat)[i]? with
   | none=>rw [hi] at e1; (injection e1)
   | some j=>
    rw [hi] at e1;refine qb (List.getElem?_eq_some_iff.mp hi) fun hj e=>?_;rw [List.getElem_range] at e;subst e
    (injection e1 with c_1; subst c_1)
    exact Rep.int ..
  obtain ⟨rel',x'⟩:=rel.newAt (s':={s with heap:=h',toks:=tk}) (a:=s.heap.objs.size) (n:=c') hk (Heap.get?_none_of_le (Nat.le_refl _)) (by simpa using hD) hr (by rw [List.length_map,List.length_range]; (first | lia | omega)) rfl rfl
  exact (gc _ rel' x' (Rep.obj_iff.mpr (ja _ (by rw [← rel.len]; exact List.getElem?_concat_length) rfl)))
 ·rw [if_neg hs]; exact Run.stuck
end
section
noncomputable abbrev prg:Program:=PySem.Challenge.pw_dm0136_12
noncomputable def bltNames:List String:=["AttributeError", "TypeError", "iter", "len", "list", "max", "min", "object", "range", "reversed", "sorted", "sum", "zip"]
noncomputable def qbf:DefRec:=xaf prg 10
noncomputable def lamQ:Str:=Str.ofString "law.<locals>.<lambda>"
noncomputable def lams:Nat→LamRec
 | 0=>xcl ["owed"] (kc7 (qdb (stAt (qcs (stAt qbf.body 3)) 4)))
 | _=>xcl [] noE'
noncomputable def yap:M V:=(do let o ← (getv "owed"); let i ← (getv "one"); getI o i)
noncomputable def LM:Nat→List V→Fun
 | 0=>lamF "one" ["owed"] yap
 | _=>fun _ _ _=>.stuck
theorem xdb {K:Glo} (hlam:K.lams=lams) (hlamQ:K.lamQ=lamQ) (hfree:∀ x∈bltNames,K.mg (Str.ofString x)=none):q0 K 1 LM:=by
 intro k
 match k with
 | 0=>
  refine xda (lvl:=0) (r:=lams 0) (p:= "one") (mb:=yap) (by rw [hlam]) (by kernel_rfl) (by kernel_rfl) (by kernel_rfl) (wb6 (by kernel_rfl)) (by kernel_rfl) (by intro x hx; replace hx:x∈["owed"]:=hx; simp only [List.mem_cons,List.not_mem_nil,or_false] at hx; rcases hx with rfl <;> kernel_rfl) (fun pm cd ct cl w=>by rfl) fun L fa cd cl A hr fk=>?_
  exact (gf fk _ (za fk "owed" _) (za fk "one" _))
 | k + 1=>intro A _ st ρ s _ _ l a cap vs ws _ _ _ hne; exact absurd rfl hne
noncomputable def qcf:DefRec:=xaf prg 3
theorem ybk {K:Glo} (hp:∀ d∈recsOf prg,d∈recsOf K.p) (hfree:∀ x∈bltNames,K.mg (Str.ofString x)=none):HasF K "_siftdown" 1 z8:=by
 refine q9 (d:=qcf) (lvl:=0) (hp _ (List.mem_iff_getElem?.mpr ⟨2,by kernel_rfl⟩)) (by kernel_rfl) (by kernel_rfl) (by kernel_rfl) (by kernel_rfl) (by decide) ?_ ?_ ?_
 ·intro pm code doc ws h;refine wrap fun G_ hG_=>?_;obtain ⟨a0,a1,a2,o_275⟩:=len3 h;refine hG_ ?_;clear hG_ G_;obtain rfl:=o_275
  rfl
 ·intro n y hy;simp only [List.mem_cons,List.not_mem_nil,or_false] at hy
  rcases hy with rfl | rfl | rfl
  ·exact .inl (by kernel_rfl)
  ·exact .inl (by kernel_rfl)
  ·exact .inl (by kernel_rfl)
 ·intro pm code doc L fa A hr fk;show yj K _ _ jat
  exact (ka (zc _ (ga "newitem" _ fk (by kernel_rfl)) (gf fk _ (za fk "heap" _) (za fk "pos" _))) (ka (jbc _ 4096 (zi fk kbv ki _ (za fk "pos" _) (za fk "startpos" _)) (ka (zc _ (ga "parentpos" _ fk (by kernel_rfl)) (qe fk wc5 _ (qe fk za3 _ (za fk "pos" _) (qd 1 _ _)) (qd 1 _ _))) (ka (zc _ (ga "parent" _ fk (by kernel_rfl)) (gf fk _ (za fk "heap" _) (za fk "parentpos" _))) (ka (qn _ (zi fk gac ki _ (za fk "newitem" _) (za fk "parent" _)) (ka (zc _ (g8 fk _ (za fk "heap" _) (za fk "pos" _)) (za fk "parent" _)) (ka (zc _ (ga "pos" _ fk (by kernel_rfl)) (za fk "parentpos" _)) (jd (gbo _)))) wj) (jd (xcd _)))))) (jd (zc _ (g8 fk _ (za fk "heap" _) (za fk "pos" _)) (za fk "newitem" _)))))
noncomputable def kcs:DefRec:=xaf prg 4
theorem xb1 {K:Glo} (hp:∀ d∈recsOf prg,d∈recsOf K.p) (hfree:∀ x∈bltNames,K.mg (Str.ofString x)=none) (h_siftdown:HasF K "_siftdown" 1 z8):HasF K "_siftup" 2 jz:=by
 refine q9 (d:=kcs) (lvl:=1) (hp _ (List.mem_iff_getElem?.mpr ⟨3,by kernel_rfl⟩)) (by kernel_rfl) (by kernel_rfl) (by kernel_rfl) (by kernel_rfl) (by decide) ?_ ?_ ?_
 ·intro pm code doc ws h;refine qah (len2 h) fun a0 a1 o_276=>?_;obtain rfl:=o_276
  rfl
 ·intro n y hy;simp only [List.mem_cons,List.not_mem_nil,or_false] at hy
  rcases hy with rfl | rfl
  ·exact .inl (by kernel_rfl)
  ·exact .inl (by kernel_rfl)
 ·intro pm code doc L fa A hr fk;show yj K _ _ wa9
  exact (ka (zc _ (ga "endpos" _ fk (by kernel_rfl)) (kc fk rfl (by kernel_rfl) (hfree "len" (by decide)) (by kernel_rfl) gi (qa (za fk "heap" _) jb))) (ka (zc _ (ga "startpos" _ fk (by kernel_rfl)) (za fk "pos" _)) (ka (zc _ (ga "newitem" _ fk (by kernel_rfl)) (gf fk _ (za fk "heap" _) (za fk "pos" _))) (ka (zc _ (ga "childpos" _ fk (by kernel_rfl)) (qe fk jx _ (qe fk ya3 _ (qd 2 _ _) (za fk "pos" _)) (qd 1 _ _))) (ka (jbc _ 4096 (zi fk gac ki _ (za fk "childpos" _) (za fk "endpos" _)) (ka (zc _ (ga "rightpos" _ fk (by kernel_rfl)) (qe fk jx _ (za fk "childpos" _) (qd 1 _ _))) (ka (qn _ (qb4 _ (zbc (zi fk gac ki _ (za fk "rightpos" _) (za fk "endpos" _)) (zbc (wa8 _ (zi fk gac ki _ (gf fk _ (za fk "heap" _) (za fk "childpos" _)) (gf fk _ (za fk "heap" _) (za fk "rightpos" _)))) jbh))) (jd (zc _ (ga "childpos" _ fk (by kernel_rfl)) (za fk "rightpos" _))) wj) (ka (zc _ (g8 fk _ (za fk "heap" _) (za fk "pos" _)) (gf fk _ (za fk "heap" _) (za fk "childpos" _))) (ka (zc _ (ga "pos" _ fk (by kernel_rfl)) (za fk "childpos" _)) (jd (zc _ (ga "childpos" _ fk (by kernel_rfl)) (qe fk jx _ (qe fk ya3 _ (qd 2 _ _) (za fk "pos" _)) (qd 1 _ _))))))))) (ka (zc _ (g8 fk _ (za fk "heap" _) (za fk "pos" _)) (za fk "newitem" _)) (jd (qq fk _ (km fk h_siftdown (hr.le (by decide)) (qa (za fk "heap" _) (qa (za fk "startpos" _) (qa (za fk "pos" _) jb))))))))))))
noncomputable def wbq:DefRec:=xaf prg 1
theorem za5 {K:Glo} (hp:∀ d∈recsOf prg,d∈recsOf K.p) (hfree:∀ x∈bltNames,K.mg (Str.ofString x)=none) (h_siftup:HasF K "_siftup" 2 jz):HasF K "heapreplace" 3 gw:=by
 refine q9 (d:=wbq) (lvl:=2) (hp _ (List.mem_iff_getElem?.mpr ⟨0,by kernel_rfl⟩)) (by kernel_rfl) (by kernel_rfl) (by kernel_rfl) (by kernel_rfl) (by decide) ?_ ?_ ?_
 ·intro pm code doc ws h;refine qah (len2 h) fun a0 a1 o_277=>?_;obtain rfl:=o_277
  rfl
 ·intro n y hy;simp only [List.mem_cons,List.not_mem_nil,or_false] at hy
  rcases hy with rfl | rfl
  ·exact .inl (by kernel_rfl)
  ·exact .inl (by kernel_rfl)
 ·intro pm code doc L fa A hr fk;show yj K _ _ kae
  exact (ka (zc _ (ga "returnitem" _ fk (by kernel_rfl)) (gf fk _ (za fk "heap" _) (qd 0 _ _))) (ka (zc _ (g8 fk _ (za fk "heap" _) (qd 0 _ _)) (za fk "item" _)) (ka (qq fk _ (km fk h_siftup (hr.le (by decide)) (qa (za fk "heap" _) (qa (qd 0 _ _) jb)))) (jd (ji _ (za fk "returnitem" _))))))
noncomputable def gcl:DefRec:=xaf prg 2
theorem qbq {K:Glo} (hp:∀ d∈recsOf prg,d∈recsOf K.p) (hfree:∀ x∈bltNames,K.mg (Str.ofString x)=none) (h_siftup:HasF K "_siftup" 2 jz):HasF K "heapify" 3 qad:=by
 refine q9 (d:=gcl) (lvl:=2) (hp _ (List.mem_iff_getElem?.mpr ⟨1,by kernel_rfl⟩)) (by kernel_rfl) (by kernel_rfl) (by kernel_rfl) (by kernel_rfl) (by decide) ?_ ?_ ?_
 ·intro pm code doc ws h;refine qb (len1 h) fun a0 o_278=>?_;obtain rfl:=o_278
  rfl
 ·intro n y hy;simp only [List.mem_cons,List.not_mem_nil,or_false] at hy;subst hy
  ·exact .inl (by kernel_rfl)
 ·intro pm code doc L fa A hr fk;show yj K _ _ kay
  exact (ka (zc _ (ga "n" _ fk (by kernel_rfl)) (kc fk rfl (by kernel_rfl) (hfree "len" (by decide)) (by kernel_rfl) gi (qa (za fk "x" _) jb))) (jd (jbw fk _ 4096 (by kernel_rfl) (hfree "reversed" (by decide)) (kc fk rfl (by kernel_rfl) (hfree "range" (by decide)) (by kernel_rfl) yu (qa (qe fk ka8 _ (za fk "n" _) (qd 2 _ _)) jb)) (ga "i" _ fk (by kernel_rfl)) (jd (qq fk _ (km fk h_siftup (hr.le (by decide)) (qa (za fk "x" _) (qa (za fk "i" _) jb))))))))
noncomputable def kcf:DefRec:=xaf prg 5
theorem jbk {K:Glo} (hpd:∀ d∈drecsOf prg,d∈drecsOf K.p) (hfree:∀ x∈bltNames,K.mg (Str.ofString x)=none) (hclo:∀ ow,q0 (K.adds ow) 1 LM) (hheapify:HasF K "heapify" 3 qad) (hheapreplace:HasF K "heapreplace" 3 gw):kbt K "nlargest" (Str.ofString "key") 5 (zr LM):=by
 refine xcq (d:=(kcf,[PyData.none])) (lvl:=4) (hpd _ (List.mem_iff_getElem?.mpr ⟨0,by kernel_rfl⟩)) (by kernel_rfl) (by kernel_rfl) (by kernel_rfl) (by kernel_rfl) (by kernel_rfl) (by decide) ?_ ?_ ?_
 ·intro pm code doc T args ws h;obtain ⟨a,b,c,rfl,h⟩:=h
  rcases h with rfl | ⟨rfl,rfl⟩ | rfl
  all_goals exact (ja _ rfl rfl)
 ·intro n y hy;simp only [List.mem_cons,List.not_mem_nil,or_false] at hy
  rcases hy with rfl | rfl | rfl
  ·exact .inl (by kernel_rfl)
  ·exact .inl (by kernel_rfl)
  ·exact .inr ⟨by kernel_rfl,rfl⟩
 ·intro pm code doc L fa A hr fk;show yj K _ _ (g0 LM)
  exact (ka (qn _ (zi fk jbv ki _ (za fk "n" _) (qd 1 _ _)) (ka (zc _ (ga "it" _ fk (by kernel_rfl)) (kc fk rfl (by kernel_rfl) (hfree "iter" (by decide)) (by kernel_rfl) zag (qa (za fk "iterable" _) jb))) (ka (zc _ (ga "sentinel" _ fk (by kernel_rfl)) (kc fk rfl (by kernel_rfl) (hfree "object" (by decide)) (by kernel_rfl) jbz jb)) (ka (zc _ (ga "result" _ fk (by kernel_rfl)) (gcr fk (hclo []) (hr.le (by decide)) (by kernel_rfl) (hfree "max" (by decide)) (za fk "it" _) (za fk "sentinel" _) (za fk "key" _))) (jd (ji _ (wbu _ (zi fk zci ki _ (za fk "result" _) (za fk "sentinel" _)) (xac _ jb) (xac _ (qa (za fk "result" _) jb)))))))) wj) (ka (xbz fk (jd (zc _ (ga "size" _ fk (by kernel_rfl)) (kc fk rfl (by kernel_rfl) (hfree "len" (by decide)) (by kernel_rfl) ycf (qa (za fk "iterable" _) jb)))) (kcl fk (by kernel_rfl) (hfree "TypeError" (by decide)) (by kernel_rfl) (by kernel_rfl) (hfree "AttributeError" (by decide)) (by kernel_rfl) (fun v=>(jd (wch _)))) (jd (qn _ (zi fk wc9 ki _ (za fk "n" _) (za fk "size" _)) (jd (ji _ (j7 fk _ _ (gbp fk (hclo []) (hr.le (by decide)) (by kernel_rfl) (hfree "sorted" (by decide)) (za fk "iterable" _) (za fk "key" _)) yp (zad (za fk "n" _)) yp))) wj))) (ka (qn _ (zi fk zci ki _ (za fk "key" _) (gbl _ _)) (ka (zc _ (ga "it" _ fk (by kernel_rfl)) (kc fk rfl (by kernel_rfl) (hfree "iter" (by decide)) (by kernel_rfl) zag (qa (za fk "iterable" _) jb))) (ka (zaf fk ⟨rfl,rfl,by decide +kernel,by decide +kernel,(by intro x hx; (exfalso; exact nomatch hx)),(by intro x c h; (injection h))⟩ (ga "result" _ fk (by kernel_rfl)) (gbn fk (by kernel_rfl) (hfree "zip" (by decide)) (kc fk rfl (by kernel_rfl) (hfree "range" (by decide)) (by kernel_rfl) yr (qa (qd 0 _ _) (qa (x8 fk qan _ (za fk "n" _)) (qa (x8 fk qan _ (qd 1 _ _)) jb)))) (za fk "it" _)) (fun ow C=>ka5 4096 rfl (fun acc=>ky rfl rfl (test:=none) rfl) (gz (FOk.comp fk rfl) _ _ (jj (ga "i" _ (FOk.comp fk rfl) (by kernel_rfl)) (jj (ga "elem" _ (FOk.comp fk rfl) (by kernel_rfl)) y6))) xt (fun l a=>xu (FOk.comp fk rfl) (xz _ _ (qa (za (FOk.comp fk rfl) "elem" _) (qa (za (FOk.comp fk rfl) "i" _) jb))) l a))) (ka (qn _ (wa8 _ (jbu fk ki (za fk "result" _))) (jd (ji _ (za fk "result" _))) wj) (ka (qq fk _ (km fk hheapify (hr.le (by decide)) (qa (za fk "result" _) jb))) (ka (zc _ (ga "top" _ fk (by kernel_rfl)) (gf fk _ (gf fk _ (za fk "result" _) (qd 0 _ _)) (qd 0 _ _))) (ka (zc _ (ga "order" _ fk (by kernel_rfl)) (x8 fk qan _ (za fk "n" _))) (ka (zc _ (ga "_heapreplace" _ fk (by kernel_rfl)) (xb8 fk hheapreplace)) (ka (xbn fk _ 4096 (za fk "it" _) (ga "elem" _ fk (by kernel_rfl)) (jd (qn _ (zi fk gac ki _ (za fk "top" _) (za fk "elem" _)) (ka (qq fk _ (ja6 fk hheapreplace (hr.le (by decide)) (qa (za fk "result" _) (qa (xz _ _ (qa (za fk "elem" _) (qa (za fk "order" _) jb))) jb)))) (ka (zc _ (gz fk _ _ (jj (ga "top" _ fk (by kernel_rfl)) (jj (ga "_order" _ fk (by kernel_rfl)) y6))) (gf fk _ (za fk "result" _) (qd 0 _ _))) (jd (za9 fk gan "order" _ (by kernel_rfl) (qd 1 _ _))))) wj))) (ka (qq fk _ (jaz fk (za fk "result" _))) (jd (ji _ (wae fk ⟨rfl,rfl,by decide +kernel,by decide +kernel,(by intro x hx; (exfalso; exact nomatch hx)),(by intro x c h; (injection h))⟩ (za fk "result" _) (fun C=>qv 4096 rfl (fun acc=>ky rfl rfl (test:=none) rfl) (gz (FOk.comp fk rfl) _ _ (jj (ga "elem" _ (FOk.comp fk rfl) (by kernel_rfl)) (jj (ga "order" _ (FOk.comp fk rfl) (by kernel_rfl)) y6))) xt (fun l a=>xu (FOk.comp fk rfl) (za (FOk.comp fk rfl) "elem" _) l a)))))))))))))) wj) (ka (zc _ (ga "it" _ fk (by kernel_rfl)) (kc fk rfl (by kernel_rfl) (hfree "iter" (by decide)) (by kernel_rfl) zag (qa (za fk "iterable" _) jb))) (ka (zaf fk ⟨rfl,rfl,by decide +kernel,by decide +kernel,(by intro x hx; simp only [List.mem_cons,List.not_mem_nil,or_false] at hx; rcases hx with rfl <;> exact ⟨by first | exact .inl (by rfl) | exact .inr (by rfl),wai (by kernel_rfl),fun c h=>h⟩),(qai (k9 rfl zay))⟩ (ga "result" _ fk (by kernel_rfl)) (gbn fk (by kernel_rfl) (hfree "zip" (by decide)) (kc fk rfl (by kernel_rfl) (hfree "range" (by decide)) (by kernel_rfl) yr (qa (qd 0 _ _) (qa (x8 fk qan _ (za fk "n" _)) (qa (x8 fk qan _ (qd 1 _ _)) jb)))) (za fk "it" _)) (fun ow C=>ka5 4096 rfl (fun acc=>ky rfl rfl (test:=none) rfl) (gz (FOk.comp fk rfl) _ _ (jj (ga "i" _ (FOk.comp fk rfl) (by kernel_rfl)) (jj (ga "elem" _ (FOk.comp fk rfl) (by kernel_rfl)) y6))) xt (fun l a=>xu (FOk.comp fk rfl) (xz _ _ (qa (gay (FOk.comp fk rfl) (hclo ow) (hr.le (by decide)) (za (FOk.comp fk rfl) "elem" _)) (qa (za (FOk.comp fk rfl) "i" _) (qa (za (FOk.comp fk rfl) "elem" _) jb)))) l a))) (ka (qn _ (wa8 _ (jbu fk ki (za fk "result" _))) (jd (ji _ (za fk "result" _))) wj) (ka (qq fk _ (km fk hheapify (hr.le (by decide)) (qa (za fk "result" _) jb))) (ka (zc _ (ga "top" _ fk (by kernel_rfl)) (gf fk _ (gf fk _ (za fk "result" _) (qd 0 _ _)) (qd 0 _ _))) (ka (zc _ (ga "order" _ fk (by kernel_rfl)) (x8 fk qan _ (za fk "n" _))) (ka (zc _ (ga "_heapreplace" _ fk (by kernel_rfl)) (xb8 fk hheapreplace)) (ka (xbn fk _ 4096 (za fk "it" _) (ga "elem" _ fk (by kernel_rfl)) (ka (zc _ (ga "k" _ fk (by kernel_rfl)) (gay fk (hclo []) (hr.le (by decide)) (za fk "elem" _))) (jd (qn _ (zi fk gac ki _ (za fk "top" _) (za fk "k" _)) (ka (qq fk _ (ja6 fk hheapreplace (hr.le (by decide)) (qa (za fk "result" _) (qa (xz _ _ (qa (za fk "k" _) (qa (za fk "order" _) (qa (za fk "elem" _) jb)))) jb)))) (ka (zc _ (gz fk _ _ (jj (ga "top" _ fk (by kernel_rfl)) (jj (ga "_order" _ fk (by kernel_rfl)) (jj (ga "_elem" _ fk (by kernel_rfl)) y6)))) (gf fk _ (za fk "result" _) (qd 0 _ _))) (jd (za9 fk gan "order" _ (by kernel_rfl) (qd 1 _ _))))) wj)))) (ka (qq fk _ (jaz fk (za fk "result" _))) (jd (ji _ (wae fk ⟨rfl,rfl,by decide +kernel,by decide +kernel,(by intro x hx; (exfalso; exact nomatch hx)),(by intro x c h; (injection h))⟩ (za fk "result" _) (fun C=>qv 4096 rfl (fun acc=>ky rfl rfl (test:=none) rfl) (gz (FOk.comp fk rfl) _ _ (jj (ga "k" _ (FOk.comp fk rfl) (by kernel_rfl)) (jj (ga "order" _ (FOk.comp fk rfl) (by kernel_rfl)) (jj (ga "elem" _ (FOk.comp fk rfl) (by kernel_rfl)) y6)))) xt (fun l a=>xu (FOk.comp fk rfl) (za (FOk.comp fk rfl) "elem" _) l a)))))))))))))))))
noncomputable def ga6:M Fl:=(do let a ← getv "count"; let b ← (getv "some"); let c ← xas a b; setv "count" c; pure .next:M Fl)
noncomputable def za7:M Fl:=(seqM (augI (getv "wins") (getv "to") (getv "some") wbd) ga6)
noncomputable def ya7:M Fl:=(seqM (augI (getv "wins") (getv "one") (getv "some") xas) za7)
noncomputable def zav:V→M Unit:=(fun v=>setv "one" v)
noncomputable def yav:M Fl:=(do if (← (do let a ← (getv "one"); let b ← (getv "to"); let c ← neV a b; truV c))=true then (seqM (do let v ← (do let vs ← (do let v ← (getv "count"); let vs ← (do let v ← (do let o ← (getv "wins"); let i ← (getv "one"); getI o i); let vs ← (pure []:M (List V)); pure (v :: vs)); pure (v :: vs)); minB vs); (fun v=>setv "some" v) v; pure .next:M Fl) ya7) else (pure .next:M Fl):M Fl)
noncomputable def ja7:M Fl:=(do let v ← (getv "wins"); pure (.ret v):M Fl)
noncomputable def wa7:M Fl:=(seqM (do let v ← (do let vs ← (do let v ← (getv "size"); let vs ← (pure []:M (List V)); pure (v :: vs)); zu vs); jf v; forG (yf v) zav yav 4096 0) ja7)
noncomputable def jav:V→M Unit:=(fun v=>setv "k" v)
noncomputable def wav:M Fl:=(augI (getv "wins") (do let o ← (do let o ← (getv "games"); let i ← (getv "k"); getI o i); let i ← (do let a ← (do let a ← (do let vs ← (do let v ← (do let o ← (getv "script"); let i ← (do let a ← (getv "k"); let b ← (pure V.none:M V); let c ← (do let vs ← (do let v ← (getv "games"); let vs ← (pure []:M (List V)); pure (v :: vs)); lenB vs); pure (a,b,c)); qt o i); let vs ← (pure []:M (List V)); pure (v :: vs)); sumB vs); let b ← (getv "k"); addV a b); let b ← (pure (V.int 2):M V); wab a b); getI o i) (pure (V.int 1):M V) wbd)
noncomputable def qa7:M Fl:=(seqM (do let v ← (do let vs ← (do let v ← (do let a ← (do let vs ← (do let v ← (getv "script"); let vs ← (pure []:M (List V)); pure (v :: vs)); sumB vs); let b ← (do let a ← (getv "size"); let b ← (pure (V.int 1):M V); addV a b); wab a b); let vs ← (do let v ← (do let a ← (do let a ← (do let vs ← (do let v ← (getv "script"); let vs ← (pure []:M (List V)); pure (v :: vs)); sumB vs); let b ← (do let a ← (getv "size"); let b ← (pure (V.int 1):M V); addV a b); yal a b); let b ← (getv "size"); wab a b); let vs ← (pure []:M (List V)); pure (v :: vs)); pure (v :: vs)); mkT vs); ja3 ["count", "to"] v; pure .next:M Fl) wa7)
noncomputable def ka7:M Fl:=(seqM (do let v ← (do let vs ← (do let v ← (do let vs ← (do let v ← (getv "games"); let vs ← (pure []:M (List V)); pure (v :: vs)); lenB vs); let vs ← (pure []:M (List V)); pure (v :: vs)); zu vs); jf v; forG (yf v) jav wav 4096 0) qa7)
noncomputable def waj:V→M Unit:=(fun v=>setv "one" v)
noncomputable def qaj:M Bool:=(pure true:M Bool)
noncomputable def kaj (l:Nat):M Unit:=(do let v ← (do let vs ← (do let v ← (getv "one"); let vs ← (do let v ← (getv "other"); let vs ← (pure []:M (List V)); pure (v :: vs)); pure (v :: vs)); mkT vs); yl l v)
noncomputable def jap (l:Nat) (nxt:S→Nat→Option (Option V)):M Unit:=yq 4096 waj qaj (kaj l) nxt
noncomputable def wap:V→M Unit:=(fun v=>setv "other" v)
noncomputable def qap:M Bool:=(pure true:M Bool)
noncomputable def kap (l:Nat):M Unit:=((do let vs ← (do let v ← (getv "other"); let vs ← (pure []:M (List V)); pure (v :: vs)); zu vs) >>= qal jap l)
noncomputable def wa0 (l:Nat) (nxt:S→Nat→Option (Option V)):M Unit:=yq 4096 wap qap (kap l) nxt
noncomputable def qa0:M Fl:=(seqM (do let v ← (do let a ← (do let vs ← (do let v ← (pure (V.int 0):M V); let vs ← (pure []:M (List V)); pure (v :: vs)); newL vs); let b ← (getv "size"); ka3 a b); (fun v=>setv "wins" v) v; pure .next:M Fl) ka7)
noncomputable def ka0:M Fl:=(seqM (do let v ← ((do let vs ← (do let v ← (getv "size"); let vs ← (pure []:M (List V)); pure (v :: vs)); zu vs) >>= zk [] wa0); (fun v=>setv "games" v) v; pure .next:M Fl) qa0)
noncomputable def yag:M Fl:=(seqM (do let v ← (do let a ← (pure (V.int 4):M V); let b ← (do let a ← (do let vs ← (do let v ← (getv "script"); let vs ← (pure []:M (List V)); pure (v :: vs)); lenB vs); let b ← (pure (V.int 9):M V); wab a b); addV a b); (fun v=>setv "size" v) v; pure .next:M Fl) ka0)
noncomputable def jag:Fun:=funM ["script"] yag
noncomputable def xcf:DefRec:=xaf prg 7
theorem wbk {K:Glo} (hp:∀ d∈recsOf prg,d∈recsOf K.p) (hfree:∀ x∈bltNames,K.mg (Str.ofString x)=none):HasF K "_law_wins" 1 jag:=by
 refine q9 (d:=xcf) (lvl:=0) (hp _ (List.mem_iff_getElem?.mpr ⟨4,by kernel_rfl⟩)) (by kernel_rfl) (by kernel_rfl) (by kernel_rfl) (by kernel_rfl) (by decide) ?_ ?_ ?_
 ·intro pm code doc ws h;refine qb (len1 h) fun a0 o_280=>?_;obtain rfl:=o_280
  rfl
 ·intro n y hy;simp only [List.mem_cons,List.not_mem_nil,or_false] at hy;subst hy
  ·exact .inl (by kernel_rfl)
 ·intro pm code doc L fa A hr fk;show yj K _ _ yag
  exact (ka (zc _ (ga "size" _ fk (by kernel_rfl)) (qe fk jx _ (qd 4 _ _) (qe fk gah _ (kc fk rfl (by kernel_rfl) (hfree "len" (by decide)) (by kernel_rfl) gi (qa (za fk "script" _) jb)) (qd 9 _ _)))) (ka (z5 fk ⟨rfl,rfl,by decide +kernel,by decide +kernel,(by intro x hx; (exfalso; exact nomatch hx)),(by intro x c h; (injection h))⟩ (ga "games" _ fk (by kernel_rfl)) (kc fk rfl (by kernel_rfl) (hfree "range" (by decide)) (by kernel_rfl) yu (qa (za fk "size" _) jb)) (fun C=>qv 4096 rfl (fun acc=>wci rfl rfl (test:=none) rfl) (ga "other" _ (FOk.comp fk rfl) (by kernel_rfl)) xt (fun l a=>ycj (FOk.comp fk rfl) (kc (FOk.comp fk rfl) rfl (by kernel_rfl) (hfree "range" (by decide)) (by kernel_rfl) yu (qa (za (FOk.comp fk rfl) "other" _) jb)) (qv 4096 rfl (fun acc=>ky rfl rfl (test:=none) rfl) (ga "one" _ (FOk.comp fk rfl) (by kernel_rfl)) xt (fun l a=>xu (FOk.comp fk rfl) (xz _ _ (qa (za (FOk.comp fk rfl) "one" _) (qa (za (FOk.comp fk rfl) "other" _) jb))) l a)) l a))) (ka (zc _ (ga "wins" _ fk (by kernel_rfl)) (qe fk zby _ (xac _ (qa (qd 0 _ _) jb)) (za fk "size" _))) (ka (z9 fk _ 4096 (kc fk rfl (by kernel_rfl) (hfree "range" (by decide)) (by kernel_rfl) yu (qa (kc fk rfl (by kernel_rfl) (hfree "len" (by decide)) (by kernel_rfl) gi (qa (za fk "games" _) jb)) jb)) (ga "k" _ fk (by kernel_rfl)) (jd (yac fk gb7 _ (za fk "wins" _) (gf fk _ (gf fk _ (za fk "games" _) (za fk "k" _)) (qe fk gah _ (qe fk jx _ (kc fk rfl (by kernel_rfl) (hfree "sum" (by decide)) (by kernel_rfl) wal (qa (j7 fk _ _ (za fk "script" _) (zad (za fk "k" _)) yp (zad (kc fk rfl (by kernel_rfl) (hfree "len" (by decide)) (by kernel_rfl) gi (qa (za fk "games" _) jb)))) jb)) (za fk "k" _)) (qd 2 _ _))) (qd 1 _ _)))) (ka (ga8 fk _ ["count", "to"] (xz _ _ (qa (qe fk gah _ (kc fk rfl (by kernel_rfl) (hfree "sum" (by decide)) (by kernel_rfl) wal (qa (za fk "script" _) jb)) (qe fk jx _ (za fk "size" _) (qd 1 _ _))) (qa (qe fk gah _ (qe fk ka8 _ (kc fk rfl (by kernel_rfl) (hfree "sum" (by decide)) (by kernel_rfl) wal (qa (za fk "script" _) jb)) (qe fk jx _ (za fk "size" _) (qd 1 _ _))) (za fk "size" _)) jb))) (by intro x hx; simp only [List.mem_cons,List.not_mem_nil,or_false] at hx; rcases hx with rfl | rfl <;> kernel_rfl)) (ka (z9 fk _ 4096 (kc fk rfl (by kernel_rfl) (hfree "range" (by decide)) (by kernel_rfl) yu (qa (za fk "size" _) jb)) (ga "one" _ fk (by kernel_rfl)) (jd (qn _ (zi fk wbv ki _ (za fk "one" _) (za fk "to" _)) (ka (zc _ (ga "some" _ fk (by kernel_rfl)) (kc fk rfl (by kernel_rfl) (hfree "min" (by decide)) (by kernel_rfl) xci (qa (za fk "count" _) (qa (gf fk _ (za fk "wins" _) (za fk "one" _)) jb)))) (ka (yac fk gan _ (za fk "wins" _) (za fk "one" _) (za fk "some" _)) (ka (yac fk gb7 _ (za fk "wins" _) (za fk "to" _) (za fk "some" _)) (jd (za9 fk gan "count" _ (by kernel_rfl) (za fk "some" _)))))) wj))) (jd (ji _ (za fk "wins" _)))))))))
noncomputable def qbk:V→M Unit:=(fun v=>setv "other" v)
noncomputable def xap:M Bool:=(do let a ← (do let o ← (getv "owed"); let i ← (getv "other"); getI o i); let b ← (do let o ← (getv "owed"); let i ← (getv "one"); getI o i); let c ← eqV a b; truV c)
noncomputable def kbk (l:Nat):M Unit:=(do let v ← (getv "other"); yl l v)
noncomputable def gb1 (l:Nat) (nxt:S→Nat→Option (Option V)):M Unit:=yq 4096 qbk xap (kbk l) nxt
noncomputable def xa0:M Fl:=(do let v ← (getv "one"); (fun v=>do let a ← (getv "order"); let b ← (do let a ← (do let vs ← (do let v ← (getv "ahead"); let vs ← (pure []:M (List V)); pure (v :: vs)); lenB vs); let b ← (do let vs ← (do let v ← (getv "level"); let vs ← (pure []:M (List V)); pure (v :: vs)); lenB vs); addV a b); setI a b v) v; pure .next:M Fl)
noncomputable def xbk:V→M Unit:=(fun v=>setv "other" v)
noncomputable def gap:M Bool:=(do let a ← (do let o ← (getv "owed"); let i ← (getv "other"); getI o i); let b ← (do let o ← (getv "owed"); let i ← (getv "one"); getI o i); let c ← gtV a b; truV c)
noncomputable def gbk (l:Nat):M Unit:=(do let v ← (getv "other"); yl l v)
noncomputable def zb2 (l:Nat) (nxt:S→Nat→Option (Option V)):M Unit:=yq 4096 xbk gap (gbk l) nxt
noncomputable def ga0:M Fl:=(seqM (do let v ← ((do let vs ← (do let v ← (getv "first"); let vs ← (do let v ← (getv "one"); let vs ← (pure []:M (List V)); pure (v :: vs)); pure (v :: vs)); gp vs) >>= zk ["one", "owed"] gb1); (fun v=>setv "level" v) v; pure .next:M Fl) xa0)
noncomputable def zaq:V→M Unit:=(fun v=>setc "one" v)
noncomputable def yaq:M Fl:=(seqM (do let v ← ((do let vs ← (do let v ← (getv "first"); let vs ← (do let v ← (do let vs ← (do let v ← (getv "owed"); let vs ← (pure []:M (List V)); pure (v :: vs)); lenB vs); let vs ← (pure []:M (List V)); pure (v :: vs)); pure (v :: vs)); gp vs) >>= zk ["one", "owed"] zb2); (fun v=>setv "ahead" v) v; pure .next:M Fl) ga0)
noncomputable def za1:M Fl:=(do let v ← (getv "order"); pure (.ret v):M Fl)
noncomputable def ya1:M Fl:=(seqM (do let v ← (do let vs ← (do let v ← (getv "first"); let vs ← (do let v ← (do let vs ← (do let v ← (getv "owed"); let vs ← (pure []:M (List V)); pure (v :: vs)); lenB vs); let vs ← (pure []:M (List V)); pure (v :: vs)); pure (v :: vs)); gp vs); jf v; forG (yf v) zaq yaq 4096 0) za1)
noncomputable def jac:M Fl:=(seqM (do let v ← (do let a ← (do let vs ← (do let v ← (pure V.none:M V); let vs ← (pure []:M (List V)); pure (v :: vs)); newL vs); let b ← (do let a ← (do let vs ← (do let v ← (getv "owed"); let vs ← (pure []:M (List V)); pure (v :: vs)); lenB vs); let b ← (getv "first"); subV a b); ka3 a b); (fun v=>setv "order" v) v; pure .next:M Fl) ya1)
noncomputable def wac:Fun:=funM ["owed", "first"] jac
noncomputable def gb6:DefRec:=xaf prg 8
theorem kbf {K:Glo} (hp:∀ d∈recsOf prg,d∈recsOf K.p) (hfree:∀ x∈bltNames,K.mg (Str.ofString x)=none):HasF K "_law_order" 1 wac:=by
 refine q9 (d:=gb6) (lvl:=0) (hp _ (List.mem_iff_getElem?.mpr ⟨5,by kernel_rfl⟩)) (by kernel_rfl) (by kernel_rfl) (by kernel_rfl) (by kernel_rfl) (by decide) ?_ ?_ ?_
 ·intro pm code doc ws h;refine qah (len2 h) fun a0 a1 o_281=>?_;obtain rfl:=o_281
  rfl
 ·intro n y hy;simp only [List.mem_cons,List.not_mem_nil,or_false] at hy
  rcases hy with rfl | rfl
  ·exact .inr ⟨by kernel_rfl,rfl⟩
  ·exact .inl (by kernel_rfl)
 ·intro pm code doc L fa A hr fk;show yj K _ _ jac
  exact (ka (zc _ (ga "order" _ fk (by kernel_rfl)) (qe fk zby _ (xac _ (qa (gbl _ _) jb)) (qe fk za3 _ (kc fk rfl (by kernel_rfl) (hfree "len" (by decide)) (by kernel_rfl) gi (qa (za fk "owed" _) jb)) (za fk "first" _)))) (ka (z9 fk _ 4096 (kc fk rfl (by kernel_rfl) (hfree "range" (by decide)) (by kernel_rfl) yr (qa (za fk "first" _) (qa (kc fk rfl (by kernel_rfl) (hfree "len" (by decide)) (by kernel_rfl) gi (qa (za fk "owed" _) jb)) jb))) (ybd "one" _ fk (by kernel_rfl) rfl) (ka (z5 fk ⟨rfl,rfl,by decide +kernel,by decide +kernel,(by intro x hx; simp only [List.mem_cons,List.not_mem_nil,or_false] at hx; rcases hx with rfl | rfl <;> exact ⟨by first | exact .inl (by rfl) | exact .inr (by rfl),wai (by kernel_rfl),fun c h=>h⟩),(qai (k9 rfl (k9 rfl zay)))⟩ (ga "ahead" _ fk (by kernel_rfl)) (kc fk rfl (by kernel_rfl) (hfree "range" (by decide)) (by kernel_rfl) yr (qa (za fk "first" _) (qa (kc fk rfl (by kernel_rfl) (hfree "len" (by decide)) (by kernel_rfl) gi (qa (za fk "owed" _) jb)) jb))) (fun C=>qv 4096 rfl (fun acc=>ky rfl rfl (test:=(some _)) rfl) (ga "other" _ (FOk.comp fk rfl) (by kernel_rfl)) (yai (zi (FOk.comp fk rfl) kbv ki _ (gf (FOk.comp fk rfl) _ (za (FOk.comp fk rfl) "owed" _) (za (FOk.comp fk rfl) "other" _)) (gf (FOk.comp fk rfl) _ (za (FOk.comp fk rfl) "owed" _) (za (FOk.comp fk rfl) "one" _)))) (fun l a=>xu (FOk.comp fk rfl) (za (FOk.comp fk rfl) "other" _) l a))) (ka (z5 fk ⟨rfl,rfl,by decide +kernel,by decide +kernel,(by intro x hx; simp only [List.mem_cons,List.not_mem_nil,or_false] at hx; rcases hx with rfl | rfl <;> exact ⟨by first | exact .inl (by rfl) | exact .inr (by rfl),wai (by kernel_rfl),fun c h=>h⟩),(qai (k9 rfl (k9 rfl zay)))⟩ (ga "level" _ fk (by kernel_rfl)) (kc fk rfl (by kernel_rfl) (hfree "range" (by decide)) (by kernel_rfl) yr (qa (za fk "first" _) (qa (za fk "one" _) jb))) (fun C=>qv 4096 rfl (fun acc=>ky rfl rfl (test:=(some _)) rfl) (ga "other" _ (FOk.comp fk rfl) (by kernel_rfl)) (yai (zi (FOk.comp fk rfl) jbv ki _ (gf (FOk.comp fk rfl) _ (za (FOk.comp fk rfl) "owed" _) (za (FOk.comp fk rfl) "other" _)) (gf (FOk.comp fk rfl) _ (za (FOk.comp fk rfl) "owed" _) (za (FOk.comp fk rfl) "one" _)))) (fun l a=>xu (FOk.comp fk rfl) (za (FOk.comp fk rfl) "other" _) l a))) (jd (zc _ (g8 fk _ (za fk "order" _) (qe fk jx _ (kc fk rfl (by kernel_rfl) (hfree "len" (by decide)) (by kernel_rfl) gi (qa (za fk "ahead" _) jb)) (kc fk rfl (by kernel_rfl) (hfree "len" (by decide)) (by kernel_rfl) gi (qa (za fk "level" _) jb)))) (za fk "one" _)))))) (jd (ji _ (za fk "order" _)))))
noncomputable def xaj:V→M Unit:=(fun v=>setv "k" v)
noncomputable def gaj:M Fl:=(do if (← (do let a ← (do let vs ← (do let v ← (do let o ← (getv "least"); let i ← (do let a ← (pure V.none:M V); let b ← (getv "k"); let c ← (pure V.none:M V); pure (a,b,c)); qt o i); let vs ← (pure []:M (List V)); pure (v :: vs)); sumB vs); let b ← (do let a ← (do let a ← (getv "k"); let b ← (do let a ← (getv "k"); let b ← (pure (V.int 1):M V); subV a b); mulV a b); let b ← (pure (V.int 2):M V); yal a b); let c ← ltV a b; truV c))=true then (do let v ← (pure (V.bool true):M V); pure (.ret v):M Fl) else (pure .next:M Fl):M Fl)
noncomputable def jaq:M Fl:=(do let v ← (pure (V.bool false):M V); pure (.ret v):M Fl)
noncomputable def waq:M Fl:=(seqM (do let v ← (do let vs ← (do let v ← (pure (V.int 1):M V); let vs ← (do let v ← (do let vs ← (do let v ← (getv "wins"); let vs ← (pure []:M (List V)); pure (v :: vs)); lenB vs); let vs ← (pure []:M (List V)); pure (v :: vs)); pure (v :: vs)); gp vs); jf v; forG (yf v) xaj gaj 4096 0) jaq)
noncomputable def w3:M Fl:=(seqM (do let v ← (do let vs ← (do let v ← (getv "wins"); let vs ← (pure []:M (List V)); pure (v :: vs)); zah vs); (fun v=>setv "least" v) v; pure .next:M Fl) waq)
noncomputable def zo:Fun:=funM ["wins"] w3
noncomputable def kbq:DefRec:=xaf prg 9
theorem ya5 {K:Glo} (hp:∀ d∈recsOf prg,d∈recsOf K.p) (hfree:∀ x∈bltNames,K.mg (Str.ofString x)=none):HasF K "_law_refused" 1 zo:=by
 refine q9 (d:=kbq) (lvl:=0) (hp _ (List.mem_iff_getElem?.mpr ⟨6,by kernel_rfl⟩)) (by kernel_rfl) (by kernel_rfl) (by kernel_rfl) (by kernel_rfl) (by decide) ?_ ?_ ?_
 ·intro pm code doc ws h;refine qb (len1 h) fun a0 o_282=>?_;obtain rfl:=o_282
  rfl
 ·intro n y hy;simp only [List.mem_cons,List.not_mem_nil,or_false] at hy;subst hy
  ·exact .inl (by kernel_rfl)
 ·intro pm code doc L fa A hr fk;show yj K _ _ w3
  exact (ka (zc _ (ga "least" _ fk (by kernel_rfl)) (kc fk rfl (by kernel_rfl) (hfree "sorted" (by decide)) (by kernel_rfl) wbw (qa (za fk "wins" _) jb))) (ka (z9 fk _ 4096 (kc fk rfl (by kernel_rfl) (hfree "range" (by decide)) (by kernel_rfl) yr (qa (qd 1 _ _) (qa (kc fk rfl (by kernel_rfl) (hfree "len" (by decide)) (by kernel_rfl) gi (qa (za fk "wins" _) jb)) jb))) (ga "k" _ fk (by kernel_rfl)) (jd (qn _ (zi fk gac ki _ (kc fk rfl (by kernel_rfl) (hfree "sum" (by decide)) (by kernel_rfl) wal (qa (j7 fk _ _ (za fk "least" _) yp (zad (za fk "k" _)) yp) jb)) (qe fk ka8 _ (qe fk ya3 _ (za fk "k" _) (qe fk za3 _ (za fk "k" _) (qd 1 _ _))) (qd 2 _ _))) (jd (ji _ (wak true _ _))) wj))) (jd (ji _ (wak false _ _)))))
noncomputable def yb2:V→M Unit:=(fun v=>setv "one" v)
noncomputable def jb2:M Fl:=(augI (getv "owed") (getv "one") (pure (V.int 1):M V) xas)
noncomputable def jba:V→M Unit:=(fun v=>setv "one" v)
noncomputable def wba:M Bool:=(do let a ← (do let o ← (getv "owed"); let i ← (getv "one"); getI o i); let b ← (pure (V.int 1):M V); let c ← ltV a b; truV c)
noncomputable def xcs (l:Nat):M Unit:=(do let v ← (getv "one"); yl l v)
noncomputable def gdb (l:Nat) (nxt:S→Nat→Option (Option V)):M Unit:=yq 4096 jba wba (xcs l) nxt
noncomputable def zcm:M Fl:=(do let v ← (getv "won"); jf v; forG (yf v) yb2 jb2 4096 0)
noncomputable def wb2:M Fl:=(seqM (do if (← (do let a ← ((getv "won") >>= zk ["owed"] gdb); let b ← (do let vs ← (pure []:M (List V)); newL vs); let c ← neV a b; truV c))=true then (do let v ← (do let v ← (do let vs ← (do let v ← (getv "wins"); let vs ← (pure []:M (List V)); pure (v :: vs)); xh zo vs); if (← truV v)=true then (getv "fair") else pure v); pure (.ret v):M Fl) else (pure .next:M Fl):M Fl) zcm)
noncomputable def qb2:M Fl:=(seqM (do if (← (do let a ← (getv "won"); let b ← (do let o ← (do let vs ← (do let v ← (getv "owed"); let vs ← (do let v ← (do let a ← (getv "player"); let b ← (pure (V.int 1):M V); addV a b); let vs ← (pure []:M (List V)); pure (v :: vs)); pure (v :: vs)); xh wac vs); let i ← (do let a ← (pure V.none:M V); let b ← (getv "count"); let c ← (pure V.none:M V); pure (a,b,c)); qt o i); let c ← neV a b; truV c))=true then (do let v ← (pure (V.bool false):M V); (fun v=>setv "fair" v) v; pure .next:M Fl) else (pure .next:M Fl):M Fl) wb2)
noncomputable def kb2:M Fl:=(seqM (do let v ← (do let v ← (getv "count"); let w ← (getv "given"); let u ← (lamE 0 ["owed"]); xh (zr LM) [v,w,u]); (fun v=>setv "won" v) v; pure .next:M Fl) qb2)
noncomputable def ycm:M Fl:=(seqM (do let v ← (do if (← (do let a ← (do let a ← (getv "player"); let b ← (pure (V.int 2):M V); wab a b); let b ← (pure (V.int 1):M V); let c ← eqV a b; truV c))=true then (do let vs ← (do let v ← (getv "behind"); let vs ← (pure []:M (List V)); pure (v :: vs)); j3 vs) else (getv "behind")); (fun v=>setv "given" v) v; pure .next:M Fl) kb2)
noncomputable def jcm:M Fl:=(seqM (do let v ← (do let a ← (do let vs ← (do let v ← (getv "behind"); let vs ← (pure []:M (List V)); pure (v :: vs)); lenB vs); let b ← (do let o ← (getv "owed"); let i ← (getv "player"); getI o i); subV a b); (fun v=>setv "count" v) v; pure .next:M Fl) ycm)
noncomputable def wcm:M Fl:=(seqM (do if (← (do let a ← (do let o ← (getv "owed"); let i ← (getv "player"); getI o i); let b ← (do let vs ← (do let v ← (getv "behind"); let vs ← (pure []:M (List V)); pure (v :: vs)); lenB vs); let c ← gtV a b; truV c))=true then (do let v ← (do let v ← (do let vs ← (do let v ← (getv "wins"); let vs ← (pure []:M (List V)); pure (v :: vs)); xh zo vs); if (← truV v)=true then (getv "fair") else pure v); pure (.ret v):M Fl) else (pure .next:M Fl):M Fl) jcm)
noncomputable def zbo:V→M Unit:=(fun v=>setv "player" v)
noncomputable def ja1:M Fl:=(seqM (do let v ← (do let vs ← (do let v ← (do let vs ← (do let v ← (do let a ← (getv "player"); let b ← (pure (V.int 1):M V); addV a b); let vs ← (do let v ← (do let vs ← (do let v ← (getv "wins"); let vs ← (pure []:M (List V)); pure (v :: vs)); lenB vs); let vs ← (pure []:M (List V)); pure (v :: vs)); pure (v :: vs)); gp vs); let vs ← (pure []:M (List V)); pure (v :: vs)); wbf vs); (fun v=>setv "behind" v) v; pure .next:M Fl) wcm)
noncomputable def jb9:M Fl:=(do let v ← (do let v ← (do let a ← (do let vs ← (do let v ← (getv "wins"); let vs ← (pure []:M (List V)); pure (v :: vs)); xh zo vs); notV a); if (← truV v)=true then (getv "fair") else pure v); pure (.ret v):M Fl)
noncomputable def wb9:M Fl:=(seqM (do let v ← (do let vs ← (do let v ← (do let vs ← (do let v ← (getv "wins"); let vs ← (pure []:M (List V)); pure (v :: vs)); lenB vs); let vs ← (pure []:M (List V)); pure (v :: vs)); zu vs); jf v; forG (yf v) zbo ja1 4096 0) jb9)
noncomputable def qb9:M Fl:=(seqM (do let v ← (pure (V.bool true):M V); (fun v=>setv "fair" v) v; pure .next:M Fl) wb9)
noncomputable def kb9:M Fl:=(seqM (do let v ← (do let o ← (getv "wins"); let i ← (do let a ← (pure V.none:M V); let b ← (pure V.none:M V); let c ← (pure V.none:M V); pure (a,b,c)); qt o i); (fun v=>setc "owed" v) v; pure .next:M Fl) qb9)
noncomputable def gcf:M Fl:=(seqM (do let v ← (do let vs ← (do let v ← (getv "script"); let vs ← (pure []:M (List V)); pure (v :: vs)); xh jag vs); (fun v=>setv "wins" v) v; pure .next:M Fl) kb9)
noncomputable def xbf:Fun:=funM ["script"] gcf
theorem qcm {K:Glo} (hp:∀ d∈recsOf prg,d∈recsOf K.p) (hfree:∀ x∈bltNames,K.mg (Str.ofString x)=none) (hlam:K.lams=lams) (hlamQ:K.lamQ=lamQ) (hlamIn:K.lamIn=qbf.name) (h_law_order:HasF K "_law_order" 1 wac) (h_law_refused:HasF K "_law_refused" 1 zo) (h_law_wins:HasF K "_law_wins" 1 jag) (hnlargest:kbt K "nlargest" (Str.ofString "key") 5 (zr LM)):HasF K "law" 6 xbf:=by
 refine wcs (d:=qbf) (lvl:=5) (hp _ (List.mem_iff_getElem?.mpr ⟨7,by kernel_rfl⟩)) (by kernel_rfl) (by kernel_rfl) (by kernel_rfl) (by kernel_rfl) (by decide) hlamIn.symm ?_ ?_ ?_
 ·intro pm code doc ws h;refine qb (len1 h) fun a0 o_283=>?_;obtain rfl:=o_283
  rfl
 ·intro n y hy;simp only [List.mem_cons,List.not_mem_nil,or_false] at hy;subst hy
  ·exact .inl (by kernel_rfl)
 ·intro pm code doc L fa A hcode hr fk;show yj K _ _ gcf
  exact (ka (zc _ (ga "wins" _ fk (by kernel_rfl)) (km fk h_law_wins (hr.le (by decide)) (qa (za fk "script" _) jb))) (ka (zc _ (ybd "owed" _ fk (by kernel_rfl) rfl) (j7 fk _ _ (za fk "wins" _) yp yp yp)) (ka (zc _ (ga "fair" _ fk (by kernel_rfl)) (wak true _ _)) (ka (z9 fk _ 4096 (kc fk rfl (by kernel_rfl) (hfree "range" (by decide)) (by kernel_rfl) yu (qa (kc fk rfl (by kernel_rfl) (hfree "len" (by decide)) (by kernel_rfl) gi (qa (za fk "wins" _) jb)) jb)) (ga "player" _ fk (by kernel_rfl)) (ka (zc _ (ga "behind" _ fk (by kernel_rfl)) (kc fk rfl (by kernel_rfl) (hfree "list" (by decide)) (by kernel_rfl) xb6 (qa (kc fk rfl (by kernel_rfl) (hfree "range" (by decide)) (by kernel_rfl) yr (qa (qe fk jx _ (za fk "player" _) (qd 1 _ _)) (qa (kc fk rfl (by kernel_rfl) (hfree "len" (by decide)) (by kernel_rfl) gi (qa (za fk "wins" _) jb)) jb))) jb))) (ka (qn _ (zi fk kbv ki _ (gf fk _ (za fk "owed" _) (za fk "player" _)) (kc fk rfl (by kernel_rfl) (hfree "len" (by decide)) (by kernel_rfl) gi (qa (za fk "behind" _) jb))) (jd (ji _ (kal (qaw fk ki (km fk h_law_refused (hr.le (by decide)) (qa (za fk "wins" _) jb)) (waw (za fk "fair" _)))))) wj) (ka (zc _ (ga "count" _ fk (by kernel_rfl)) (qe fk za3 _ (kc fk rfl (by kernel_rfl) (hfree "len" (by decide)) (by kernel_rfl) gi (qa (za fk "behind" _) jb)) (gf fk _ (za fk "owed" _) (za fk "player" _)))) (ka (zc _ (ga "given" _ fk (by kernel_rfl)) (wbu _ (zi fk jbv ki _ (qe fk gah _ (za fk "player" _) (qd 2 _ _)) (qd 1 _ _)) (kc fk rfl (by kernel_rfl) (hfree "iter" (by decide)) (by kernel_rfl) zag (qa (za fk "behind" _) jb)) (za fk "behind" _))) (ka (zc _ (ga "won" _ fk (by kernel_rfl)) (wb5 fk hnlargest (hr.le (by decide)) (za fk "count" _) (za fk "given" _) (zcr fk (k:=0) (caps:=["owed"]) (by rw [hlam]; kernel_rfl) hcode (by rw [hlamQ]; kernel_rfl) ⟨rfl,(qai (k9 rfl zay)),(by intro x hx; simp only [List.mem_cons,List.not_mem_nil,or_false] at hx; rcases hx with rfl <;> exact ⟨wai (by kernel_rfl),fun c h=>h⟩)⟩))) (ka (qn _ (zi fk wbv ki _ (za fk "won" _) (j7 fk _ _ (km fk h_law_order (hr.le (by decide)) (qa (za fk "owed" _) (qa (qe fk jx _ (za fk "player" _) (qd 1 _ _)) jb))) yp (zad (za fk "count" _)) yp)) (jd (zc _ (ga "fair" _ fk (by kernel_rfl)) (wak false _ _))) wj) (ka (qn _ (zi fk wbv ki _ (wae fk ⟨rfl,rfl,by decide +kernel,by decide +kernel,(by intro x hx; simp only [List.mem_cons,List.not_mem_nil,or_false] at hx; rcases hx with rfl <;> exact ⟨by first | exact .inl (by rfl) | exact .inr (by rfl),wai (by kernel_rfl),fun c h=>h⟩),(qai (k9 rfl zay))⟩ (za fk "won" _) (fun C=>qv 4096 rfl (fun acc=>ky rfl rfl (test:=(some _)) rfl) (ga "one" _ (FOk.comp fk rfl) (by kernel_rfl)) (yai (zi (FOk.comp fk rfl) gac ki _ (gf (FOk.comp fk rfl) _ (za (FOk.comp fk rfl) "owed" _) (za (FOk.comp fk rfl) "one" _)) (qd 1 _ _))) (fun l a=>xu (FOk.comp fk rfl) (za (FOk.comp fk rfl) "one" _) l a))) (xac _ jb)) (jd (ji _ (kal (qaw fk ki (km fk h_law_refused (hr.le (by decide)) (qa (za fk "wins" _) jb)) (waw (za fk "fair" _)))))) wj) (jd (z9 fk _ 4096 (za fk "won" _) (ga "one" _ fk (by kernel_rfl)) (jd (yac fk gan _ (za fk "owed" _) (za fk "one" _) (qd 1 _ _))))))))))))) (jd (ji _ (kal (qaw fk ki (x8 fk kdb _ (km fk h_law_refused (hr.le (by decide)) (qa (za fk "wins" _) jb))) (waw (za fk "fair" _))))))))))
theorem has_all {K:Glo} (hp:∀ d∈recsOf prg,d∈recsOf K.p) (hpd:∀ d∈drecsOf prg,d∈drecsOf K.p) (hfree:∀ x∈bltNames,K.mg (Str.ofString x)=none) (hlam:K.lams=lams) (hlamQ:K.lamQ=lamQ) (hlamIn:K.lamIn=qbf.name):HasF K "law" 6 xbf:=by
 have hclo:∀ ow,q0 (K.adds ow) 1 LM:=fun ow=>xdb hlam hlamQ hfree;have h_siftdown:=ybk hp hfree;have h_siftup:=xb1 hp hfree h_siftdown;have hheapreplace:=za5 hp hfree h_siftup;have hheapify:=qbq hp hfree h_siftup;have hnlargest:=jbk hpd hfree hclo hheapify hheapreplace;have h_law_wins:=wbk hp hfree;have h_law_order:=kbf hp hfree;have h_law_refused:=ya5 hp hfree;have hlaw:=qcm hp hfree hlam hlamQ hlamIn h_law_order h_law_refused h_law_wins hnlargest;exact hlaw
end
section
theorem qba {α:Type} {P:List α→Prop} (h0:P []) (h1:∀ l x,P l→P (l ++ [x])) (l:List α):P l:=by
 have key:∀ m:List α,P m.reverse:=by
  intro m
  induction m with
  | nil=>exact h0
  | cons x m ih=>rw [List.reverse_cons]; exact h1 _ _ ih
 have:=key l.reverse
 rwa [List.reverse_reverse] at this
section
variable {α β:Type} (val:α→Int)
noncomputable def insD (x:α):List α→List α
 | []=>[x]
 | y :: r=>if val y < val x then x :: y :: r else y :: insD x r
noncomputable def y4 (a l:List α):List α:=l.foldl (fun b x=>insD val x b) a
noncomputable def gd (l:List α):List α:=y4 val [] l
noncomputable def kh (n:Nat) (l:List α):List α:=l.foldl (fun b x=>(insD val x b).take n) []
noncomputable def gm (b:List α):Prop:=b.Pairwise fun a c=>val c≤val a
noncomputable def geD (c:α) (b:List α):List α:=b.filter fun y => !decide (val y < val c)
noncomputable def ltFD (c:α) (b:List α):List α:=b.filter fun y=>decide (val y < val c)
variable {val}
theorem xb2 (x:α):insD val x []=[x]:=rfl
theorem wa1 (x y:α) (r:List α):insD val x (y :: r)=if val y < val x then x :: y :: r else y :: insD val x r:=rfl
theorem kcm (a:List α):y4 val a []=a:=rfl
theorem wag (a:List α) (x:α) (l:List α):y4 val a (x :: l)=y4 val (insD val x a) l:=rfl
theorem zcg (a l:List α) (x:α):y4 val a (l ++ [x])=insD val x (y4 val a l):=by unfold y4; rw [List.foldl_append]; rfl
theorem xam (l:List α) (x:α):gd val (l ++ [x])=insD val x (gd val l):=zcg ..
theorem qag (n:Nat) (l:List α) (x:α):kh val n (l ++ [x])=(insD val x (kh val n l)).take n:=by unfold kh; rw [List.foldl_append]; rfl
theorem ybo (x:α):∀ b:List α,(insD val x b).Perm (x :: b)
 | []=>List.Perm.refl _
 | y :: r=>by
  unfold insD
  split
  ·exact List.Perm.refl _
  ·exact ((ybo x r).cons y).trans (List.Perm.swap ..)
theorem gbf:∀ (l a:List α),(y4 val a l).Perm (a ++ l)
 | [],a=>by rw [kcm,List.append_nil]
 | x :: l,a=>by
  simp only [wag];refine (gbf l _).trans (((ybo x a).append_right l).trans ?_);simp only [List.cons_append];exact List.perm_middle.symm
theorem qi (l:List α):(gd val l).Perm l:=gbf l []
theorem j4 (l:List α):(gd val l).length=l.length:=(qi l).length_eq
theorem kba (f:β→α) (x:β):∀ b:List β,(insD (fun y=>val (f y)) x b).map f=insD val (f x) (b.map f)
 | []=>rfl
 | y :: r=>by
  simp only [wa1,List.map_cons,wa1]
  split
  ·rfl
  ·rw [List.map_cons,kba f x r]
theorem jbo (f:β→α):∀ (l a:List β),(y4 (fun y=>val (f y)) a l).map f=y4 val (a.map f) (l.map f)
 | [],a=>rfl
 | x :: l,a=>by simp only [wag,List.map_cons,wag,jbo f l,kba]
theorem zbg (f:β→α) (l:List β):(gd (fun y=>val (f y)) l).map f=gd val (l.map f):=jbo f l []
theorem wbo (x:α):∀ (n:Nat) (b:List α),(insD val x (b.take n)).take n=(insD val x b).take n
 | 0,b=>by simp
 | n + 1,[]=>by simp
 | n + 1,y :: r=>by
  simp only [List.take_succ_cons];unfold insD
  split
  ·simp only [List.take_succ_cons]
   cases n with
   | zero=>rfl
   | succ n=>simp only [List.take_succ_cons,List.take_take,Nat.min_eq_left (Nat.le_succ n)]
  ·simp only [List.take_succ_cons];rw [wbo x n r]
theorem qz (n:Nat) (l:List α):kh val n l=(gd val l).take n:=by
 have key:∀ (m:List α) (a b:List α),a=b.take n→m.foldl (fun b x=>(insD val x b).take n) a=(y4 val b m).take n:=by
  intro m
  induction m with
  | nil=>intro a b e; exact e
  | cons x m ih=>
   intro a b e;simp only [List.foldl_cons,wag]
   exact ih _ _ (by rw [e,wbo])
 exact key l [] [] (by simp)
theorem xcm {n:Nat} {l:List α} (h:l.length≤n):kh val n l=gd val l:=by
 rw [qz,List.take_of_length_le (by rw [j4]; exact h)]
theorem j8 (n:Nat) (l:List α):(kh val n l).length=min n l.length:=by simp only [qz,List.length_take,j4]
theorem gm.split {b:List α} (h:gm val b) (c:α):b=geD val c b ++ ltFD val c b:=by
 induction b with
 | nil=>rfl
 | cons y r ih=>
  have hr:=(List.pairwise_cons.mp h).2;have h1:=(List.pairwise_cons.mp h).1;unfold geD ltFD at ih ⊢
  by_cases hy:val y < val c
  ·have e:r.filter (fun y => !decide (val y < val c))=[]:=by
    simp only [List.filter_eq_nil_iff];intro a ha;have:=h1 a ha
    have:val a < val c:=by exact jcz this hy
    simp [this]
   have e2:r.filter (fun y=>decide (val y < val c))=r:=by
    simp only [List.filter_eq_self];intro a ha;have:=h1 a ha
    have:val a < val c:=by exact jcz this hy
    simp [this]
   simp [hy,e,e2]
  ·have:=ih hr;simp only [List.filter_cons,hy,decide_false,Bool.not_false,if_true,Bool.false_eq_true,if_false,List.cons_append];rw [← this]
theorem zbl {c:α}:∀ {g:List α} (r:List α),(∀ y∈g,¬ val y < val c)→insD val c (g ++ r)=g ++ insD val c r
 | [],r,_=>rfl
 | y :: g,r,h=>by
  rw [List.cons_append]
  show (if val y < val c then c :: y :: (g ++ r) else y :: insD val c (g ++ r))=_
  rw [if_neg (h y List.mem_cons_self),zbl r fun z hz=>h z (List.mem_cons_of_mem _ hz)]
  rfl
theorem xc7 {c:α} {r:List α} (h:∀ y∈r,val y < val c):insD val c r=c :: r:=by
 cases r with
 | nil=>rfl
 | cons y r=>show (if val y < val c then _ else _)=_; rw [if_pos (h y List.mem_cons_self)]
theorem qaq {c y:α} {b:List α} (h:y∈geD val c b):y∈b∧¬ val y < val c:=by
 have:=List.mem_filter.mp h
 exact ⟨this.1,by simpa using this.2⟩
theorem kaq {c y:α} {b:List α} (h:y∈ltFD val c b):y∈b∧val y < val c:=by
 have:=List.mem_filter.mp h
 exact ⟨this.1,by simpa using this.2⟩
theorem gm.ins_eq {b:List α} (h:gm val b) (c:α):insD val c b=geD val c b ++ c :: ltFD val c b:=by
 conv=>lhs; rw [h.split c]
 rw [zbl _ fun y hy=>(qaq hy).2,xc7 fun y hy=>(kaq hy).2]
theorem gm.ins {b:List α} (h:gm val b) (c:α):gm val (insD val c b):=by
 rw [h.ins_eq c]
 have h0:gm val (geD val c b ++ ltFD val c b):=by rw [← h.split c]; exact h
 refine yt (List.pairwise_append.mp h0) fun h1 h2 h3=>?_;refine List.pairwise_append.mpr ⟨h1,List.pairwise_cons.mpr ⟨fun y hy=>?_,h2⟩,fun a ha d hd=>?_⟩
 ·have:=(kaq hy).2; exact ycx this
 ·rcases List.mem_cons.mp hd with rfl | hd
  ·have:=(qaq ha).2; lia
  ·exact h3 a ha d hd
theorem ybg:∀ {l a:List α},gm val a→gm val (y4 val a l)
 | [],a,h=>h
 | x :: l,a,h=>ybg (l:=l) (h.ins x)
theorem qx (l:List α):gm val (gd val l):=ybg List.Pairwise.nil
theorem gm.take {b:List α} (h:gm val b) (n:Nat):gm val (b.take n):=List.Pairwise.sublist (List.take_sublist ..) h
theorem jbg (n:Nat) (l:List α):gm val (kh val n l):=by rw [qz]; exact (qx l).take n
theorem qa1 (v:Nat→Int):∀ n:Nat,(gd v (List.range n)).Pairwise fun i j=>v j < v i∨(v i=v j∧i < j)
 | 0=>List.Pairwise.nil
 | n + 1=>by
  have ih:=qa1 v n;simp only [List.range_succ,xam,(qx _).ins_eq n]
  have h0:(geD v n (gd v (List.range n)) ++ ltFD v n (gd v (List.range n))).Pairwise fun i j=>v j < v i∨(v i=v j∧i < j):=by rw [← (qx _).split n]; exact ih
  refine yt (List.pairwise_append.mp h0) fun h1 h2 h3=>?_;refine List.pairwise_append.mpr ⟨h1,List.pairwise_cons.mpr ⟨fun y hy=>.inl (kaq hy).2,h2⟩,fun a ha d hd=>?_⟩
  rcases List.mem_cons.mp hd with rfl | hd
  ·refine kd (qaq ha) fun m1 m2=>?_
   have:a < d:=by
    have:=(qi (val:=v) (List.range d)).mem_iff.mp m1
    simpa using this
   by_cases he:v a=v d
   ·exact .inr ⟨he,this⟩
   ·exact .inl (by exact wcz m2 he)
  ·exact h3 a ha d hd
theorem ka1 {l:List α} {d:α}:l=(List.range l.length).map fun i=>l.getD i d:=by
 apply List.ext_getElem
 ·simp
 ·intro i h1 h2
  simp [List.getD_eq_getElem?_getD,h1]
theorem qav (l:List α) (d:α):gd val l=(gd (fun i=>val (l.getD i d)) (List.range l.length)).map fun i=>l.getD i d:=by
 simp only [zbg (val:=val) (fun i=>l.getD i d),← ka1]
theorem zb7 {v:Nat→Int} {n:Nat} {q:List Nat} (hp:q.Perm (List.range n)) (hs:q.Pairwise fun i j=>v j < v i∨(v i=v j∧i < j)):q=gd v (List.range n):=by
 refine List.Perm.eq_of_pairwise (le:=fun i j=>v j < v i∨(v i=v j∧i < j)) (fun a b zZ zZ h1 h2=>?_) hs (qa1 v n) (hp.trans (qi _).symm)
 lia
end
end
section
theorem xa7 {ds:List PyData} {vs:List V} (ok:okS ds=true) (hl:ds.length=vs.length):∃ q:List Nat,q.Perm (List.range vs.length)∧revS ds vs=q.map (fun i=>vs.getD i V.none)∧
  q.Pairwise fun i j=>btOf ltD ds j i=true∨(btOf ltD ds i j=false∧btOf ltD ds j i=false∧i < j):=by
 refine xj (kao ok) fun zZ zZ hA zZ=>?_;unfold revS
 by_cases h2:vs.length < 2
 ·rw [if_pos h2];refine (gc (List.range vs.length) (List.Perm.refl _) ka1 ?_)
  match vs,h2 with
  | [],_=>exact List.Pairwise.nil
  | [a],_=>exact List.pairwise_singleton ..
 ·rw [if_neg h2];rw [hl] at hA
  obtain ⟨s1,s2,s3⟩:=gbh hA (by exact jcc h2)
  unfold qbt;rw [List.length_reverse]
  generalize (krun (btOf ltD ds.reverse) (kas_sort vs.length)).toList=p at s2 s3
  have hlt:∀ i∈p,i < vs.length:=fun i hi=>by simpa using s2.mem_iff.mp hi
  refine (gc ((p.map fun i=>vs.length - 1 - i).reverse) ?_ ?_ ?_)
  ·refine (List.reverse_perm _).trans ((s2.map _).trans ?_)
   have e:(List.range vs.length).map (fun i=>vs.length - 1 - i)=(List.range vs.length).reverse:=by
    apply List.ext_getElem
    ·simp
    ·intro i h1 h2
     simp at h1 ⊢
   rw [e]; exact List.reverse_perm _
  ·rw [List.map_reverse,List.map_map]
   congr 1
   refine List.map_congr_left fun i hi=>?_;exact y5 (hlt i hi)
  ·simp only [List.pairwise_reverse,List.pairwise_map];refine s3.imp_of_mem fun {a b} ha hb h=>?_
   have e1:=qr (ds:=ds) (i:=a) (j:=b) (by have:=hlt a ha; exact nL65 this hl) (by have:=hlt b hb; exact nL65 this hl)
   have e2:=qr (ds:=ds) (i:=b) (j:=a) (by have:=hlt b hb; exact nL65 this hl) (by have:=hlt a ha; exact nL65 this hl)
   rw [hl] at e1 e2;have:=hlt a ha;have:=hlt b hb
   rcases h with h | ⟨h1,h2,h3⟩
   ·exact .inl (by rw [← e1]; exact h)
   ·exact .inr ⟨by rw [← e2]; exact h2,by rw [← e1]; exact h1,by exact zdt this h3⟩
theorem zdc {ds:List PyData} (hs:ja4 ds=true) (hall:zao ltD ds=true) (hA:Ask ds.length (btOf ltD ds)) (h64:ds.length < 64):okS ds=true:=by
 unfold okS;rw [hs,hall,wc7]
 ·simpa using h64
 ·refine ⟨fun i j hi hj e=>?_,fun i j k hi hj hk e1 e2=>?_⟩
  ·rw [qr hi hj] at e;rw [qr hj hi]
   exact hA.asymm _ _ (by exact gcc hj) (by exact qcz hj) e
  ·rw [qr hj hi] at e1;rw [qr hk hj] at e2;rw [qr hk hi]
   exact hA.trans _ _ _ (by exact gcc hk) (by exact gcc hk) (by exact qcz hk) e1 e2
theorem qat {us:List V} {i:Nat} (h:i < us.length):us.getD i V.none∈us:=by
 rw [List.getD_eq_getElem?_getD,List.getElem?_eq_getElem h]; exact List.getElem_mem h
theorem ycg {ds:List PyData} {vs:List V} {val:V→Int} (ok:okS ds=true) (hl:ds.length=vs.length) (h:∀ i j,i < vs.length→j < vs.length→btOf ltD ds i j=decide (val (vs.getD i .none) < val (vs.getD j .none))) :
  revS ds vs=gd val vs:=by
 refine yd (xa7 ok hl) fun q q1 q2 q3=>?_;rw [q2,qav vs V.none,zb7 (v:=fun i=>val (vs.getD i V.none)) q1];refine q3.imp_of_mem fun {a b} ha hb h'=>?_
 have la:a < vs.length:=by simpa using q1.mem_iff.mp ha
 have lb:b < vs.length:=by simpa using q1.mem_iff.mp hb
 rw [h a b la lb,h b a lb la] at h';simp only [decide_eq_true_eq,decide_eq_false_iff_not] at h'
 omega
theorem yb7 {ds:List PyData} {vs ws:List V} {dec:V→List Int} (ok:okS ds=true) (hl:ds.length=vs.length) (h:∀ i j,i < vs.length→j < vs.length→btOf ltD ds i j=lexB (dec (vs.getD i .none)) (dec (vs.getD j .none)))
  (hp:vs.Perm ws) (hs:ws.Pairwise fun a b=>lexB (dec b) (dec a)=true):revS ds vs=ws:=by
 refine yd (xa7 ok hl) fun q q1 q2 q3=>?_
 have hperm:(revS ds vs).Perm vs:=by
  rw [q2]
  conv=>rhs; rw [ka1 (l:=vs) (d:=V.none)]
  exact q1.map _
 have hsort:(revS ds vs).Pairwise fun a b=>lexB (dec a) (dec b)=false:=by
  rw [q2,List.pairwise_map];refine q3.imp_of_mem fun {a b} ha hb h'=>?_
  have la:a < vs.length:=by simpa using q1.mem_iff.mp ha
  have lb:b < vs.length:=by simpa using q1.mem_iff.mp hb
  rw [h a b la lb,h b a lb la] at h'
  rcases h' with h' | h'
  ·exact x7 _ _ h'
  ·exact h'.1
 refine List.Perm.eq_of_pairwise (le:=fun a b=>lexB (dec a) (dec b)=false) (fun a b ha hb h1 h2=>?_) hsort (hs.imp fun h=>x7 _ _ h) (hperm.trans hp)
 by_cases hab:a=b
 ·exact hab
 ·exfalso;have ha':a∈ws:=(hperm.trans hp).mem_iff.mp ha
  have key:∀ (l:List V),l.Pairwise (fun a b=>lexB (dec b) (dec a)=true)→∀ a∈l,∀ b∈l,a≠b→lexB (dec a) (dec b)=true∨lexB (dec b) (dec a)=true:=by
   intro l hl
   induction hl with
   | nil=>intro a ha; (exfalso; exact nomatch ha)
   | cons h1 _ ih=>
    intro a ha b hb hne
    rcases List.mem_cons.mp ha with rfl | ha2
    ·rcases List.mem_cons.mp hb with rfl | hb2
     ·exact absurd rfl hne
     ·exact .inr (h1 b hb2)
    ·rcases List.mem_cons.mp hb with rfl | hb2
     ·exact .inl (h1 a ha2)
     ·exact ih a ha2 b hb2 hne
  rcases key ws hs a ha' b hb hab with h3 | h3
  ·rw [h1] at h3; (injection h3)
  ·rw [h2] at h3; (injection h3)
end
section
structure EntOk (val tv:V→Int) (ent:V→Int→V) (dec:V→List Int):Prop where
 decE:∀ x o,dec (ent x o)=[val x,o,tv x]
noncomputable def ltE (dec:V→List Int) (a b:V):Bool:=lexB (dec a) (dec b)
theorem swoE (P:V→Prop) (dec:V→List Int):SWO P (ltE dec):=⟨fun a b zZ zZ h=>x7 _ _ h,fun a b c zZ zZ zZ h1 h2=>gas _ _ _ h1 h2⟩
noncomputable def Beh (val:V→Int) (p q:V×Int):Prop:=val q.1 < val p.1∨(val q.1=val p.1∧q.2 < p.2)
section
variable {val tv:V→Int} {ent:V→Int→V} {dec:V→List Int}
theorem kd5 {a b c a' b' c':Int}:lexB [a,b,c] [a',b',c']=true↔a < a'∨(a=a'∧(b < b'∨(b=b'∧c < c'))):=by
 unfold lexB lexB lexB lexB
 by_cases h1:a=a' <;> by_cases h2:b=b' <;> by_cases h3:c=c' <;> simp [h1,h2,h3]
theorem EntOk.beh (E:EntOk val tv ent dec) {p q:V×Int} (h:Beh val p q):lexB (dec (ent q.1 q.2)) (dec (ent p.1 p.2))=true:=by
 rw [E.decE,E.decE,kd5];unfold Beh at h
 lia
structure HInv (val:V→Int) (ent:V→Int→V) (dec:V→List Int) (items:List V) (n m:Nat) (H:List V) (o:Int) (L:List (V×Int)):Prop where
 perm:H.Perm (L.map fun p=>ent p.1 p.2)
 srt:L.Pairwise (Beh val)
 ord:∀ p∈L,o < p.2
 tops:L.map (·.1)=kh val n (items.take m)
 heap:jr (ltE dec) 0 H
theorem HInv.len {items:List V} {n m:Nat} {H:List V} {o:Int} {L:List (V×Int)} (h:HInv val ent dec items n m H o L) (hm:m≤items.length):H.length=min n m∧L.length=min n m:=by
 have h1:=h.perm.length_eq;rw [List.length_map] at h1;have h2:=congrArg List.length h.tops;rw [List.length_map,j8,List.length_take,Nat.min_eq_left hm] at h2;exact ydt h1 h2
theorem HInv.items {items:List V} {n m:Nat} {H:List V} {o:Int} {L:List (V×Int)} (h:HInv val ent dec items n m H o L):∀ p∈L,p.1∈items:=by
 intro p hp
 have:p.1∈kh val n (items.take m):=by rw [← h.tops]; exact List.mem_map_of_mem hp
 rw [qz] at this;have:=(qi _).mem_iff.mp (List.mem_of_mem_take this);exact List.mem_of_mem_take this
theorem HInv.mem {items:List V} {n m:Nat} {H:List V} {o:Int} {L:List (V×Int)} (h:HInv val ent dec items n m H o L):∀ a∈H,∃ x∈items,∃ o,a=ent x o:=by
 intro a ha;refine ya (List.mem_map.mp (h.perm.mem_iff.mp ha)) fun p hp o_284=>?_;clear ha;obtain rfl:=o_284;exact (jb7 p.1 (h.items p hp) p.2 rfl)
theorem HInv.top {items:List V} {n m:Nat} {H:List V} {o:Int} {L:List (V×Int)} (E:EntOk val tv ent dec) (h:HInv val ent dec items n m H o L) {L₀:List (V×Int)} {z:V×Int} (hL:L=L₀ ++ [z]):nth H 0=ent z.1 z.2:=by
 have hne:0 < H.length:=by rw [h.perm.length_eq,List.length_map,hL]; simp
 have hmin:=kcq (swoE (fun zZ=>True) dec) (fun zZ zZ=>trivial) h.heap;have h0:nth H 0∈H:=xi hne;refine ya (List.mem_map.mp (h.perm.mem_iff.mp h0)) fun p hp e=>?_;rw [← e];subst hL
 rcases List.mem_append.mp hp with hp' | hp'
 ·exfalso;have hb:=(List.pairwise_append.mp h.srt).2.2 p hp' z (List.mem_singleton.mpr rfl);have hz:ent z.1 z.2∈H:=h.perm.mem_iff.mpr (List.mem_map_of_mem (f:=fun p:V×Int=>ent p.1 p.2) (List.mem_append_right _ (List.mem_singleton.mpr rfl)));obtain ⟨j,hj,ej⟩:=List.mem_iff_getElem.mp hz;have h2:=hmin j hj;rw [kab hj,ej,← e] at h2;have h3:=E.beh hb;unfold ltE at h2;rw [h3] at h2; (injection h2)
 ·rw [List.mem_singleton.mp hp']
theorem HInv.stay {items:List V} {n m:Nat} {H:List V} {o:Int} {L:List (V×Int)} (h:HInv val ent dec items n m H o L) (hm:m < items.length) (hn:n≤m) {L₀:List (V×Int)} {z:V×Int} (hL:L=L₀ ++ [z]) (hx:¬ val z.1 < val items[m]):HInv val ent dec items n (m + 1) H o L:=by
 refine ⟨h.perm,h.srt,h.ord,?_,h.heap⟩
 have e:items.take (m + 1)=items.take m ++ [items[m]]:=by rw [List.take_add_one,List.getElem?_eq_getElem hm]; rfl
 have hlen:=(h.len (Nat.le_of_lt hm)).2;simp only [e,qag,← h.tops]
 have hd:gm val (L.map (·.1)):=by rw [h.tops]; exact jbg ..
 have hall:∀ y∈L.map (·.1),¬ val y < val items[m]:=by
  intro y hy;clear h;subst hL;rw [List.map_append] at hy hd
  rcases List.mem_append.mp hy with hy | hy
  ·have:=(List.pairwise_append.mp hd).2.2 y hy z.1 (by simp)
   lia
  ·simp at hy; subst hy; exact hx
 have:=zbl (val:=val) (c:=items[m]) (g:=L.map (·.1)) [] hall;rw [List.append_nil,xb2] at this
 rw [this,List.take_append_of_le_length (by rw [List.length_map]; exact jdt hn hlen),List.take_of_length_le (by rw [List.length_map]; exact kcz hlen)]
theorem gb2 {lt:V→V→Bool} {H:List V} {e:V} (h:jr lt 0 H):jr lt 1 (H.set 0 e):=by
 intro j h0 hj hp;rw [List.length_set] at hj
 rw [qf (by exact wdt hp),qf (by exact qdt hp)]
 exact h j h0 hj (by exact zcy)
theorem HInv.step {items:List V} {n m:Nat} {H:List V} {o:Int} {L:List (V×Int)} (h:HInv val ent dec items n m H o L) (E:EntOk val tv ent dec) (hm:m < items.length) (hn:n≤m) {L₀:List (V×Int)} {z:V×Int} (hL:L=L₀ ++ [z]) (hx:val z.1 < val items[m]) :
  ∃ L',HInv val ent dec items n (m + 1) (su (ltE dec) (H.set 0 (ent items[m] o)) 0) (o - 1) L':=by
 have e:items.take (m + 1)=items.take m ++ [items[m]]:=by rw [List.take_add_one,List.getElem?_eq_getElem hm]; rfl
 have hlen:=h.len (Nat.le_of_lt hm)
 have hv:gm (fun p:V×Int=>val p.1) L:=by
  have:gm val (L.map (·.1)):=by rw [h.tops]; exact jbg ..
  exact List.pairwise_map.mp this
 have htop:=h.top E hL;have hins:=hv.ins_eq (items[m],o)
 have hne:ltFD (fun p:V×Int=>val p.1) (items[m],o) L≠[]:=by
  intro q
  have:z∈ltFD (fun p:V×Int=>val p.1) (items[m],o) L:=List.mem_filter.mpr ⟨by rw [hL]; simp,by simpa using hx⟩
  rw [q] at this; (exfalso; exact nomatch this)
 have hsplit:=hv.split (items[m],o)
 generalize hA:geD (fun p:V×Int=>val p.1) (items[m],o) L=A at hins hsplit
 generalize hB:ltFD (fun p:V×Int=>val p.1) (items[m],o) L=B at hins hsplit hne
 have hBz:∃ B₀,B=B₀ ++ [z]∧L₀=A ++ B₀:=by
  have hb:=List.dropLast_concat_getLast hne;rw [hsplit,← hb,← List.append_assoc] at hL;have:=List.append_inj' hL rfl;refine (ja B.dropLast ?_ this.1.symm);have h2:=this.2;simp only [List.cons.injEq,and_true] at h2;rw [← h2]; exact hb.symm
 refine ya hBz fun B₀ o_285 hL0=>?_
 try clear hBz
 clear hne;obtain rfl:=o_285
 have htake:(insD (fun p:V×Int=>val p.1) (items[m],o) L).take n=A ++ (items[m],o) :: B₀:=by
  have hl:n=(A ++ (items[m],o) :: B₀).length:=by
   have:=hlen.2;rw [hL,hL0] at this
   simp at this ⊢; exact kdt this hn
  rw [hins,show A ++ (items[m],o) :: (B₀ ++ [z])=(A ++ (items[m],o) :: B₀) ++ [z] by simp,hl,List.take_left']
  rfl
 have hn0:0 < H.length:=by simp only [hlen.1,← hlen.2,hL]; simp
 refine ⟨A ++ (items[m],o) :: B₀,?_,?_,?_,?_,?_⟩
 ·refine (xa3 _ _ 0 (by rw [List.length_set]; exact hn0)).trans ?_
  obtain ⟨h0,r,rfl⟩ : ∃ h0 r,H=h0 :: r:=by
   cases H with
   | nil=>simp at hn0
   | cons a r=>exact (yaw a r rfl)
  have e0:h0=ent z.1 z.2:=htop;simp only [List.set_cons_zero];have hp:=h.perm;rw [hL,hL0,e0] at hp
  have hp2:(ent z.1 z.2 :: r).Perm (ent z.1 z.2 :: (A ++ B₀).map fun p=>ent p.1 p.2):=hp.trans (by
   rw [List.map_append]
   exact List.perm_append_comm)
  have hp3:=(List.perm_cons _).mp hp2;refine (hp3.cons _).trans ?_;rw [List.map_append,List.map_append,List.map_cons];exact List.perm_middle.symm
 ·have hs:=h.srt;rw [hsplit,← List.append_assoc] at hs;have hs2:=(List.pairwise_append.mp hs).1;refine yt (List.pairwise_append.mp hs2) fun s1 s2 s3=>?_;refine List.pairwise_append.mpr ⟨s1,List.pairwise_cons.mpr ⟨fun q hq=>?_,s2⟩,fun p hp q hq=>?_⟩
  ·have hq':q∈ltFD (fun p:V×Int=>val p.1) (items[m],o) L:=by rw [hB]; exact List.mem_append_left _ hq
   exact .inl (kaq hq').2
  ·rcases List.mem_cons.mp hq with rfl | hq
   ·have hp':p∈geD (fun p:V×Int=>val p.1) (items[m],o) L:=by rw [hA]; exact hp
    refine kd (qaq hp') fun m1 m2=>?_;have:=h.ord p m1;unfold Beh;dsimp only at m2 ⊢
    lia
   ·exact s3 p hp q hq
 ·intro p hp
  rcases List.mem_append.mp hp with hp | hp
  ·have hp':p∈geD (fun p:V×Int=>val p.1) (items[m],o) L:=by rw [hA]; exact hp
   have:=h.ord p (qaq hp').1;exact xcz this
  ·rcases List.mem_cons.mp hp with rfl | hp
   ·show o - 1 < o; lia
   ·have hq':p∈ltFD (fun p:V×Int=>val p.1) (items[m],o) L:=by rw [hB]; exact List.mem_append_left _ hp
    have:=h.ord p (kaq hq').1;exact xcz this
 ·simp only [e,qag,← h.tops,← htake,List.map_take,kba (val:=val) (fun p:V×Int=>p.1)]
 ·exact yb8 (swoE (fun zZ=>True) dec) _ 0 (fun zZ zZ=>trivial) (by rw [List.length_set]; exact hn0) (gb2 h.heap)
theorem HInv.start {items:List V} {n N:Nat} (E:EntOk val tv ent dec) (hN:N=min n items.length) :
  ∃ L,HInv val ent dec items n N (hpfy (ltE dec) (N / 2) ((List.range N).map fun j=>ent (items.getD j .none) (-(j:Int)))) (-(N:Int)) L:=by
 refine ⟨(gd (fun j=>val ((items.take N).getD j .none)) (List.range N)).map fun j=>(items.getD j .none,-(j:Int)),?_,?_,?_,?_,?_⟩
 ·refine (qbn _ _ _ (by simp; exact gcz)).trans ?_
  rw [List.map_map];exact ((qi _).map _).symm
 ·simp only [List.pairwise_map];refine (qa1 _ N).imp_of_mem fun {i j} hi hj h=>?_
  have hi':i < N:=by simpa using (qi _).mem_iff.mp hi
  have hj':j < N:=by simpa using (qi _).mem_iff.mp hj
  have ge:∀ i,i < N→(items.take N).getD i V.none=items.getD i .none:=by
   intro i hi;rw [List.getD_eq_getElem?_getD,List.getElem?_take_of_lt hi,List.getD_eq_getElem?_getD]
  rw [ge i hi',ge j hj'] at h;unfold Beh;dsimp only
  lia
 ·intro p hp;refine ya (List.mem_map.mp hp) fun j hj o_286=>?_;clear hp;obtain rfl:=o_286
  have:j < N:=by simpa using (qi _).mem_iff.mp hj
  show -(N:Int) < -(j:Int); omega
 ·have hl:(items.take N).length=N:=by rw [List.length_take]; exact xdt hN
  rw [xcm (by rw [hl]; exact kcz hN),qav (items.take N) V.none,hl,List.map_map]
  refine List.map_congr_left fun j hj=>?_
  have hj':j < N:=by simpa using (qi _).mem_iff.mp hj
  show items.getD j .none=_;rw [List.getD_eq_getElem?_getD,List.getD_eq_getElem?_getD,List.getElem?_take_of_lt hj']
 ·have hlen:((List.range N).map fun j=>ent (items.getD j .none) (-(j:Int))).length=N:=by simp
  refine kbn (swoE (fun zZ=>True) dec) _ _ (by rw [hlen]; exact gcz) (fun zZ zZ=>trivial) ?_
  have:=wbp (ltE dec) ((List.range N).map fun j=>ent (items.getD j .none) (-(j:Int)));rw [hlen] at this;exact this
end
end
section
noncomputable def elD (b:Bool) (t:Int):PyData:= .int t
theorem ybl (i j:Int):PyData.eqv (.int i) (.int j)=decide (i=j):=by
 simp only [PyData.eqv]; first | rfl | (by_cases h:i=j <;> simp [h])
theorem ydc (b:Bool) (t u:Int):ltD (elD b t) (elD b u)=some (decide (t < u)):=rfl
theorem jdc (b:Bool) (k k' t u o p:Int):ltD (.tuple [.int k,.int o,elD b t]) (.tuple [.int k',.int p,elD b u])=some (lexB [k,o,t] [k',p,u]):=by
 show (if PyData.eqv (.int k) (.int k')=true then (if PyData.eqv (.int o) (.int p)=true then (if PyData.eqv (.int t) (.int u)=true then some (decide (0 < 0)) else some (decide (t < u))) else some (decide (o < p))) else some (decide (k < k')))=_
 rw [ybl,ybl,ybl]
 by_cases h:k=k'
 ·by_cases h2:o=p
  ·by_cases h3:t=u <;> simp [h,h2,h3,lexB]
  ·simp [h,h2,lexB]
 ·simp [h,lexB]
theorem xba {α β:Type} {f:α→Option β} {g:α→β}:∀ {l:List α},(∀ a∈l,f a=some (g a))→mapO f l=some (l.map g)
 | [],_=>rfl
 | a :: l,h=>by
  unfold mapO;rw [h a List.mem_cons_self,xba fun b hb=>h b (List.mem_cons_of_mem _ hb)]
  rfl
theorem wdc {l:List V} {g:V→PyData} {i j:Nat} (hi:i < l.length) (hj:j < l.length):btOf ltD (l.map g) i j=(ltD (g (l.getD i .none)) (g (l.getD j .none))).getD false:=by
 unfold btOf;simp only [List.getElem?_map,List.getElem?_map,List.getElem?_eq_getElem hi,List.getElem?_eq_getElem hj,List.getD_eq_getElem?_getD,List.getD_eq_getElem?_getD,List.getElem?_eq_getElem hi,List.getElem?_eq_getElem hj]
 rfl
theorem xb9 {l:List V} {g:V→PyData} {dec:V→List Int} {c:Nat} (hc:c≠0) (h1:∀ a∈l,clsD (g a)=c) (h2:∀ a∈l,∀ b∈l,ltD (g a) (g b)=some (lexB (dec a) (dec b))) (h64:l.length < 64) :
  okS (l.map g)=true∧∀ i j,i < l.length→j < l.length→btOf ltD (l.map g) i j=lexB (dec (l.getD i .none)) (dec (l.getD j .none)):=by
 have hb:∀ i j,i < l.length→j < l.length→btOf ltD (l.map g) i j=lexB (dec (l.getD i .none)) (dec (l.getD j .none)):=by
  intro i j hi hj;rw [wdc hi hj,h2 _ (qat hi) _ (qat hj)]; rfl
 refine ⟨zdc ?_ ?_ ?_ (by rw [List.length_map]; exact h64),hb⟩
 ·cases l with
  | nil=>rfl
  | cons a l=>
   show (clsD (g a) != 0 && (l.map g).all fun e=>clsD e == clsD (g a))=true;rw [h1 a List.mem_cons_self,Bool.and_eq_true]
   refine ⟨by simpa using hc,?_⟩
   rw [List.all_map,List.all_eq_true];intro b hb
   simpa using h1 b (List.mem_cons_of_mem _ hb)
 ·unfold zao;rw [List.all_eq_true];intro x hx;simp only [List.all_eq_true];intro y hy;refine ya (List.mem_map.mp hx) fun a ha o_287=>?_;clear hx;obtain rfl:=o_287;refine ya (List.mem_map.mp hy) fun b hb' o_288=>?_;clear hy;obtain rfl:=o_288;rw [h2 a ha b hb']; rfl
 ·rw [List.length_map];refine ⟨fun i j hi hj e=>?_,fun i j k hi hj hk e1 e2=>?_⟩
  ·rw [hb i j hi hj] at e;rw [hb j i hj hi]; exact x7 _ _ e
  ·rw [hb j i hj hi] at e1;rw [hb k j hk hj] at e2;rw [hb k i hk hi]; exact gas _ _ _ e1 e2
theorem xc4 {a b:Int}:lexB [a] [b]=decide (a < b):=by
 unfold lexB lexB
 by_cases h:a=b
 ·subst h; simp
 ·simp [h]
noncomputable def entK (val:V→Int) (x:V) (o:Int):V:= .tup [.int (val x),.int o,x]
noncomputable def intV:V→Int
 | .int i=>i
 | _=>0
noncomputable def tupV:V→List V
 | .tup vs=>vs
 | _=>[]
noncomputable def decK (val tv:V→Int) (v:V):List Int:=[val ((tupV v).getD 2 .none),intV ((tupV v).getD 1 .none),tv ((tupV v).getD 2 .none)]
theorem xaq (val tv:V→Int):EntOk val tv (entK val) (decK val tv):=⟨fun zZ zZ=>rfl⟩
noncomputable def datK (b:Bool) (val tv:V→Int):V→PyData
 | .tup [_,.int o,x]=>.tuple [.int (val x),.int o,elD b (tv x)]
 | _=>.none
noncomputable def ElAt (st:gb) (b:Bool) (tv:V→Int) (x:V):Prop:= ∀ n,2≤n→toD st n x=some (elD b (tv x))
theorem gcs {st:gb} {b:Bool} {val tv:V→Int} {x:V} {o:Int} (h:ElAt st b tv x):toD st 6 (entK val x o)=some (datK b val tv (entK val x o)):=by
 show (mapO (toD st 5) [.int (val x),.int o,x]).map PyData.tuple=_;unfold mapO mapO mapO
 rw [h 5 (by exact yd5)]
 rfl
structure EntD (val tv:V→Int) (ent:V→Int→V) (dec:V→List Int) (dat:V→PyData) (b:Bool):Prop extends EntOk val tv ent dec where
 cls:∃ c,c≠0∧∀ x o,clsD (dat (ent x o))=c
 lt:∀ x o y p,ltD (dat (ent x o)) (dat (ent y p))=some (lexB (dec (ent x o)) (dec (ent y p)))
 toD:∀ (st:gb) x o,ElAt st b tv x→toD st 6 (ent x o)=some (dat (ent x o))
theorem gbt (b:Bool) (val tv:V→Int):EntD val tv (entK val) (decK val tv) (datK b val tv) b where
 toEntOk:=xaq val tv
 cls:=⟨3,by decide,fun zZ zZ=>rfl⟩
 lt:=fun x o y p=>jdc b _ _ _ _ _ _
 toD:=fun st x o h=>gcs h
section
variable {val tv:V→Int} {ent:V→Int→V} {dec:V→List Int} {dat:V→PyData} {b:Bool}
theorem EntD.ltAtL (E:EntD val tv ent dec dat b) {st:gb} {r:Nat} {items:List V} (h:∀ x∈items,∀ ws,ElAt (st.set r (.lst ws)) b tv x):gaf st r (fun a => ∃ x∈items,∃ o,a=ent x o) (ltE dec):=by
 rintro ws _ _ ⟨x,hx,o,rfl⟩ ⟨y,hy,p,rfl⟩ lo
 unfold ltV;rw [E.toD _ x o (h x hx ws),E.toD _ y p (h y hy ws)];dsimp only;rw [E.lt]
 rfl
theorem HInv.sorted {items:List V} {n m:Nat} {H:List V} {o:Int} {L:List (V×Int)} (h:HInv val ent dec items n m H o L) (E:EntD val tv ent dec dat b) (h64:H.length < 64):okS (H.map dat)=true∧revS (H.map dat) H=L.map fun p=>ent p.1 p.2:=by
 refine ya E.cls fun c hc hcl=>?_
 obtain ⟨k1,k2⟩:=xb9 (l:=H) (g:=dat) (dec:=dec) hc (fun a ha=>by refine ka2 (h.mem a ha) fun x zZ o o_289=>?_; obtain rfl:=o_289; exact hcl x o) (fun a ha b hb=>by
  refine ka2 (h.mem a ha) fun x zZ o o_290=>?_;clear ha;obtain rfl:=o_290;refine ka2 (h.mem b hb) fun y zZ p o_291=>?_;obtain rfl:=o_291
  exact E.lt x o y p) h64
 refine ⟨k1,yb7 k1 (by rw [List.length_map]) k2 h.perm ?_⟩
 simp only [List.pairwise_map];exact h.srt.imp fun hb=>E.beh hb
theorem zb3 {items:List V} {g:V→PyData} {val:V→Int} {bb:Bool} (hg:∀ x∈items,g x=elD bb (val x)) (h64:items.length < 64):okS (items.map g)=true∧revS (items.map g) items=gd val items:=by
 obtain ⟨k1,k2⟩:=xb9 (l:=items) (g:=g) (dec:=fun x=>[val x]) (c:=clsD (elD bb 0)) (by cases bb <;> decide) (fun a ha=>by rw [hg a ha]; cases bb <;> rfl) (fun a ha b hb=>by
  simp only [hg a ha,hg b hb,ydc,xc4]) h64
 refine ⟨k1,ycg k1 (by rw [List.length_map]) fun i j hi hj=>?_⟩
 rw [k2 i j hi hj,xc4]
end
end
section
section
variable {σ:S}
theorem gaq {st:gb} {n:Nat} {i:Int}:toD st (n + 1) (.int i)=some (.int i):=rfl
theorem qbo {st:gb} {n:Nat}:∀ ns:List Int,mapO (toD st (n + 1)) (ns.map V.int)=some (ns.map PyData.int)
 | []=>rfl
 | a :: ns=>by
  show mapO (toD st (n + 1)) (V.int a :: ns.map V.int)=_;unfold mapO;rw [gaq,qbo ns]
  rfl
theorem yb3 {st:gb} {n l:Nat} {ns:List Int} (h:st[l]?=some (.lst (ns.map V.int))):toD st (n + 2) (.obj l)=some (.list (ns.map PyData.int)):=by
 rw [toD];simp only [h];rw [qbo]; rfl
theorem ga7:∀ as bs:List Int,PyData.eqvAll (as.map PyData.int) (bs.map PyData.int)=decide (as=bs)
 | [],[]=>by simp [PyData.eqvAll]
 | [],_ :: _=>by simp [PyData.eqvAll]
 | _ :: _,[]=>by simp [PyData.eqvAll]
 | a :: as,b :: bs=>by
  simp only [List.map_cons,PyData.eqvAll,ga7 as bs,PyData.eqv]
  by_cases h:a=b
  ·subst h; simp
  ·simp [h]
theorem gcm {l k:Nat} {as bs:List Int} {Q:V→S→Prop} (h1:σ.st[l]?=some (.lst (as.map V.int))) (h2:σ.st[k]?=some (.lst (bs.map V.int))):MW (neV (.obj l) (.obj k)) σ Q↔Q (.bool (!decide (as=bs))) σ:=by
 refine yb ?_;unfold neV;rw [yb3 h1,yb3 h2];simp only [PyData.eqv,ga7]
theorem jb3 {a b:Int} {Q:V→S→Prop}:MW (eqV (.int a) (.int b)) σ Q↔Q (.bool (decide (a=b))) σ:=by
 refine yb ?_;unfold eqV;rw [gaq,gaq];simp only [PyData.eqv]
 rfl
theorem qdc {a b:Int} {Q:V→S→Prop}:MW (neV (.int a) (.int b)) σ Q↔Q (.bool (!decide (a=b))) σ:=by
 refine yb ?_;unfold neV;rw [gaq,gaq];simp only [PyData.eqv]
 rfl
theorem zcn {v:V} {Q:V→S→Prop}:MW (isV v .none) σ Q↔Q (.bool v.isNone) σ:=by
 refine yb ?_
 cases v <;> rfl
theorem kat:∀ ns:List Int,y3 (ns.map V.int)=some ns
 | []=>rfl
 | a :: ns=>by simp only [List.map_cons,y3,kat ns]; rfl
theorem ycn {l:Nat} {ns:List Int} {Q:V→S→Prop} (h:σ.st[l]?=some (.lst (ns.map V.int))) (hn:ns.length < 64) :
  MW (zah [.obj l]) σ Q↔Q (.obj σ.st.length) {σ with st:=σ.st ++ [.lst ((w0 ns).map V.int)]}:=by
 refine yb ?_;unfold zah;dsimp only;rw [h];dsimp only;rw [kat];dsimp only
 rw [if_pos (by simpa using hn)]
theorem jcg {α:Type} (vs:List α) (lo hi:Option Int):waf vs lo hi none=(vs.drop (lo.elim 0 (clipAt vs.length))).take (hi.elim vs.length (clipAt vs.length) - lo.elim 0 (clipAt vs.length)):=by
 unfold waf;rw [sliceBounds_plain];dsimp only;rw [sliceRange_one]
 generalize lo.elim 0 (clipAt vs.length)=a
 generalize hi.elim vs.length (clipAt vs.length) - a=n
 induction n generalizing a with
 | zero=>simp
 | succ n ih=>
  simp only [List.range_succ,List.map_append,List.filterMap_append,ih];simp only [List.map_cons,List.map_nil,List.filterMap_cons,List.filterMap_nil];rw [List.take_add_one,List.getElem?_drop]
  cases vs[a + n]? <;> rfl
theorem zct {l:Nat} {vs:List V} {a b:V} {lo hi:Option Int} {Q:V→S→Prop} (h:σ.st[l]?=some (.lst vs)) (ha:jv a=some lo) (hb:jv b=some hi) :
  MW (qt (.obj l) (a,b,.none)) σ Q↔Q (.obj σ.st.length) {σ with st:=σ.st ++ [.lst ((vs.drop (lo.elim 0 (clipAt vs.length))).take (hi.elim vs.length (clipAt vs.length) - lo.elim 0 (clipAt vs.length)))]}:=by
 refine yb ?_;have hn:jv V.none=some none:=rfl;unfold qt;dsimp only;rw [h,ha,hb,hn];dsimp only
 rw [if_neg (by simp),jcg]
end
section
variable {β:Type} {σ:S}
theorem w_eq {a b:Int} {f:V→M β} {Q:β→S→Prop} (k:MW (f (.bool (decide (a=b)))) σ Q):MW (eqV (.int a) (.int b) >>= f) σ Q:=jc.mpr (jb3.mpr k)
theorem w_ne {a b:Int} {f:V→M β} {Q:β→S→Prop} (k:MW (f (.bool (!decide (a=b)))) σ Q):MW (neV (.int a) (.int b) >>= f) σ Q:=jc.mpr (qdc.mpr k)
end
end
section
noncomputable def Pres (L:List Nat) (st st':gb):Prop:=st.length≤st'.length∧∀ k,k < st.length→k∉L→st'[k]?=st[k]?
theorem xd {st:gb} {l:Nat} {c:Cel} (h:st[l]?=some c):l < st.length:=(List.getElem?_eq_some_iff.mp h).1
theorem Pres.refl (L:List Nat) (st:gb):Pres L st st:=⟨Nat.le_refl _,fun zZ zZ zZ=>rfl⟩
theorem Pres.trans {L:List Nat} {a b c:gb} (x:Pres L a b) (y:Pres L b c):Pres L a c :=
 ⟨Nat.le_trans x.1 y.1,fun k hk hl=>(y.2 k (Nat.lt_of_lt_of_le hk x.1) hl).trans (x.2 k hk hl)⟩
theorem Pres.get {L:List Nat} {a b:gb} {k:Nat} {c:Cel} (x:Pres L a b) (h:a[k]?=some c) (hk:k∉L):b[k]?=some c:=(x.2 k (xd h) hk).trans h
theorem Pres.get0 {a b:gb} {k:Nat} {c:Cel} (x:Pres [] a b) (h:a[k]?=some c):b[k]?=some c:=x.get h (by simp)
theorem Pres.mono {L L':List Nat} {a b:gb} (x:Pres L a b) (h:∀ k∈L,k∈L'):Pres L' a b:=⟨x.1,fun k hk hl=>x.2 k hk fun q=>hl (h k q)⟩
theorem Pres.nil {L:List Nat} {a b:gb} (x:Pres [] a b):Pres L a b:=x.mono (by simp)
theorem Pres.app (L:List Nat) (st xs:gb):Pres L st (st ++ xs):=⟨by simp,fun k hk zZ=>List.getElem?_append_left hk⟩
theorem Pres.set {L:List Nat} {st:gb} {l:Nat} {c:Cel} (h:l∈L):Pres L st (st.set l c) :=
 ⟨by simp,fun k hk hl=>List.getElem?_set_ne (by rintro rfl; exact hl h)⟩
theorem gl {st:gb} {l:Nat} {c:Cel} (h:l < st.length):(st.set l c)[l]?=some c:=List.getElem?_set_self h
section
variable {σ:S}
theorem gba {vs:List V} {Q:V→S→Prop} (hn:vs.length≤1000000) (h:∀ k st',Pres [] σ.st st'→σ.st.length≤k→st'[k]?=some (.lst vs)→Q (.obj k) ⟨st',σ.lo⟩):MW (newL vs) σ Q :=
 (jb8 hn).mpr (h _ _ (Pres.app ..) (Nat.le_refl _) List.getElem?_concat_length)
theorem wcg {l:Nat} {ns:List Int} {Q:V→S→Prop} (hl:σ.st[l]?=some (.lst (ns.map V.int))) (hn:ns.length < 64)
  (h:∀ k st',Pres [] σ.st st'→σ.st.length≤k→st'[k]?=some (.lst ((w0 ns).map V.int))→Q (.obj k) ⟨st',σ.lo⟩):MW (zah [.obj l]) σ Q :=
 (ycn hl hn).mpr (h _ _ (Pres.app ..) (Nat.le_refl _) List.getElem?_concat_length)
theorem kbo {l:Nat} {vs:List V} {a b:V} {lo hi:Option Int} {ws:List V} {Q:V→S→Prop} (hl:σ.st[l]?=some (.lst vs)) (ha:jv a=some lo) (hb:jv b=some hi)
  (he:(vs.drop (lo.elim 0 (clipAt vs.length))).take (hi.elim vs.length (clipAt vs.length) - lo.elim 0 (clipAt vs.length))=ws)
  (h:∀ k st',Pres [] σ.st st'→σ.st.length≤k→st'[k]?=some (.lst ws)→Q (.obj k) ⟨st',σ.lo⟩):MW (qt (.obj l) (a,b,.none)) σ Q:=by
 subst he;exact (zct hl ha hb).mpr (h _ _ (Pres.app ..) (Nat.le_refl _) List.getElem?_concat_length)
theorem yae {g:Fun} {vs:List V} {v:V} {st':gb} {Q:V→S→Prop} (h:g vs σ.st = .ok v st') (q:Q v ⟨st',σ.lo⟩):MW (xh g vs) σ Q:=(yaa h).mpr q
end
theorem jah {params:List String} {body:M Fl} {vs:List V} {st:gb} {R:V→gb→Prop} (hl:vs.length=params.length)
  (h:MW body ⟨st,ke params vs⟩ (fun f σ'=>R (match f with | .ret u=>u | _=>.none) σ'.st)):∃ v st',funM params body vs st = .ok v st'∧R v st':=by
 refine jm h fun f σ' e h1=>?_
 try clear h
 exact (yh _ _ (wao hl ⟨f,σ',e,rfl,rfl⟩) h1)
theorem yct {n k:Nat}:clipAt n (k:Int)=min k n:=by
 unfold clipAt; rw [if_neg (Int.not_lt.mpr (Int.natCast_nonneg k))]; exact zc9
section
variable {σ:S}
theorem wb3 {l:Nat} {vs:List V} {y:Int} {Q:V→S→Prop} (b:Nat) (hl:σ.st[l]?=some (.lst vs)) (hy:y=b)
  (h:∀ k st',Pres [] σ.st st'→σ.st.length≤k→st'[k]?=some (.lst (vs.take b))→Q (.obj k) ⟨st',σ.lo⟩):MW (qt (.obj l) (.none,.int y,.none)) σ Q:=by
 subst hy;refine kbo (lo:=none) (hi:=some (b:Int)) hl rfl rfl ?_ h;simp only [Option.elim,yct]
 simp
end
section
variable {σ:S}
end
end
section
theorem zbb {nxt:S→Nat→Option (Option V)} {t:V→M Unit} {c:M Bool} {mi:M Unit} {Q:Unit→S→Prop} (N:Nat) (I:Nat→S→Prop)
  (hend:∀ σ,I N σ→nxt σ N=some none∧Q () σ)
  (h:∀ i σ,i < N→I i σ→∃ v,nxt σ i=some (some v)∧MW (t v) σ (fun zZ σ₁=>MW c σ₁ (fun b σ₂=>if b=true then MW mi σ₂ (fun zZ σ₃=>I (i + 1) σ₃) else I (i + 1) σ₂)))
  (n:Nat) (σ:S) (hn:N < n) (h0:I 0 σ):MW (yq n t c mi nxt) σ Q:=by
 unfold yq;simp only [jc]
 refine xad (Q:=fun zZ σ'=>MW (pure ()) σ' Q) N I (fun σ hI=>⟨(hend σ hI).1,xc.mpr (hend σ hI).2⟩) ?_ n 0 σ (Nat.zero_le _) (by exact zc0 hn) h0
 intro i σ hi hI;refine ya (h i σ hi hI) fun v e hw=>?_;refine (ja v e (hw.mono fun zZ σ₁ h1=>?_));unfold jl;simp only [jc];refine h1.mono fun b σ₂ h2=>?_
 cases b with
 | true=>
  simp only [if_true] at h2 ⊢;simp only [jc];exact h2.mono fun zZ σ₃ h3=>xc.mpr h3
 | false=>
  simp only [Bool.false_eq_true,if_false] at h2 ⊢;exact xc.mpr h2
theorem za8 {free:List String} {mc:Nat→(S→Nat→Option (Option V))→M Unit} {v:V} {σ:S} {Q:V→S→Prop} (hok:jf v σ = .ok () σ)
  (h:MW (mc σ.st.length (yf v)) ⟨σ.st ++ [.lst []],jo free σ.lo⟩ (fun zZ σ'=>Q (.obj σ.st.length) ⟨σ'.st,σ.lo⟩)):MW (zk free mc v) σ Q:=by
 refine jm h fun u σ' e q=>?_
 try clear h
 refine (yh (.obj σ.st.length) ⟨σ'.st,σ.lo⟩ ?_ q);unfold zk xq;rw [hok];dsimp only;rw [e]
noncomputable def xat (st st':gb):Prop:= ∀ k,k < st.length→st'[k]?=st[k]?
theorem gam {l:Nat} {vs:List V} {v:V} {σ:S} {Q:Unit→S→Prop} (h:σ.st[l]?=some (.lst vs)) (hl:l≠0) (hn:vs.length < 1000000) (q:Q () ⟨σ.st.set l (.lst (vs ++ [v])),σ.lo⟩):MW (yl l v) σ Q:=by
 unfold yl;simp only [jc];exact (gcj h hl hn).mpr (xc.mpr q)
theorem zan {free:List String} {mc:Nat→(S→Nat→Option (Option V))→M Unit} {t:V→M Unit} {c:M Bool} {e:M V} {n:Nat} {v0:V} {us:List V} {σ:S} {Q:V→S→Prop} (g:V→Option V)
  (hmc:∀ l nxt,mc l nxt=yq n t c (do let v ← e; yl l v) nxt)
  (hok:jf v0 σ = .ok () σ) (h0:0 < σ.st.length) (hnx:∀ σ' i,xat σ.st σ'.st→yf v0 σ' i=some us[i]?) (hn:us.length < n) (hn2:us.length < 1000000)
  (h:∀ v∈us,∀ σ',xat σ.st σ'.st→(∀ x∈free,σ'.lo x=σ.lo x)→MW (t v) σ' (fun zZ σ₁=>σ₁.st=σ'.st∧(∀ x∈free,σ₁.lo x=σ'.lo x)∧
   MW c σ₁ (fun b σ₂=>σ₂=σ₁∧(match g v with | none=>b=false | some w=>b=true∧MW e σ₁ (fun u σ₃=>u=w∧σ₃=σ₁)))))
  (q:∀ k st',Pres [] σ.st st'→σ.st.length≤k→st'[k]?=some (.lst (us.filterMap g))→Q (.obj k) ⟨st',σ.lo⟩):MW (zk free mc v0) σ Q:=by
 refine za8 hok ?_;rw [hmc]
 refine zbb us.length (fun i σ'=>σ'.st=σ.st ++ [.lst ((us.take i).filterMap g)]∧∀ x∈free,σ'.lo x=σ.lo x) ?_ ?_ n _ hn ⟨by simp,fun x hx=>by simp only [jo,if_pos hx]⟩
 ·rintro σ' ⟨e1,_⟩
  refine ⟨?_,?_⟩
  ·rw [hnx σ' _ (by rw [e1]; intro k hk; exact List.getElem?_append_left hk)]; simp
  ·rw [e1,List.take_length];exact q _ _ (Pres.app ..) (Nat.le_refl _) List.getElem?_concat_length
 ·rintro i σ' hi ⟨e1,e2⟩
  have hag:xat σ.st σ'.st:=by rw [e1]; intro k hk; exact List.getElem?_append_left hk
  refine (ja (us[i]) (by rw [hnx σ' i hag,List.getElem?_eq_getElem hi]) ?_)
  refine (h us[i] (List.getElem_mem hi) σ' hag e2).mono fun zZ σ₁ h1=>?_;refine yt h1 fun e3 e4 h2=>?_
  try clear h1
  refine h2.mono fun b σ₂ h3=>?_;obtain ⟨rfl,h3⟩:=h3
  have htake:us.take (i + 1)=us.take i ++ [us[i]]:=by rw [List.take_add_one,List.getElem?_eq_getElem hi]; rfl
  cases hg:g us[i] with
  | none=>
   rw [hg] at h3;simp only at h3;subst h3;simp only [Bool.false_eq_true,if_false];refine ⟨?_,fun x hx=>(e4 x hx).trans (e2 x hx)⟩;rw [e3,e1,htake,List.filterMap_append]
   simp [hg]
  | some w=>
   rw [hg] at h3;refine kd h3 fun o_296 h4=>?_
   try clear h3
   obtain rfl:=o_296;simp only [if_true];rw [jc];refine h4.mono fun u σ₃ h5=>?_;refine kd h5 fun o_297 o_298=>?_
   try clear h5
   obtain rfl:=o_297;clear h2 h4;obtain rfl:=o_298
   have hlt:((us.take i).filterMap g).length < 1000000:=by
    have h6:=List.length_filterMap_le g (us.take i);rw [List.length_take] at h6;exact gdt h6 hn2
   have hst:σ₃.st=σ.st ++ [.lst ((us.take i).filterMap g)]:=e3.trans e1
   refine gam (by rw [hst]; exact List.getElem?_concat_length) (by exact yc0 h0) hlt ⟨?_,fun x hx=>(e4 x hx).trans (e2 x hx)⟩
   dsimp only;rw [hst,htake,List.filterMap_append,List.set_append_right _ _ (Nat.le_refl _)]
   simp [hg]
theorem gb9 {l:Nat} {vs:List V} {st:gb} (h:st[l]?=some (.lst vs)):∀ (σ':S) i,xat st σ'.st→yf (.obj l) σ' i=some vs[i]?:=by
 intro σ' i hag;have:σ'.st[l]?=some (.lst vs):=(hag l (xd h)).trans h
 show (match σ'.st[l]? with | some (.lst vs)=>some vs[i]? | _=>none)=_
 rw [this]
theorem jae {a b c:Int} {σ:S} (h:Builtin.Range.small a b c=true):jf (.rng a b c) σ = .ok () σ:=by simp only [jf,h,if_true]
theorem qb3 {l:Nat} {vs:List V} {σ:S} (h:σ.st[l]?=some (.lst vs)):jf (.obj l) σ = .ok () σ:=wan h
end
section
section
variable {σ:S}
theorem xbo {n:Nat} {m:List V→M Unit} {vs:List V} {Q:Unit→S→Prop} (h:vs.length=n):MW (qm n m (.tup vs)) σ Q↔MW (m vs) σ Q:=by
 unfold qm; dsimp only; rw [if_pos h]
theorem qcg {m:List V→M Unit} {a b:V} {Q:Unit→S→Prop}:MW (qm 2 m (.tup [a,b])) σ Q↔MW (m [a,b]) σ Q:=xbo rfl
theorem wbg {m:List V→M Unit} {a b c:V} {Q:Unit→S→Prop}:MW (qm 3 m (.tup [a,b,c])) σ Q↔MW (m [a,b,c]) σ Q:=xbo rfl
theorem kz {m:V→M Unit} {ms:List V→M Unit} {v:V} {vs:List V} {Q:Unit→S→Prop}:MW (zt m ms (v :: vs)) σ Q↔MW (m v) σ (fun zZ σ'=>MW (ms vs) σ' Q):=by
 show MW (m v >>= fun zZ=>ms vs) σ Q↔_;rw [jc]
theorem qbg {l:Nat} {ns:List Int} {Q:V→S→Prop} (h:σ.st[l]?=some (.lst (ns.map V.int))):MW (sumB [.obj l]) σ Q↔Q (.int ns.sum) σ:=by
 refine yb ?_;simp only [sumB,h,kat]
theorem kb3 {l:Nat} {k:Int} {vs:List V} {Q:V→S→Prop} (h:σ.st[l]?=some (.lst vs)) (hk:0≤k∧k < 1000∧vs.length < 1000)
  (q:∀ j st',Pres [] σ.st st'→σ.st.length≤j→st'[j]?=some (.lst (List.replicate k.toNat vs).flatten)→Q (.obj j) ⟨st',σ.lo⟩):MW (ka3 (.obj l) (.int k)) σ Q:=by
 refine (yb (a:= .obj σ.st.length) (σ':={σ with st:=σ.st ++ [.lst (List.replicate k.toNat vs).flatten]}) ?_).mpr (q _ _ (Pres.app ..) (Nat.le_refl _) List.getElem?_concat_length)
 simp only [ka3,h,if_pos hk]
theorem jct {l:Nat} {vs:List V} (h:σ.st[l]?=some (.lst vs)) (i:Nat):yf (.obj l) σ i=some vs[i]?:=by
 show (match σ.st[l]? with | some (.lst vs)=>some vs[i]? | _=>none)=_
 rw [h]
end
theorem ybb {a b c:Int} (hc:0 < c):Builtin.Range.rangeSize a b c=if a < b then (b - a - 1) / c + 1 else 0:=by
 unfold Builtin.Range.rangeSize; rw [if_pos hc]
theorem yw {a b c:Int} (ha : -100000≤a∧a≤100000) (hb : -100000≤b∧b≤100000) (hc:0 < c∧c≤100000):Builtin.Range.small a b c=true:=by
 have hz:0≤Builtin.Range.rangeSize a b c∧Builtin.Range.rangeSize a b c≤300000:=by
  refine ⟨zai a b c,?_⟩;rw [ybb hc.1]
  split
  ·have:=Int.ediv_le_self (a:=b - a - 1) c (by exact nL30 (by assumption))
   lia
  ·lia
 unfold Builtin.Range.small;simp only [Bool.and_eq_true]
 refine ⟨⟨⟨⟨zm (by exact jc0 ha),zm (by exact jc0 hb)⟩,zm (by omega)⟩,zm (by lia)⟩,?_⟩
 simp only [Bool.or_eq_true]
 right
 rw [if_pos (by lia)]
 exact zm (by lia)
theorem gaa {a b:Int} {n:Nat} (σ:S) (i:Nat) (hn:n=(b - a).toNat):yf (.rng a b 1) σ i=some ((List.range n).map fun (j:Nat)=>V.int (a + j))[i]?:=by
 simp only [wbi];have h1:=qy a b 1
 rw [ybb (by exact wc3)] at h1
 have:qj a b 1=n:=by split at h1 <;> (first | lia | omega)
 rw [this]
 by_cases hi:i < n
 ·rw [if_pos hi]; simp [hi]
 ·rw [if_neg hi,List.getElem?_eq_none (by simp; exact nL2 hi)]
section
variable {σ:S}
end
end
section
section
variable {σ:S}
end
section
variable {σ:S}
end
end
section
theorem zca {nx:Nat→M (Option V)} {t:V→M Unit} {b:M Fl} {Q:Fl→S→Prop} (N:Nat) (I:Nat→S→Prop)
  (hend:∀ σ,I N σ→MW (nx N) σ (fun o σ'=>o=none∧Q .next σ'))
  (h:∀ i σ,i < N→I i σ→MW (nx i) σ (fun o σ₀ => ∃ v,o=some v∧MW (t v) σ₀ (fun zZ σ₁=>MW b σ₁ (fun f σ₂=>match f with | .next=>I (i + 1) σ₂ | .cont=>I (i + 1) σ₂ | .brk=>Q .next σ₂ | .ret v=>Q (.ret v) σ₂)))) :
  ∀ (n i:Nat) (σ:S),i≤N→N - i < n→I i σ→MW (forN nx t b n i) σ Q:=by
 intro n
 induction n with
 | zero=>intro i σ _ hk; (exfalso; exact zcc hk)
 | succ n ih=>
  intro i σ hi hk hI
  by_cases hN:i=N
  ·subst hN;refine yc (hend σ hI) fun o σ' e o_305 q=>?_;obtain rfl:=o_305;refine (yh .next σ' ?_ q);rw [forN]; dsimp only; rw [e]
  ·refine wrap fun G_ hG_=>?_
   obtain ⟨o,σ₀,e,v,e_1,hw⟩:=h i σ (by exact ycc hi hN) hI
   refine hG_ ?_;clear hG_ G_;obtain rfl:=e_1
   have key:MW (do
    t v
    match ← b with
    | .next=>forN nx t b n (i + 1)
    | .cont=>forN nx t b n (i + 1)
    | .brk=>pure .next
    | .ret v=>pure (.ret v)) σ₀ Q:=by
    rw [jc];refine hw.mono fun zZ σ₁ h1=>?_;simp only [jc];refine h1.mono fun f σ₂ hf=>?_
    cases f with
    | next=>exact ih (i + 1) σ₂ (by exact kbr hi hN) (by exact xbr hk hi hN) hf
    | cont=>exact ih (i + 1) σ₂ (by exact kbr hi hN) (by exact xbr hk hi hN) hf
    | brk=>exact xc.mpr hf
    | ret v=>exact xc.mpr hf
   refine jm key fun a σ' e2 q=>?_
   try clear key
   refine (yh a σ' ?_ q);rw [forN]; dsimp only; rw [e]; exact e2
theorem jcn {nx:Nat→M (Option V)} {t:V→M Unit} {c:M Bool} {mi:M Unit} {Q:Unit→S→Prop} (N:Nat) (I:Nat→S→Prop)
  (hend:∀ σ,I N σ→MW (nx N) σ (fun o σ'=>o=none∧Q () σ'))
  (h:∀ i σ,i < N→I i σ→MW (nx i) σ (fun o σ₀ => ∃ v,o=some v∧MW (t v) σ₀ (fun zZ σ₁=>MW c σ₁ (fun b σ₂=>if b=true then MW mi σ₂ (fun zZ σ₃=>I (i + 1) σ₃) else I (i + 1) σ₂))))
  (n:Nat) (σ:S) (hn:N < n) (h0:I 0 σ):MW (xw n t c mi nx) σ Q:=by
 unfold xw;simp only [jc]
 refine zca (Q:=fun zZ σ'=>MW (pure ()) σ' Q) N I (fun σ hI=>(hend σ hI).mono fun o σ' h=>⟨h.1,xc.mpr h.2⟩) ?_ n 0 σ (Nat.zero_le _) (by exact zc0 hn) h0
 intro i σ hi hI;refine (h i σ hi hI).mono fun o σ₀ h0=>?_;refine ya h0 fun v o_306 hw=>?_
 try clear h0
 obtain rfl:=o_306;refine (ja v rfl (hw.mono fun zZ σ₁ h1=>?_));unfold jl;simp only [jc];refine h1.mono fun b σ₂ h2=>?_
 cases b with
 | true=>
  simp only [if_true] at h2 ⊢;simp only [jc];exact h2.mono fun zZ σ₃ h3=>xc.mpr h3
 | false=>
  simp only [Bool.false_eq_true,if_false] at h2 ⊢;exact xc.mpr h2
theorem xb3 {free:List String} {mc:Nat→(Nat→M (Option V))→M Unit} {nx:Nat→M (Option V)} {σ:S} {Q:V→S→Prop}
  (h:MW (mc σ.st.length nx) ⟨σ.st ++ [.lst []],jo free σ.lo⟩ (fun zZ σ'=>Q (.obj σ.st.length) ⟨σ'.st,σ.lo⟩)):MW (zj free mc nx) σ Q:=by
 refine jm h fun u σ' e q=>?_
 try clear h
 refine (yh (.obj σ.st.length) ⟨σ'.st,σ.lo⟩ ?_ q);unfold zj;rw [e]
end
section
section
variable {σ:S} {l k0 j:Nat} {items:List V}
theorem jbl (hl:σ.st[l]?=some (.itr k0 j false)) (hk:σ.st[k0]?=some (.lst items)) (hl0:l≠0) (hj:j < items.length):gj l σ = .ok (some items[j]) ⟨σ.st.set l (.itr k0 (j + 1) false),σ.lo⟩:=by
 unfold gj;rw [hl];dsimp only
 rw [if_neg hl0,if_neg (by decide),hk]
 dsimp only;rw [List.getElem?_eq_getElem hj]
theorem wbl (hl:σ.st[l]?=some (.itr k0 j false)) (hk:σ.st[k0]?=some (.lst items)) (hl0:l≠0) (hj:items.length≤j):gj l σ = .ok none ⟨σ.st.set l (.itr k0 j true),σ.lo⟩:=by
 unfold gj;rw [hl];dsimp only
 rw [if_neg hl0,if_neg (by decide),hk]
 dsimp only;rw [List.getElem?_eq_none hj]
theorem gc7 (hl:σ.st[l]?=some (.itr k0 j true)) (hl0:l≠0):gj l σ = .ok none σ:=by
 unfold gj;rw [hl];dsimp only;rw [if_neg hl0,if_pos rfl]
theorem kag (n:Int):qj 0 (-n) (-1)=n.toNat:=by
 unfold qj Builtin.Range.rangeSize
 rw [if_neg (by decide)]
 split
 ·have:(0 - -n - 1) / -(-1)=n - 1:=by
   rw [show (-(-1):Int)=1 by decide,Int.ediv_one]; lia
  lia
 ·lia
theorem wcn {n:Int} (h : -100000≤n∧n≤100000):Builtin.Range.small 0 (-n) (-1)=true:=by
 have hz:0≤Builtin.Range.rangeSize 0 (-n) (-1)∧Builtin.Range.rangeSize 0 (-n) (-1)≤100000:=by
  have:=kag n;have h2:=qy 0 (-n) (-1)
  lia
 unfold Builtin.Range.small;simp only [Bool.and_eq_true]
 refine ⟨⟨⟨⟨zm (by exact gc2),zm (by omega)⟩,zm (by exact zc3)⟩,zm (by omega)⟩,?_⟩
 simp only [Bool.or_eq_true]
 right
 rw [if_neg (by exact xc2)]
 exact zm (by lia)
theorem kcg {free:List String} {mc:Nat→(Nat→M (Option V))→M Unit} {t:V→M Unit} {e:M V} {n N:Nat} {nI:Int} {Q:V→S→Prop} (g:Nat→V→V)
  (hmc:∀ l nx,mc l nx=xw n t (pure true) (do let v ← e; yl l v) nx) (hl:σ.st[l]?=some (.itr k0 0 false)) (hk:σ.st[k0]?=some (.lst items)) (hl0:l≠0) (hkl:k0≠l) (hN:N=min nI.toNat items.length)
  (hn:items.length < n) (hn2:items.length < 1000000) (hsm:Builtin.Range.small 0 (-nI) (-1)=true)
  (h:∀ (i:Nat) v,v∈items→∀ σ',(∀ x∈free,σ'.lo x=σ.lo x)→Pres [l] σ.st σ'.st→MW (t (.tup [.int (-(i:Int)),v])) σ' (fun zZ σ₁=>σ₁.st=σ'.st∧(∀ x∈free,σ₁.lo x=σ'.lo x)∧MW e σ₁ (fun u σ₃=>u=g i v∧σ₃.st=σ₁.st∧∀ x∈free,σ₃.lo x=σ₁.lo x)))
  (q:∀ st',Pres [l] σ.st st'→st'[σ.st.length]?=some (.lst ((List.range N).map fun i=>g i (items.getD i .none)))→st'[l]?=some (.itr k0 N (decide (items.length < nI.toNat)))→Q (.obj σ.st.length) ⟨st',σ.lo⟩) :
  MW (za4 (.rng 0 (-nI) (-1)) (.obj l) >>= zj free mc) σ Q:=by
 simp only [jc]
 refine (yb (a:=y8 0 (-nI) (-1) l) (σ':=σ) (by simp only [za4,hl,hsm,if_true])).mpr ?_
 refine xb3 ?_;rw [hmc];have hll:=xd hl;have hlk:=xd hk
 have base:∀ (d:Bool) (i:Nat) (r:List V),((σ.st.set l (.itr k0 i d)) ++ [Cel.lst r])[l]?=some (.itr k0 i d)∧((σ.st.set l (.itr k0 i d)) ++ [Cel.lst r])[k0]?=some (.lst items)∧((σ.st.set l (.itr k0 i d)) ++ [Cel.lst r])[σ.st.length]?=some (.lst r)∧Pres [l] σ.st ((σ.st.set l (.itr k0 i d)) ++ [Cel.lst r]):=by
  intro d i r;refine ⟨?_,?_,?_,?_⟩
  ·rw [List.getElem?_append_left (by rw [List.length_set]; exact hll),gl hll]
  ·rw [List.getElem?_append_left (by rw [List.length_set]; exact hlk),List.getElem?_set_ne (Ne.symm hkl)]; exact hk
  ·rw [← List.length_set (as:=σ.st) (i:=l) (a:= .itr k0 i d)]; exact List.getElem?_concat_length
  ·exact (Pres.set (List.mem_singleton.mpr rfl)).trans (Pres.app ..)
 refine jcn N (fun i σ'=>σ'.st=(σ.st.set l (.itr k0 i false)) ++ [.lst ((List.range i).map fun i=>g i (items.getD i .none))]∧∀ x∈free,σ'.lo x=σ.lo x) ?_ ?_ n _ (by lia) ⟨?_,fun x hx=>by simp only [jo,if_pos hx]⟩
 ·rintro σ' ⟨e1,_⟩
  refine xj (base false N ((List.range N).map fun i=>g i (items.getD i .none))) fun b1 b2 b3 b4=>?_;rw [← e1] at b1 b2 b3 b4
  by_cases hlt:N < nI.toNat
  ·have hd:decide (items.length < nI.toNat)=true:=by simp; lia
   rw [hd] at q
   have e2:y8 0 (-nI) (-1) l N σ' = .ok none ⟨σ'.st.set l (.itr k0 N true),σ'.lo⟩:=by
    unfold y8
    rw [kag,if_pos hlt,wbl b1 b2 hl0 (by lia)]
   refine (yb e2).mpr ⟨rfl,?_⟩;refine xj (base true N ((List.range N).map fun i=>g i (items.getD i .none))) fun c1 c2 c3 c4=>?_
   have e3:σ'.st.set l (.itr k0 N true)=(σ.st.set l (.itr k0 N true)) ++ [.lst ((List.range N).map fun i=>g i (items.getD i .none))]:=by
    rw [e1,List.set_append_left _ _ (by rw [List.length_set]; exact hll),List.set_set]
   show Q _ ⟨σ'.st.set l (.itr k0 N true),σ.lo⟩;rw [e3];exact q _ c4 c3 c1
  ·have hd:decide (items.length < nI.toNat)=false:=by simp; lia
   rw [hd] at q
   have e2:y8 0 (-nI) (-1) l N σ' = .ok none σ':=by
    unfold y8;rw [kag,if_neg hlt]
   exact (yb e2).mpr ⟨rfl,q _ b4 b3 b1⟩
 ·rintro i σ' hi ⟨e1,e1'⟩
  refine xj (base false i ((List.range i).map fun i=>g i (items.getD i .none))) fun b1 b2 b3 b4=>?_;rw [← e1] at b1 b2 b3 b4
  have hi2:i < items.length:=by lia
  have e2:y8 0 (-nI) (-1) l i σ' = .ok (some (.tup [.int (-(i:Int)),items[i]])) ⟨σ'.st.set l (.itr k0 (i + 1) false),σ'.lo⟩:=by
   unfold y8
   rw [kag,if_pos (by lia),jbl b1 b2 hl0 hi2]
   dsimp only
   have:(0:Int) + (i:Int) * -1 = -(i:Int):=by (first | lia | omega)
   rw [this]
  refine (yb e2).mpr (ja _ rfl ?_);refine xj (base false (i + 1) ((List.range i).map fun i=>g i (items.getD i .none))) fun c1 c2 c3 c4=>?_
  have e3:σ'.st.set l (.itr k0 (i + 1) false)=(σ.st.set l (.itr k0 (i + 1) false)) ++ [.lst ((List.range i).map fun i=>g i (items.getD i .none))]:=by
   rw [e1,List.set_append_left _ _ (by rw [List.length_set]; exact hll),List.set_set]
  refine (h i items[i] (List.getElem_mem hi2) ⟨σ'.st.set l (.itr k0 (i + 1) false),σ'.lo⟩ e1' (by show Pres [l] σ.st (σ'.st.set _ _); rw [e3]; exact c4)).mono fun zZ σ₁ h1=>?_
  refine yt h1 fun e4 e5 h2=>?_
  try clear h1
  rw [xc,if_pos rfl,jc];refine h2.mono fun u σ₃ h3=>?_;refine yt h3 fun o_309 e6 e7=>?_
  try clear h3
  obtain rfl:=o_309
  have hst:σ₃.st=(σ.st.set l (.itr k0 (i + 1) false)) ++ [.lst ((List.range i).map fun i=>g i (items.getD i .none))]:=by rw [e6,e4]; exact e3
  refine gam (by rw [hst]; exact c3) (by exact zdu hlk) (by simp; exact ydu hi2 hn2) ⟨?_,fun x hx=>(e7 x hx).trans ((e5 x hx).trans (e1' x hx))⟩
  dsimp only;rw [hst]
  have hset:∀ (A:gb) (c d:Cel),(A ++ [c]).set A.length d=A ++ [d]:=fun A c d=>by rw [List.set_append_right _ _ (Nat.le_refl _)]; simp
  have hlen:σ.st.length=(σ.st.set l (.itr k0 (i + 1) false)).length:=(List.length_set ..).symm;simp only [hlen,hset,List.range_succ,List.map_append]
  simp [List.getElem?_eq_getElem hi2]
 ·show σ.st ++ [Cel.lst []]=_
  have:σ.st.set l (.itr k0 0 false)=σ.st:=by
   refine List.ext_getElem? fun i=>?_
   by_cases hi:i=l
   ·clear hl0 hkl h q base;subst hi; rw [gl hll]; exact hl.symm
   ·rw [List.getElem?_set_ne (Ne.symm hi)]
  rw [this]; rfl
end
end
section
variable {LM:Nat→List V→Fun}
noncomputable def OutN (l:Nat) (st:gb) (out:List V) (it:Cel) (f:Fl) (σ':S):Prop:= ∃ r,f = .ret (.obj r)∧st.length≤r∧σ'.st[r]?=some (.lst out)∧Pres [l] st σ'.st∧σ'.st[l]?=some it
structure CtxN (l k0:Nat) (st₀:gb) (items:List V) (b:Bool) (tv:V→Int):Prop where
 len:0 < l∧l < st₀.length
 k0l:k0≠l
 k0:st₀[k0]?=some (.lst items)
 el:∀ st',Pres [l] st₀ st'→∀ x∈items,ElAt st' b tv x
 small:items.length≤1000
theorem Pres.setFresh {L:List Nat} {a b:gb} {r:Nat} {c:Cel} (x:Pres L a b) (h:a.length≤r):Pres L a (b.set r c) :=
 ⟨by rw [List.length_set]; exact x.1,fun k hk hl=>by rw [List.getElem?_set_ne (by exact ybs hk h)]; exact x.2 k hk hl⟩
theorem Pres.setIn {L:List Nat} {a b:gb} {r:Nat} {c:Cel} (x:Pres L a b) (h:r∈L):Pres L a (b.set r c) :=
 ⟨by rw [List.length_set]; exact x.1,fun k hk hl=>by rw [List.getElem?_set_ne (by rintro rfl; exact hl h)]; exact x.2 k hk hl⟩
end
section
variable {LM:Nat→List V→Fun}
end
local macro_rules | `(tactic| walk_at "mz") => `(tactic| ((repeat (first | (with_reducible first | apply kf | apply kda | apply w_as | apply we | apply yg | apply qg | apply jg | apply wg | apply zda | apply yda | apply w_lt | apply w_gt | apply w_ge | apply w_eq | apply jda | apply wda | apply qda | apply w_ne | apply w_if | apply ye | apply xg | apply gg) | ((with_reducible first | apply zg); · first | exact rfl | assumption))); try with_reducible apply kg))
section
variable {LM:Nat→List V→Fun}
structure CtxK (LM:Nat→List V→Fun) (l k0 lk:Nat) (st₀:gb) (items:List V) (b:Bool) (val tv:V→Int):Prop extends CtxN l k0 st₀ items b tv where
 key:∃ i cap,st₀[lk]?=some (.clo i cap)∧lk≠l∧∀ st',Pres [l] st₀ st'→∀ x∈items,LM i cap [x] st' = .ok (.int (val x)) st'
section
variable {l k0 lk:Nat} {st₀:gb} {items:List V} {b:Bool} {val tv:V→Int}
theorem CtxK.chk (C:CtxK LM l k0 lk st₀ items b val tv) {st:gb} {lo:String→Option V} (hp:Pres [l] st₀ st):chkF (.obj lk) ⟨st,lo⟩ = .ok () ⟨st,lo⟩:=by
 refine yc C.key fun i cap h1 h2 zZ=>?_;unfold chkF;dsimp only
 rw [hp.get h1 (by simpa using h2)]
theorem CtxK.run (C:CtxK LM l k0 lk st₀ items b val tv) {st:gb} {lo:String→Option V} (hp:Pres [l] st₀ st) {x:V} (hx:x∈items):keyF LM (.obj lk) [x] ⟨st,lo⟩ = .ok (.int (val x)) ⟨st,lo⟩:=by
 refine yc C.key fun i cap h1 h2 h3=>?_;unfold keyF;dsimp only
 rw [hp.get h1 (by simpa using h2)]
 dsimp only;unfold xh;rw [h3 st hp x hx]
end
noncomputable def gc4:V→Option V
 | .tup vs=>vs[2]?
 | _=>none
theorem sK2 {σ:S} {r:Nat} {val:V→Int} {L:List (V×Int)} (h0:σ.lo "result" = some (.obj r)) (hr:σ.st[r]?=some (.lst (L.map fun p=>entK val p.1 p.2))) (hn:L.length < 4000) {Q:Fl→S→Prop}
  (q:∀ k st',Pres [] σ.st st'→σ.st.length≤k→st'[k]?=some (.lst (L.map (·.1)))→Q (.ret (.obj k)) ⟨st',σ.lo⟩):MW (gab LM) σ Q:=by
 unfold gab;rw [jc,jc,je];refine (ja _ h0 ?_)
 refine zan (us:=L.map fun p=>entK val p.1 p.2) (n:=4096) gc4 (fun zZ zZ=>rfl) (qb3 hr) (by have:=xd hr; exact zak this) (gb9 hr) (by rw [List.length_map]; exact jdu hn) (by rw [List.length_map]; exact wdu hn) ?_ ?_
 ·intro v hv σ' _ _;refine ya (List.mem_map.mp hv) fun p hp o_317=>?_;obtain rfl:=o_317;show MW (qm 3 _ (.tup [.int (val p.1),.int p.2,p.1])) σ' _;rw [wbg,kz,jh,kz,jh,kz,jh,xc]
  refine ⟨rfl,fun x hx=>(by (exfalso; exact nomatch hx)),?_⟩
  show MW (pure true:M Bool) _ _;rw [xc];refine ⟨rfl,rfl,?_⟩;rw [je];exact (gc p.1 rfl rfl rfl)
 ·intro k st' h1 h2 h3;rw [xc];refine q k st' h1 h2 ?_;rw [h3]
  congr 2
  rw [List.filterMap_map]
  have:(gc4 ∘ fun p:V×Int=>entK val p.1 p.2)=fun p=>some p.1:=by funext p; rfl
  rw [this,show (fun p:V×Int=>some p.1)=some ∘ (fun p:V×Int=>p.1) from rfl,List.filterMap_eq_map]
theorem sK7 {σ:S} {r l k0 lk:Nat} {st₀:gb} {items:List V} {b:Bool} {val tv:V→Int} {n:Nat} {H:List V} {o:Int} {L:List (V×Int)} {it:Cel} (C:CtxK LM l k0 lk st₀ items b val tv)
  (I:HInv val (entK val) (decK val tv) items n items.length H o L) (h0:σ.lo "result" = some (.obj r)) (hr:σ.st[r]?=some (.lst H)) (hr0:st₀.length≤r) (hp:Pres [l] st₀ σ.st) (hit:σ.st[l]?=some it) (h64:min n items.length < 64) :
  MW (zac LM) σ (OutN l st₀ (kh val n items) it):=by
 have hlen:=I.len (Nat.le_refl _);have hl:=C.len;unfold zac;refine kf ?_;rw [jc,jc,je];refine (ja _ h0 ?_);rw [jc,wc6 hr]
 obtain ⟨k1,k2⟩:=I.sorted (gbt b val tv) (by exact qdu h64 hlen)
 have hd:mapO (toD (σ.st.set r (.lst [])) 6) H=some (H.map (datK b val tv)):=xba fun a ha=>by
  refine ka2 (I.mem a ha) fun x hx o o_318=>?_;obtain rfl:=o_318;exact (gbt b val tv).toD _ x o (C.el _ (hp.setFresh hr0) x hx)
 have e:xv (.obj r) σ = .ok .none {σ with st:=σ.st.set r (.lst (L.map fun p=>entK val p.1 p.2))}:=by
  unfold xv
  try dsimp only
  rw [if_neg (by exact kdu hl hr0),hr]
  try dsimp only
  rw [hd]
  try dsimp only
  rw [if_pos k1,k2]
 refine (yb e).mpr ?_
 walk_at "mz"
 show MW (gab LM) ⟨σ.st.set r (.lst (L.map fun p=>entK val p.1 p.2)),σ.lo⟩ _
 refine sK2 (σ:=⟨σ.st.set r (.lst (L.map fun p=>entK val p.1 p.2)),σ.lo⟩) (r:=r) (L:=L) h0 (gl (xd hr)) (by exact xdu h64 hlen) fun k st' q1 q2 q3=>?_
 have p1:Pres [l] st₀ (σ.st.set r (.lst (L.map fun p=>entK val p.1 p.2))):=hp.setFresh hr0;refine (w5 k rfl ?_ ?_ (p1.trans q1.nil) ?_)
 ·have h1:=hp.1;rw [List.length_set] at q2;exact nL57 h1 q2
 ·rw [q3,I.tops,List.take_length]
 ·refine q1.get0 ?_;show (σ.st.set r _)[l]?=_
  rw [List.getElem?_set_ne (by exact zcd hl hr0)]; exact hit
structure LoopK (l k0 lk r:Nat) (st₀:gb) (items:List V) (val tv:V→Int) (n N i:Nat) (σ:S):Prop where
 pres:Pres [l] st₀ σ.st
 res:σ.lo "result" = some (.obj r)
 hr:σ.lo "_heapreplace" = some (.fn "heapreplace")
 hk:σ.lo "key" = some (.obj lk)
 it:∃ d,σ.st[l]?=some (.itr k0 (N + i) d)∧(d=true→items.length≤N + i)
 inv:∃ H o L,HInv val (entK val) (decK val tv) items n (N + i) H o L∧σ.st[r]?=some (.lst H)∧σ.lo "order" = some (.int o)∧∃ L₀ z,L=L₀ ++ [z]∧σ.lo "top" = some (.int (val z.1))
theorem sK6 {σ:S} {r l k0 lk i N n:Nat} {st₀:gb} {items:List V} {b:Bool} {val tv:V→Int} (C:CtxK LM l k0 lk st₀ items b val tv) (hr0:st₀.length≤r) (hN:N=min n items.length) (hi:N + i < items.length) (hn:n≤N) (h:LoopK l k0 lk r st₀ items val tv n N i σ) :
  MW (gj l) σ (fun o σ₀ => ∃ v,o=some v∧MW (xae LM v) σ₀ (fun zZ σ₁=>MW (gae LM) σ₁ (fun f σ₂=>f = .next∧LoopK l k0 lk r st₀ items val tv n N (i + 1) σ₂))):=by
 refine wrap fun G_ hG_=>?_;obtain ⟨hp,hres,hhr,hkey,o_319,H,o,L,I,hH,ho,L₀,z,hL,htop⟩:=h;refine hG_ ?_;clear hG_ G_;refine ya o_319 fun d hit hdd=>?_
 try clear o_319
 have hcl:=C.len
 have hd:d=false:=by
  cases d with
  | false=>rfl
  | true=>have:=hdd rfl; (exfalso; exact gdu hi this)
 subst hd
 have hk:σ.st[k0]?=some (.lst items):=hp.get C.k0 (by simp [C.k0l])
 have hlen:=I.len (by exact wc0 hi)
 refine (yb (jbl hit hk (by exact kbb hcl) hi)).mpr (ja _ rfl ?_)
 have hp1:Pres [l] st₀ (σ.st.set l (.itr k0 (N + i + 1) false)):=hp.setIn (List.mem_singleton.mpr rfl)
 have hrl:r≠l:=by exact zcd hcl hr0
 have hH1:(σ.st.set l (.itr k0 (N + i + 1) false))[r]?=some (.lst H):=by rw [List.getElem?_set_ne (Ne.symm hrl)]; exact hH
 have hi1:(σ.st.set l (.itr k0 (N + i + 1) false))[l]?=some (.itr k0 (N + i + 1) false):=gl (xd hit);have hx:items[N + i]∈items:=List.getElem_mem hi;unfold xae
 walk_at "mz"
 unfold gae;refine kf ?_
 walk_at "mz"
 refine (yb (C.chk hp1)).mpr ?_
 walk_at "mz"
 walk_at "mz"
 refine (yb (C.run hp1 hx)).mpr ?_
 walk_at "mz"
 unfold ka6
 walk_at "mz"
 by_cases hlt:val z.1 < val items[N + i]
 ·rw [decide_eq_true hlt,if_pos rfl]
  walk_at "mz"
  refine (yb (by show (if "heapreplace" = "heapreplace" then Res.ok () _ else .stuck)=_; rw [if_pos rfl])).mpr ?_
  walk_at "mz"
  walk_at "mz"
  refine (zbe (vs:=[.int (val items[N + i]),.int o,items[N + i]]) (by show 3≤_; exact qc3)).mpr ?_
  walk_at "mz"
  obtain ⟨L',I'⟩:=I.step (xaq val tv) hi (by exact qc0 hn) hL hlt
  have hspec:=qa9 (l:=r) (x:=entK val items[N + i] o) (P:=fun a => ∃ x∈items,∃ o,a=entK val x o) (lt:=ltE (decK val tv)) hH1 (by exact kc0 hcl hr0) (by rw [hlen.1,← hlen.2,hL]; simp) (by have:=C.small; exact zdv hlen hi this) I.mem ⟨_,hx,o,rfl⟩
   ((gbt b val tv).ltAtL fun x hx ws=>C.el _ (hp1.setFresh hr0) x hx)
  refine (yaa hspec).mpr ?_
  walk_at "mz"
  have hlen':=I'.len (by exact ydv hi)
  have hn1:0 < min n (N + i):=by rw [← hlen.2,hL]; simp
  have hne:0 < L'.length:=by rw [hlen'.2]; exact ycd hn1
  obtain ⟨L₁,z',hL'⟩ : ∃ L₁ z',L'=L₁ ++ [z']:=⟨L'.dropLast,L'.getLast (List.ne_nil_of_length_pos hne),(List.dropLast_concat_getLast _).symm⟩;have htop':=I'.top (xaq val tv) hL';have hset:((σ.st.set l (.itr k0 (N + i + 1) false)).set r (.lst (su (ltE (decK val tv)) (H.set 0 (entK val items[N + i] o)) 0)))[r]?=some (.lst (su (ltE (decK val tv)) (H.set 0 (entK val items[N + i] o)) 0)):=gl (xd hH1)
  have hget0:(su (ltE (decK val tv)) (H.set 0 (entK val items[N + i] o)) 0)[0]?=some (entK val z'.1 z'.2):=by
   rw [jby (by rw [hlen'.1]; exact ycd hn1),htop']
  unfold qa6 wa6;refine kf ?_
  walk_at "mz"
  refine (qp (j:=0) hset (by rw [show (0:Int)=((0:Nat):Int) from rfl,ju,if_pos (by rw [hlen'.1]; exact ycd hn1)]) hget0).mpr ?_
  walk_at "mz"
  show MW (qm 3 _ (.tup [.int (val z'.1),.int z'.2,z'.1])) _ _;rw [wbg,kz,jh,kz,jh,kz,jh,xc]
  walk_at "mz"
  refine ⟨rfl,?_,?_,?_,?_,?_,?_⟩
  ·exact hp1.setFresh hr0
  ·simp only [zb,String.reduceEq,if_false]; exact hres
  ·simp only [zb,String.reduceEq,if_false]; exact hhr
  ·simp only [zb,String.reduceEq,if_false]; exact hkey
  ·refine (ja false ?_ (fun q=>by (injection q)))
   show ((σ.st.set l _).set r _)[l]?=_;rw [List.getElem?_set_ne hrl]; exact hi1
  ·exact ⟨_,o - 1,L',I',hset,by simp only [zb,if_true],L₁,z',hL',by simp only [zb,String.reduceEq,if_false,if_true]⟩
 ·rw [decide_eq_false hlt,if_neg (by decide),xc]
  refine ⟨rfl,hp1,?_,?_,?_,⟨false,hi1,fun q=>by (injection q)⟩,H,o,L,I.stay hi (by exact qc0 hn) hL hlt,hH1,?_,L₀,z,hL,?_⟩
  ·simp only [zb,String.reduceEq,if_false]; exact hres
  ·simp only [zb,String.reduceEq,if_false]; exact hhr
  ·simp only [zb,String.reduceEq,if_false]; exact hkey
  ·simp only [zb,String.reduceEq,if_false]; exact ho
  ·simp only [zb,String.reduceEq,if_false]; exact htop
theorem sK8 {σ:S} {r l k0 lk N n:Nat} {st₀:gb} {items:List V} {b:Bool} {val tv:V→Int} (C:CtxK LM l k0 lk st₀ items b val tv) (hr0:st₀.length≤r) (hN:N=min n items.length) (h64:N < 64) (hit0:σ.lo "it" = some (.obj l)) (h:LoopK l k0 lk r st₀ items val tv n N 0 σ) :
  MW (kam LM) σ (OutN l st₀ (kh val n items) (.itr k0 items.length true)):=by
 have hcl:=C.len;unfold kam;refine kf ?_;simp only [jc,je,hit0,Option.some.injEq,exists_eq_left'];refine ya h.it fun d hit zZ=>?_
 have e:ga3 (.obj l) σ = .ok (fun zZ=>gj l) σ:=by unfold ga3; dsimp only; rw [hit]
 refine (yb e).mpr ?_
 walk_at "mz"
 have hsm:=C.small
 refine zca (items.length - N) (fun i σ=>LoopK l k0 lk r st₀ items val tv n N i σ) ?_ ?_ 4096 0 _ (Nat.zero_le _) (by exact jdv hsm) h
 ·intro σ' h';refine wrap fun G_ hG_=>?_;obtain ⟨hp,hres,hhr,hkey,o_320,H,o,L,I,hH,ho,L₀,z,hL,htop⟩:=h';refine hG_ ?_;clear hG_ G_;refine ya o_320 fun d hit hdd=>?_
  try clear o_320
  have eN:N + (items.length - N)=items.length:=by exact wdv hN
  rw [eN] at hit I hdd
  have fin:∀ st',Pres [l] st₀ st'→st'[r]?=some (.lst H)→st'[l]?=some (.itr k0 items.length true)→MW (zac LM) ⟨st',σ'.lo⟩ (OutN l st₀ (kh val n items) (.itr k0 items.length true)):=by
   intro st' q1 q2 q3
   exact sK7 (σ:=⟨st',σ'.lo⟩) C I hres q2 hr0 q1 q3 (by exact qdv h64 hN)
  cases d with
  | true=>
   exact (yb (gc7 hit (by exact kbb hcl))).mpr ⟨rfl,fin σ'.st hp hH hit⟩
  | false=>
   have hk:σ'.st[k0]?=some (.lst items):=hp.get C.k0 (by simp [C.k0l])
   refine (yb (wbl hit hk (by exact kbb hcl) (Nat.le_refl _))).mpr ⟨rfl,fin _ (hp.setIn (List.mem_singleton.mpr rfl)) ?_ (gl (xd hit))⟩
   rw [List.getElem?_set_ne (by exact kdv hcl hr0)]; exact hH
 ·intro i σ' hi h'
  refine (sK6 C hr0 hN (by exact wa2 hi) (by exact xdv hN hi) h').mono fun o σ₀ hq=>?_
  obtain ⟨v,rfl,hq⟩:=hq;refine (ja v rfl (hq.mono fun zZ σ₁ h1=>h1.mono fun f σ₂ h2=>?_));obtain ⟨rfl,h2⟩:=h2;exact h2
theorem sK14 {σ:S} {r l k0 lk N n:Nat} {nI:Int} {st₀:gb} {items:List V} {b d:Bool} {val tv:V→Int} (C:CtxK LM l k0 lk st₀ items b val tv) (hr0:st₀.length≤r) (hnI:n=nI.toNat) (hN:N=min n items.length) (h64:N < 64) (hit0:σ.lo "it" = some (.obj l)) (hn0:σ.lo "n" = some (.int nI)) (hkey:σ.lo "key" = some (.obj lk))
  (hres:σ.lo "result" = some (.obj r)) (hp:Pres [l] st₀ σ.st) (hr:σ.st[r]?=some (.lst ((List.range N).map fun i=>entK val (items.getD i .none) (-(i:Int))))) (hit:σ.st[l]?=some (.itr k0 N d)) (hd:d=decide (items.length < n)) :
  MW (xai LM) σ (OutN l st₀ (kh val n items) (if 0 < nI then .itr k0 items.length true else .itr k0 0 false)):=by
 have hcl:=C.len;have hsm:=C.small;unfold xai;refine kf ?_;simp only [jc,je,hres,Option.some.injEq,exists_eq_left'];refine (jc6 hr).mpr ?_
 walk_at "mz"
 walk_at "mz"
 by_cases hN0:N=0
 ·have e:(!(!((List.range N).map fun i=>entK val (items.getD i .none) (-(i:Int))).isEmpty))=true:=by rw [hN0]; rfl
  rw [e,if_pos rfl];simp only [jc,je,hres,Option.some.injEq,exists_eq_left',xc]
  have et:kh val n items=[]:=List.eq_nil_of_length_eq_zero (by rw [j8]; exact gdv hN hN0)
  refine (w5 r rfl hr0 (by rw [hr,hN0,et]; rfl) hp ?_)
  rw [hit,hd,hN0]
  by_cases h0:0 < nI
  ·rw [if_pos h0]
   have h1:items.length=0:=by lia
   rw [h1]
   have:decide (0 < n)=true:=by simp; lia
   rw [this]
  ·rw [if_neg h0]
   have:decide (items.length < n)=false:=by simp; lia
   rw [this]
 ·have e:(!(!((List.range N).map fun i=>entK val (items.getD i .none) (-(i:Int))).isEmpty))=false:=by
   cases N with
   | zero=>exact absurd rfl hN0
   | succ k=>rw [List.range_succ]; simp
  rw [e,if_neg (by decide),xc]
  try dsimp only
  have h0:0 < nI:=by lia
  rw [if_pos h0];refine qb (HInv.start (items:=items) (n:=n) (N:=N) (xaq val tv) hN) fun L I=>?_
  have hlen:=I.len (by exact zdw hN)
  obtain ⟨L₀,z,hL⟩ : ∃ L₀ z,L=L₀ ++ [z]:=⟨L.dropLast,L.getLast (List.ne_nil_of_length_pos (by exact ydw hlen hN hN0)),(List.dropLast_concat_getLast _).symm⟩
  have htop:=I.top (xaq val tv) hL;unfold gaz;refine kf ?_;simp only [jc,je,hres,Option.some.injEq,exists_eq_left',xc]
  have hspec:=gby (l:=r) (st:=σ.st) (P:=fun a => ∃ x∈items,∃ o,a=entK val x o) (lt:=ltE (decK val tv)) hr (by exact kc0 hcl hr0) (by rw [List.length_map,List.length_range]; exact jdw h64) (fun a ha=>by
    refine ya (List.mem_map.mp ha) fun i hi o_323=>?_;obtain rfl:=o_323
    have:i < N:=by simpa using hi
    refine (jb7 _ ?_ _ rfl)
    exact qat (by exact wdw this hN)) ((gbt b val tv).ltAtL fun x hx ws=>C.el _ (hp.setFresh hr0) x hx)
  rw [List.length_map,List.length_range] at hspec;refine (yaa hspec).mpr ?_
  walk_at "mz"
  generalize hH:hpfy (ltE (decK val tv)) (N / 2) ((List.range N).map fun i=>entK val (items.getD i .none) (-(i:Int)))=H at I hlen htop ⊢
  have hset:(σ.st.set r (.lst H))[r]?=some (.lst H):=gl (xd hr)
  have hget0:H[0]?=some (entK val z.1 z.2):=by rw [jby (by exact xc0 hlen hN hN0),htop]
  unfold xaz;refine kf ?_;simp only [jc,je,hres,Option.some.injEq,exists_eq_left',xc]
  refine (qp (j:=0) hset (by rw [show (0:Int)=((0:Nat):Int) from rfl,ju,if_pos (by exact xc0 hlen hN hN0)]) hget0).mpr ?_
  walk_at "mz"
  refine (jbi (vs:=[.int (val z.1),.int z.2,z.1]) (j:=0) rfl rfl).mpr ?_
  walk_at "mz"
  walk_at "mz"
  unfold kaz;refine kf ?_;simp only [jc,je,jh,xc,zb,wh,String.reduceEq,if_true,if_false,Option.some.injEq,exists_eq_left',hn0,wby];unfold xa6;refine kf ?_;simp only [jc,je,jh,xc,zb,wh,String.reduceEq,if_true,if_false,Option.some.injEq,exists_eq_left',hn0,wby]
  refine sK8 C hr0 hN h64 (by simp only [zb,String.reduceEq,if_false]; exact hit0) ⟨hp.setFresh hr0,?_,?_,?_,⟨d,?_,?_⟩,H,-nI,L,?_,hset,?_,L₀,z,hL,?_⟩
  ·simp only [zb,String.reduceEq,if_false]; exact hres
  ·simp only [zb,String.reduceEq,if_false,if_true]
  ·simp only [zb,String.reduceEq,if_false]; exact hkey
  ·show (σ.st.set r _)[l]?=_
   rw [List.getElem?_set_ne (by exact zcd hcl hr0)]; exact hit
  ·intro q;rw [hd] at q
   have:items.length < n:=by simpa using q
   exact qdw this hN
  ·have hle : -nI≤-(N:Int):=by lia
   exact ⟨I.perm,I.srt,fun p hp=>by have:=I.ord p hp; exact kdw this hle,I.tops,I.heap⟩
  ·simp only [zb,String.reduceEq,if_false,if_true]
  ·simp only [zb,String.reduceEq,if_false,if_true]
theorem sK15 {σ:S} {l k0 lk:Nat} {nI:Int} {items:List V} {b:Bool} {val tv:V→Int} (C:CtxK LM l k0 lk σ.st items b val tv) (hr : -100000≤nI∧nI≤100000) (h64:min nI.toNat items.length < 64) (hit0:σ.lo "it" = some (.obj l)) (hn0:σ.lo "n" = some (.int nI)) (hkey:σ.lo "key" = some (.obj lk)) (hit:σ.st[l]?=some (.itr k0 0 false)) :
  MW (gai LM) σ (OutN l σ.st (kh val nI.toNat items) (if 0 < nI then .itr k0 items.length true else .itr k0 0 false)):=by
 have hcl:=C.len;have hsm:=C.small;unfold gai;rw [yo];simp only [jc,je,xc,wby,hit0,hn0,Option.some.injEq,exists_eq_left']
 have er:gp [.int 0,.int (-nI),.int (-1)]=pure (.rng 0 (-nI) (-1)):=by
  show (if (-1:Int)≠0∧(-1:Int).natAbs < 1000000 then pure (V.rng 0 (-nI) (-1)) else stuck)=_
  rw [if_pos (by decide)]
 rw [er];simp only [xc];refine (ja _ hit0 ?_)
 refine jc.mp (kcg (free:=["key"]) (t:=xao LM) (n:=4096) (N:=min nI.toNat items.length) (fun i v=>entK val v (-(i:Int))) (fun zZ zZ=>rfl) hit C.k0 (by exact kbb hcl) C.k0l rfl (by exact xdw hsm) (by exact gdw hsm) (wcn hr) ?_ ?_)
 ·intro i v hv σ' hlo hp;show MW (qm 2 _ (.tup [.int (-(i:Int)),v])) σ' _
  have hk':σ'.lo "key" = some (.obj lk):=(hlo "key" (by simp)).trans hkey
  rw [qcg,kz,jh,kz,jh,xc];refine ⟨rfl,fun x hx=>?_,?_⟩
  ·rw [List.mem_singleton.mp hx]; simp only [zb,String.reduceEq,if_false]
  simp only [jc,je,jh,xc,zb,wh,String.reduceEq,if_true,if_false,Option.some.injEq,exists_eq_left',hk'];refine (yb (C.chk hp)).mpr ?_;simp only [jc,je,jh,xc,zb,wh,String.reduceEq,if_true,if_false,Option.some.injEq,exists_eq_left',hk'];refine (yb (C.run hp hv)).mpr ?_;simp only [jc,je,jh,xc,zb,wh,String.reduceEq,if_true,if_false,Option.some.injEq,exists_eq_left',hk']
  exact (zbe (vs:=[.int (val v),.int (-(i:Int)),v]) (by show 3≤_; exact qc3)).mpr ⟨rfl,rfl,fun x hx=>rfl⟩
 ·intro st' q1 q2 q3;simp only [jh]
  exact sK14 (d:=decide (items.length < nI.toNat)) C (Nat.le_refl _) rfl rfl h64 (by simp only [zb,String.reduceEq,if_false]; exact hit0) (by simp only [zb,String.reduceEq,if_false]; exact hn0) (by simp only [zb,String.reduceEq,if_false]; exact hkey) (by simp only [zb,if_true]) q1 q2 q3 rfl
end
section
variable {LM:Nat→List V→Fun}
theorem kdc (b:Bool) (t u:Int):gtD (elD b t) (elD b u)=some (decide (u < t)):=rfl
structure KeyC (LM:Nat→List V→Fun) (L:List Nat) (st₀:gb) (items:List V) (val:V→Int) (k:V) (kv:V→V) (bb:Bool):Prop where
 isk:gce k=true
 run:∀ st' lo,Pres L st₀ st'→∀ x∈items,gx LM k x ⟨st',lo⟩ = .ok (kv x) ⟨st',lo⟩
 dat:∀ st',Pres L st₀ st'→∀ x∈items,toD st' 6 (kv x)=some (elD bb (val x))
noncomputable def KeyM (LM:Nat→List V→Fun) (L:List Nat) (st₀:gb) (items:List V) (tv:V→Int) (k:V) (val:V→Int):Prop :=
 False∨∃ lk i cap,k = .obj lk∧st₀[lk]?=some (.clo i cap)∧lk∉L∧∀ st',Pres L st₀ st'→∀ x∈items,LM i cap [x] st' = .ok (.int (val x)) st'
theorem KeyM.c {L:List Nat} {st₀:gb} {items:List V} {b:Bool} {tv val:V→Int} {k:V} (h:KeyM LM L st₀ items tv k val) (hel:∀ st',Pres L st₀ st'→∀ x∈items,ElAt st' b tv x):∃ kv bb,KeyC LM L st₀ items val k kv bb:=by
 rcases h with hf | ⟨lk,i,cap,rfl,h1,h2,h3⟩
 ·exact hf.elim
 ·refine ⟨fun x=>.int (val x),false,rfl,fun st' lo hp x hx=>?_,fun zZ zZ zZ zZ=>rfl⟩;show keyF LM (.obj lk) [x] ⟨st',lo⟩=_;unfold keyF;dsimp only;rw [hp.get h1 h2];dsimp only;unfold xh;rw [h3 st' hp x hx]
section
variable {L:List Nat} {st₀:gb} {items:List V} {val:V→Int} {k:V} {kv:V→V} {bb:Bool}
theorem KeyC.gt (C:KeyC LM L st₀ items val k kv bb) {st:gb} {lo:String→Option V} (hp:Pres L st₀ st) {x y:V} (hx:x∈items) (hy:y∈items):gtB (kv x) (kv y) ⟨st,lo⟩ = .ok (decide (val y < val x)) ⟨st,lo⟩:=by
 unfold gtB;rw [C.dat st hp x hx,C.dat st hp y hy];dsimp only;rw [kdc]
theorem KeyC.keys (C:KeyC LM L st₀ items val k kv bb) {st:gb} {lo:String→Option V} (hp:Pres L st₀ st):∀ us:List V,(∀ x∈us,x∈items)→zw (gx LM k) us ⟨st,lo⟩ = .ok (us.map kv) ⟨st,lo⟩
 | [],_=>rfl
 | x :: us,h=>by
  unfold zw;rw [C.run st lo hp x (h x List.mem_cons_self)];dsimp only;rw [C.keys hp us fun y hy=>h y (List.mem_cons_of_mem _ hy)]
  rfl
theorem xcg (l:List V) (x z:V) (h:kh val 1 l=[z]):kh val 1 (l ++ [x])=[if val z < val x then x else z]:=by
 simp only [qag,h,wa1,xb2]
 split <;> rfl
theorem wct {l k0:Nat} (C:KeyC LM [l] st₀ items val k kv bb) (hl0:l≠0) (hkl:k0≠l) (hk0:st₀[k0]?=some (.lst items)) (lo:String→Option V):∀ (f j:Nat) (best:Option (V×V)) (st:gb),items.length - j < f→j≤items.length→Pres [l] st₀ st→st[l]?=some (.itr k0 j false)→
  (∀ b,best=some b→b.1∈items∧b.2=kv b.1)→kh val 1 (items.take j)=(best.map (·.1)).toList→∃ st',wx LM l k f best ⟨st,lo⟩ = .ok (kh val 1 items).head? ⟨st',lo⟩∧Pres [l] st₀ st'∧st'[l]?=some (.itr k0 items.length true)∧st'.length=st.length:=by
 intro f
 induction f with
 | zero=>intro j best st hf; (exfalso; exact zcc hf)
 | succ f ih=>
  intro j best st hf hj hp hit hb ht
  have hk:st[k0]?=some (.lst items):=hp.get hk0 (by simpa using hkl)
  simp only [yaz]
  by_cases hjl:j=items.length
  ·subst hjl;rw [wbl (σ:=⟨st,lo⟩) hit hk hl0 (Nat.le_refl _)];dsimp only;rw [List.take_length] at ht;refine (gu _ ?_ (hp.setIn (List.mem_singleton.mpr rfl)) (gl (xd hit)) (List.length_set ..));rw [ht]
   cases best <;> rfl
  ·have hj2:j < items.length:=by exact ycc hj hjl
   rw [jbl (σ:=⟨st,lo⟩) hit hk hl0 hj2];dsimp only;have hp1:Pres [l] st₀ (st.set l (.itr k0 (j + 1) false)):=hp.setIn (List.mem_singleton.mpr rfl);have hx:items[j]∈items:=List.getElem_mem hj2;rw [C.run _ lo hp1 _ hx];dsimp only
   have htk:items.take (j + 1)=items.take j ++ [items[j]]:=by rw [List.take_add_one,List.getElem?_eq_getElem hj2]; rfl
   have hset:(st.set l (.itr k0 (j + 1) false))[l]?=some (.itr k0 (j + 1) false):=gl (xd hit)
   cases best with
   | none=>
    dsimp only
    obtain ⟨st',e1,e2,e3,e4⟩:=ih (j + 1) (some (items[j],kv items[j])) _ (by exact jcd hf hj2) (by exact nL36 hj2) hp1 hset (fun b e=>by (injection e with c_1; subst c_1); exact ⟨hx,rfl⟩) (by
     have h0:kh val 1 (items.take j)=[]:=ht
     simp only [htk,qag,h0]; rfl)
    exact (gu st' e1 e2 e3 (e4.trans (List.length_set ..)))
   | some z=>
    refine kd (hb z rfl) fun hz1 hz2=>?_;dsimp only;rw [hz2,C.gt hp1 hx hz1];dsimp only;have hsn:=xcg (val:=val) (items.take j) items[j] z.1 ht;rw [← htk] at hsn
    by_cases hlt:val z.1 < val items[j]
    ·rw [decide_eq_true hlt,if_pos rfl];rw [if_pos hlt] at hsn
     obtain ⟨st',e1,e2,e3,e4⟩:=ih (j + 1) (some (items[j],kv items[j])) _ (by exact jcd hf hj2) (by exact nL36 hj2) hp1 hset (fun b e=>by (injection e with c_1; subst c_1); exact ⟨hx,rfl⟩) hsn
     exact (gu st' e1 e2 e3 (e4.trans (List.length_set ..)))
    ·rw [decide_eq_false hlt,if_neg (by decide)]
     rw [if_neg hlt] at hsn;refine wrap fun G_ hG_=>?_
     obtain ⟨st',e1,e2,e3,e4⟩:=ih (j + 1) (some z) _ (by exact jcd hf hj2) (by exact nL36 hj2) hp1 hset hb hsn
     refine hG_ ?_;clear hG_ G_;exact (gu st' e1 e2 e3 (e4.trans (List.length_set ..)))
end
end
section
variable {LM:Nat→List V→Fun}
theorem zc8 {st:gb} {b:Bool} {tv:V→Int} {x:V} {s:Nat} {σ:S} (h:ElAt st b tv x) (hs:st.length≤s):isV x (.obj s) σ = .ok (.bool false) σ:=by
 have h2:=h 2 (by exact jd5)
 cases x with
 | int i=>rfl
 | obj t=>
  have ht:t≠s:=by
   rintro rfl
   have:st[t]?=none:=List.getElem?_eq_none hs;unfold toD at h2;dsimp only at h2;rw [this] at h2; (injection h2)
  show Res.ok (V.bool (decide (t=s))) σ=_;rw [decide_eq_false ht]
 | none=>cases b <;> cases h2
 | bool _=>cases b <;> cases h2
 | str y=>
  exfalso;unfold toD at h2;dsimp only at h2
  split at h2 <;> cases b <;> cases h2
 | tup vs=>
  exfalso;unfold toD at h2;dsimp only at h2
  cases e:mapO (toD st 1) vs with
  | none=>rw [e] at h2; (injection h2)
  | some d=>rw [e] at h2; cases b <;> cases h2
 | fn _=>(injection h2)
 | rng _ _ _=>(injection h2)
theorem sA35 {σ:S} {l k0:Nat} {items:List V} {b:Bool} {tv val:V→Int} {k:V} (C:CtxN l k0 σ.st items b tv) (K:KeyM LM [l] σ.st items tv k val) (hit0:σ.lo "it" = some (.obj l)) (hkey:σ.lo "key" = some k) (hit:σ.st[l]?=some (.itr k0 0 false)) :
  MW (yaj LM) σ (OutN l σ.st (kh val 1 items) (.itr k0 items.length true)):=by
 have hcl:=C.len;have hsm:=C.small;refine qah (K.c C.el) fun kv bb KC=>?_;unfold yaj;refine kf ?_
 walk_at "mz"
 refine (yb (a:=V.obj σ.st.length) (σ':=⟨σ.st ++ [.opq],σ.lo⟩) rfl).mpr ?_
 walk_at "mz"
 walk_at "mz"
 have hp0:Pres [l] σ.st (σ.st ++ [Cel.opq]):=Pres.app ..
 have hit1:(σ.st ++ [Cel.opq])[l]?=some (.itr k0 0 false):=by rw [List.getElem?_append_left hcl.2]; exact hit
 unfold ja0;refine kf ?_
 walk_at "mz"
 obtain ⟨st',e1,e2,e3,e4⟩:=wct KC (by exact kbb hcl) C.k0l C.k0 (fun y=>if y = "sentinel" then some (V.obj σ.st.length) else σ.lo y) 4096 0 none (σ.st ++ [.opq]) (by exact zdx hsm) (by exact zar) hp0 hit1 (fun b e=>by (injection e)) rfl
 have hlen:σ.st.length≤st'.length:=e2.1
 have em:∀ v,((kh val 1 items).head?.getD (V.obj σ.st.length))=v→maxM LM (.obj l) (.obj σ.st.length) k (⟨σ.st ++ [.opq],fun y=>if y = "sentinel" then some (V.obj σ.st.length) else σ.lo y⟩ : S) = .ok v ⟨st',fun y=>if y = "sentinel" then some (V.obj σ.st.length) else σ.lo y⟩:=by
  intro v hv;unfold maxM
  try dsimp only
  rw [hit1]
  try dsimp only
  rw [e1]
  cases hh:(kh val 1 items).head? with
  | none=>rw [hh] at hv; dsimp only; rw [← hv]; rfl
  | some u=>rw [hh] at hv; dsimp only; rw [← hv]; rfl
 refine (yb (em _ rfl)).mpr ?_
 walk_at "mz"
 walk_at "mz"
 unfold ya0
 walk_at "mz"
 have fin:∀ (out:List V) (lo:String→Option V),kh val 1 items=out→MW (newL out) ⟨st',lo⟩ (fun v σ'=>OutN l σ.st (kh val 1 items) (.itr k0 items.length true) (.ret v) σ'):=by
  intro out lo ho
  have hlo:out.length≤1000000:=by rw [← ho,j8]; exact ydx
  refine (jb8 hlo).mpr (w5 st'.length rfl hlen ?_ (e2.trans (Pres.app ..)) ?_)
  ·show (st' ++ [Cel.lst out])[st'.length]?=_;rw [List.getElem?_concat_length,ho]
  ·show (st' ++ [Cel.lst out])[l]?=_;rw [List.getElem?_append_left (xd e3)]; exact e3
 cases ht:kh val 1 items with
 | nil=>
  have:([]:List V).head?.getD (V.obj σ.st.length)=V.obj σ.st.length:=rfl;rw [this]
  refine (yb (a:=V.bool true) (by show Res.ok (V.bool (decide _)) _=_; rw [decide_eq_true rfl])).mpr ?_
  walk_at "mz"
  rw [if_pos rfl]
  walk_at "mz"
  have:=fin [] (fun y=>if y = "result" then some (.obj σ.st.length) else if y = "sentinel" then some (V.obj σ.st.length) else σ.lo y) ht
  rw [ht] at this;exact this.mono fun v σ' h=>ye h
 | cons z r=>
  have hr:r=[]:=by
   have:=j8 (val:=val) 1 items;rw [ht] at this
   simp at this
   exact List.eq_nil_of_length_eq_zero (by exact jdx this)
  subst hr;have:([z]:List V).head?.getD (V.obj σ.st.length)=z:=rfl;rw [this]
  have hz:z∈items:=by
   have h1:z∈kh val 1 items:=by rw [ht]; simp
   rw [qz] at h1;exact (qi _).mem_iff.mp (List.mem_of_mem_take h1)
  refine (yb (zc8 (C.el σ.st (Pres.refl ..) z hz) (Nat.le_refl _))).mpr ?_
  walk_at "mz"
  rw [if_neg (by decide)]
  walk_at "mz"
  have:=fin [z] (fun y=>if y = "result" then some z else if y = "sentinel" then some (V.obj σ.st.length) else σ.lo y) ht
  rw [ht] at this;exact this.mono fun v σ' h=>ye h
theorem xbq {b e:M Fl} {hh:Exc→M Fl} {σ σ':S} {Q:Fl→S→Prop} (h:b σ = .ok .next σ') (k:MW e σ' Q):MW (kaa b hh e) σ Q:=by
 refine jm k fun f s2 e1 q=>?_
 try clear k
 exact (yh f s2 (by unfold kaa; rw [h]; exact e1) q)
theorem qbl {b e:M Fl} {hh:Exc→M Fl} {x:Exc} {σ σ':S} {Q:Fl→S→Prop} (h:b σ = .exc x σ') (k:MW (hh x) σ' Q):MW (kaa b hh e) σ Q:=by
 refine jm k fun f s2 e1 q=>?_
 try clear k
 exact (yh f s2 (by unfold kaa; rw [h]; exact e1) q)
theorem qcn {σ:S} {l k0:Nat} {v:V} {nI:Int} {items:List V} {b:Bool} {tv val:V→Int} {k:V} {st₁:gb} (hiter:j3 [v] σ = .ok (.obj l) ⟨st₁,σ.lo⟩) (C:CtxN l k0 st₁ items b tv) (K:KeyM LM [l] st₁ items tv k val) (hr : -100000≤nI∧nI≤100000) (h64:min nI.toNat items.length < 64)
  (hv:σ.lo "iterable" = some v) (hn0:σ.lo "n" = some (.int nI)) (hkey:σ.lo "key" = some k) (hit:st₁[l]?=some (.itr k0 0 false)) :
  MW (zaj LM) σ (OutN l st₁ (kh val nI.toNat items) (if 0 < nI then .itr k0 items.length true else .itr k0 0 false)):=by
 unfold zaj;refine kf ?_
 walk_at "mz"
 rcases K with hf | ⟨lk,i,cap,rfl,h1,h2,h3⟩
 ·exact hf.elim
 ·refine zcn.mpr ?_
  rw [show (V.obj lk).isNone=false from rfl]
  walk_at "mz"
  rw [if_neg (by decide)]
  walk_at "mz"
  unfold za0;refine kf ?_
  walk_at "mz"
  refine (yb hiter).mpr ?_
  walk_at "mz"
  walk_at "mz"
  exact sK15 (σ:=(⟨st₁,σ.lo⟩ : S).put "it" (.obj l)) (lk:=lk) ⟨C,i,cap,h1,by simpa using h2,h3⟩ hr h64 (by simp only [zb,if_true]) (by simp only [zb,String.reduceEq,if_false]; exact hn0) (by simp only [zb,String.reduceEq,if_false]; exact hkey) hit
end
section
variable {LM:Nat→List V→Fun}
theorem gat {st st':gb} {c:Cel} (h:Pres [st.length] (st ++ [c]) st'):Pres [] st st':=by
 have h1:=h.1;rw [List.length_append,List.length_singleton] at h1
 refine ⟨by exact nL73 h1,fun k hk zZ=>?_⟩
 rw [h.2 k (by simp only [List.length_append]; simp; exact wcb hk) (by simp; exact qcb hk),List.getElem?_append_left hk]
theorem kcn {σ:S} {v:V} (hv:σ.lo "iterable" = some v):xaa LM σ=(match lenX [v] σ with | .ok u σ'=>.ok .next (σ'.put "size" u) | .exc e σ'=>.exc e σ' | .stuck=>.stuck):=by
 have hg:getv "iterable" σ = .ok v σ:=by unfold getv; rw [hv]
 unfold xaa;simp only [M.bind_def,hg]
 rw [show ((pure []:M (List V)) σ)=Res.ok [] σ from rfl]
 dsimp only
 rw [show ((pure (v :: []):M (List V)) σ)=Res.ok [v] σ from rfl]
 dsimp only
 cases lenX [v] σ <;> rfl
theorem gbq {st:gb} {l k0:Nat} {nI:Int} {items:List V} {b:Bool} {tv val:V→Int} {k:V} (C:CtxN l k0 st items b tv) (K:KeyM LM [l] st items tv k val) (hr : -100000≤nI∧nI≤100000) (h64:min nI.toNat items.length < 64) (hit:st[l]?=some (.itr k0 0 false)) :
  ∃ r st',zr LM [.int nI,.obj l,k] st = .ok (.obj r) st'∧st.length≤r∧st'[r]?=some (.lst (kh val nI.toNat items))∧Pres [l] st st'∧st'[l]?=some (if 0 < nI then .itr k0 items.length true else .itr k0 0 false):=by
 obtain ⟨v,st',e,r,rfl,h⟩:=jah (params:=["n", "iterable", "key"]) (body:=g0 LM) (vs:=[.int nI,.obj l,k]) (st:=st) (R:=fun v st' => ∃ r,v = .obj r∧st.length≤r∧st'[r]?=some (.lst (kh val nI.toNat items))∧Pres [l] st st'∧st'[l]?=some (if 0 < nI then .itr k0 items.length true else .itr k0 0 false)) rfl (by
  have hiter:∀ lo,j3 [.obj l] ⟨st,lo⟩ = .ok (.obj l) ⟨st,lo⟩:=by
   intro lo; unfold j3; dsimp only; rw [hit]
  have out:∀ {f:Fl} {σ':S},OutN l st (kh val nI.toNat items) (if 0 < nI then .itr k0 items.length true else .itr k0 0 false) f σ'→∃ r,(match f with | .ret u=>u | _=>.none)=V.obj r∧st.length≤r∧σ'.st[r]?=some (.lst (kh val nI.toNat items))∧Pres [l] st σ'.st∧σ'.st[l]?=some (if 0 < nI then .itr k0 items.length true else .itr k0 0 false):=by
   rintro f σ' ⟨r,rfl,h⟩
   exact (ja r rfl h)
  unfold g0;refine kf ?_
  walk_at "mz"
  by_cases h1:nI=1
  ·subst h1;rw [decide_eq_true rfl,if_pos rfl]
   walk_at "mz"
   refine (yb (hiter _)).mpr ?_
   walk_at "mz"
   walk_at "mz"
   have:=sA35 (LM:=LM) (σ:=(⟨st,ke ["n", "iterable", "key"] [.int 1,.obj l,k]⟩ : S).put "it" (.obj l)) C K (by simp only [zb,if_true]) (by simp only [zb,ke,String.reduceEq,if_false,if_true]) hit
   refine this.mono fun f σ' h=>?_
   have h2:=out (f:=f) (σ':=σ') (by rw [if_pos (by decide)]; exact h)
   refine ya h fun r o_324 zZ=>?_
   try clear h
   obtain rfl:=o_324;exact h2
  ·rw [decide_eq_false h1,if_neg (by decide)]
   walk_at "mz"
   unfold jaj;refine kf ?_
   refine qbl (x:=⟨"TypeError",Str.ofString (wz (shownName "list_iterator"))⟩) (σ':=⟨st,ke ["n", "iterable", "key"] [.int nI,.obj l,k]⟩) ?_ ?_
   ·rw [kcn (v:= .obj l) (by simp only [ke,String.reduceEq,if_false,if_true])]
    unfold lenX jbf
    try dsimp only
    rw [hit]
   ·refine (yb (a:=Fl.next) (σ':=⟨st,ke ["n", "iterable", "key"] [.int nI,.obj l,k]⟩) (by unfold xbt; rw [if_pos rfl]; rfl)).mpr ?_
    try dsimp only
    exact (qcn (σ:=⟨st,ke ["n", "iterable", "key"] [.int nI,.obj l,k]⟩) (v:= .obj l) (hiter _) C K hr h64 (by simp only [ke,String.reduceEq,if_false,if_true]) (by simp only [ke,if_true]) (by simp only [ke,String.reduceEq,if_false,if_true]) hit).mono fun f σ' h=>out h)
 exact (yh r st' e h)
theorem zbr {st:gb} {li:Nat} {nI:Int} {items:List V} {b:Bool} {tv val:V→Int} {k:V} (h0:0 < st.length) (hl:st[li]?=some (.lst items)) (hel:∀ st',Pres [] st st'→∀ x∈items,ElAt st' b tv x) (hsm:items.length≤1000)
  (K:KeyM LM [] st items tv k val) (hr : -100000≤nI∧nI≤100000) (h64:min nI.toNat items.length < 64) :
  ∃ r st',zr LM [.int nI,.obj li,k] st = .ok (.obj r) st'∧st.length≤r∧st'[r]?=some (.lst (kh val nI.toNat items))∧Pres [] st st':=by
 have hll:=xd hl
 obtain ⟨v,st',e,r,rfl,h⟩:=jah (params:=["n", "iterable", "key"]) (body:=g0 LM) (vs:=[.int nI,.obj li,k]) (st:=st) (R:=fun v st' => ∃ r,v = .obj r∧st.length≤r∧st'[r]?=some (.lst (kh val nI.toNat items))∧Pres [] st st') rfl (by
  have hiter:∀ lo,j3 [.obj li] ⟨st,lo⟩ = .ok (.obj st.length) ⟨st ++ [.itr li 0 false],lo⟩:=by
   intro lo; unfold j3; dsimp only; rw [hl]
  have hit:(st ++ [Cel.itr li 0 false])[st.length]?=some (.itr li 0 false):=List.getElem?_concat_length
  have C:CtxN st.length li (st ++ [.itr li 0 false]) items b tv:=⟨⟨h0,by simp⟩,by exact kcx hll,by rw [List.getElem?_append_left hll]; exact hl,fun st' hp=>hel st' (gat hp),hsm⟩
  have K':KeyM LM [st.length] (st ++ [.itr li 0 false]) items tv k val:=by
   rcases K with h | ⟨lk,i,cap,h1,h2,h3,h4⟩
   ·exact .inl h
   ·have:=xd h2
    exact .inr (zd lk i cap h1 (by rw [List.getElem?_append_left this]; exact h2) (by simp; exact qcb this) (fun st' hp=>h4 st' (gat hp)))
  have out:∀ {f:Fl} {σ':S} {it:Cel} {vs:List V},vs=kh val nI.toNat items→OutN st.length (st ++ [.itr li 0 false]) vs it f σ'→∃ r,(match f with | .ret u=>u | _=>.none)=V.obj r∧st.length≤r∧σ'.st[r]?=some (.lst (kh val nI.toNat items))∧Pres [] st σ'.st:=by
   rintro f σ' it vs rfl ⟨r,rfl,h1,h2,h3,_⟩
   exact (gu r rfl (by rw [List.length_append] at h1; exact gc0 h1) h2 (gat h3))
  unfold g0;refine kf ?_
  walk_at "mz"
  by_cases h1:nI=1
  ·subst h1;rw [decide_eq_true rfl,if_pos rfl]
   walk_at "mz"
   refine (yb (hiter _)).mpr ?_
   walk_at "mz"
   walk_at "mz"
   have:=sA35 (LM:=LM) (σ:=(⟨st ++ [.itr li 0 false],ke ["n", "iterable", "key"] [.int 1,.obj li,k]⟩ : S).put "it" (.obj st.length)) C K' (by simp only [zb,if_true]) (by simp only [zb,ke,String.reduceEq,if_false,if_true]) hit
   refine this.mono fun f σ' h=>?_
   have h2:=out (f:=f) (σ':=σ') (by rfl) h
   refine ya h fun r o_325 zZ=>?_
   try clear h
   obtain rfl:=o_325;exact h2
  ·rw [decide_eq_false h1,if_neg (by decide)]
   walk_at "mz"
   unfold jaj;refine kf ?_
   refine xbq (σ':=(⟨st,ke ["n", "iterable", "key"] [.int nI,.obj li,k]⟩ : S).put "size" (.int items.length)) ?_ ?_
   ·rw [kcn (v:= .obj li) (by simp only [ke,String.reduceEq,if_false,if_true])]
    unfold lenX jbf
    try dsimp only
    rw [hl]
   ·unfold gao
    walk_at "mz"
    by_cases hge:(items.length:Int)≤nI
    ·rw [decide_eq_true hge,if_pos rfl]
     walk_at "mz"
     refine qah (K.c hel) fun kv bb KC=>?_
     have hdat:mapO (toD st 6) (items.map kv)=some ((items.map kv).map fun w=>(toD st 6 w).getD .none):=xba fun a ha=>by
      refine ya (List.mem_map.mp ha) fun x hx o_326=>?_;obtain rfl:=o_326;rw [KC.dat st (Pres.refl ..) x hx]; rfl
     have hds:(items.map kv).map (fun w=>(toD st 6 w).getD .none)=items.map fun x=>elD bb (val x):=by
      rw [List.map_map];refine List.map_congr_left fun x hx=>?_;show (toD st 6 (kv x)).getD .none=_;rw [KC.dat st (Pres.refl ..) x hx]; rfl
     rw [hds] at hdat
     obtain ⟨o1,o2⟩:=zb3 (items:=items) (g:=fun x=>elD bb (val x)) (val:=val) (bb:=bb) (fun zZ zZ=>rfl) (by lia)
     have es:∀ lo,qaa LM (.obj li) k ⟨st,lo⟩ = .ok (.obj st.length) ⟨st ++ [.lst (gd val items)],lo⟩:=by
      intro lo;unfold qaa
      try dsimp only
      rw [KC.isk,if_neg (by decide),hl]
      try dsimp only
      rw [KC.keys (Pres.refl ..) items fun zZ h=>h]
      try dsimp only
      rw [hdat]
      try dsimp only
      rw [if_pos o1,o2]
     refine (yb (es _)).mpr ?_
     walk_at "mz"
     walk_at "mz"
     refine wb3 (vs:=gd val items) nI.toNat (by exact List.getElem?_concat_length) (by lia) fun k' st' q1 q2 q3=>?_
     refine ye ⟨k',rfl,by dsimp only at q2; rw [List.length_append] at q2; exact gc0 q2,?_,(Pres.app [] st [.lst (gd val items)]).trans q1⟩
     rw [q3,qz]
    ·rw [decide_eq_false hge,if_neg (by decide)]
     walk_at "mz"
     exact (qcn (σ:=(⟨st,ke ["n", "iterable", "key"] [.int nI,.obj li,k]⟩ : S).put "size" (.int items.length)) (v:= .obj li) (hiter _) C K' hr h64 (by simp only [zb,ke,String.reduceEq,if_false,if_true]) (by simp only [zb,ke,String.reduceEq,if_false,if_true]) (by simp only [zb,ke,String.reduceEq,if_false,if_true]) hit).mono fun f σ' h=>out rfl h)
 exact (yh r st' e h)
end
section
noncomputable def Lsty (c:Cel):Prop:=c = .tab∨∃ vs,c = .lst vs
noncomputable def PV (L:List Nat) (st st':gb):Prop:=st.length≤st'.length∧∀ k c,k∉L→Lsty c→st[k]?=some c→st'[k]?=some c
theorem PV.of {L:List Nat} {a b:gb} (x:Pres L a b):PV L a b:=⟨x.1,fun k c hk zZ e=>x.get e hk⟩
theorem PV.trans {L:List Nat} {a b c:gb} (x:PV L a b) (y:PV L b c):PV L a c:=⟨Nat.le_trans x.1 y.1,fun k d hk hd e=>y.2 k d hk hd (x.2 k d hk hd e)⟩
theorem PV.lst {L:List Nat} {a b:gb} {k:Nat} {vs:List V} (x:PV L a b) (hk:k∉L) (e:a[k]?=some (.lst vs)):b[k]?=some (.lst vs):=x.2 k _ hk (.inr ⟨vs,rfl⟩) e
theorem PV.lst0 {a b:gb} {k:Nat} {vs:List V} (x:PV [] a b) (e:a[k]?=some (.lst vs)):b[k]?=some (.lst vs):=x.lst (by simp) e
theorem PV.tab0 {a b:gb} (x:PV [] a b) (e:a[1]?=some Cel.tab):b[1]?=some Cel.tab:=x.2 1 _ (by simp) (.inl rfl) e
theorem PV.kill (st:gb):PV [] st (kx st):=by
 refine ⟨by unfold kx; simp,fun k c zZ hc e=>?_⟩
 unfold kx;rw [List.getElem?_map,e]
 rcases hc with rfl | ⟨vs,rfl⟩ <;> rfl
theorem PV.setFresh {a b:gb} {r:Nat} {c:Cel} {L:List Nat} (x:PV L a b) (h:a.length≤r):PV L a (b.set r c) :=
 ⟨by rw [List.length_set]; exact x.1,fun k d hk hd e=>by
  have:=xd e
  rw [List.getElem?_set_ne (by exact ybs this h)]; exact x.2 k d hk hd e⟩
theorem yca {σ:S} {x:String} {v:V} {Q:Unit→S→Prop}:MW (setc x v) σ Q↔Q () (σ.putC x v):=yb rfl
theorem wah {σ:S} {x y:String} {v:V}:(σ.putC x v).lo y=if y=x then some v else σ.lo y:=rfl
theorem jca {σ:S} {x:String} {v:V}:(σ.putC x v).st=kx σ.st:=rfl
end
section
section
variable {α:Type} {val:α→Int}
noncomputable def gtN (val:α→Int) (c:Int) (l:List α):Nat:=(l.filter fun y=>decide (c < val y)).length
noncomputable def eqN (val:α→Int) (c:Int) (l:List α):Nat:=(l.filter fun y=>decide (val y=c)).length
theorem gb3 (z:α):∀ a:List α,(geD val z a).length=gtN val (val z) a + eqN val (val z) a
 | []=>rfl
 | y :: a=>by
  have ih:=gb3 z a;unfold geD gtN eqN at ih ⊢;simp only [List.filter_cons]
  by_cases h1:val y < val z
  ·simp only [h1,decide_true,Bool.not_true,Bool.false_eq_true,if_false,show ¬ val z < val y by exact wdx h1,show ¬ val y=val z by lia,decide_false]
   exact ih
  ·by_cases h2:val y=val z
   ·simp only [h1,h2,decide_true,decide_false,Bool.not_false,if_true,show ¬ val z < val z by exact zc1,Bool.false_eq_true,if_false,List.length_cons,Int.lt_irrefl]
    exact qdx ih
   ·simp only [h1,h2,show val z < val y by exact wcz h1 h2,decide_true,decide_false,Bool.not_false,if_true,Bool.false_eq_true,if_false,List.length_cons]
    exact kdx ih
theorem kbg (c:Int) (a b:List α):gtN val c (a ++ b)=gtN val c a + gtN val c b:=by unfold gtN; rw [List.filter_append,List.length_append]
theorem zb4 (c:Int) (x:α) (b:List α):gtN val c (x :: b)=(if c < val x then 1 else 0) + gtN val c b:=by
 unfold gtN;rw [List.filter_cons]
 by_cases h:c < val x
 ·simp [h]; exact xdx
 ·simp [h]
theorem xcn (a:List α) (z:α) (b:List α):(gd val (a ++ z :: b))[gtN val (val z) (a ++ z :: b) + eqN val (val z) a]?=some z:=by
 refine qba (P:=fun b=>(gd val (a ++ z :: b))[gtN val (val z) (a ++ z :: b) + eqN val (val z) a]?=some z) ?_ (fun b x ih=>?_) b
 ·rw [xam,(qx a).ins_eq z]
  have e:(geD val z (gd val a)).length=gtN val (val z) (a ++ [z]) + eqN val (val z) a:=by
   have h1:(geD val z (gd val a)).length=(geD val z a).length:=((qi a).filter _).length_eq
   rw [h1,gb3,kbg,zb4,if_neg (by exact zc1)]
   show _=gtN val (val z) a + (0 + 0) + _;exact gdx
  rw [List.getElem?_append_right (by exact zdy e),e,Nat.sub_self]
  rfl
 ·have e1:a ++ z :: (b ++ [x])=(a ++ z :: b) ++ [x]:=by simp
  rw [e1,xam,kbg,zb4]
  generalize hT:gd val (a ++ z :: b)=T at ih
  have hd:gm val T:=by rw [← hT]; exact qx _
  generalize gtN val (val z) (a ++ z :: b)=g at ih
  rw [hd.ins_eq x];have hs:=hd.split x;have hg0:gtN val (val z) ([]:List α)=0:=rfl
  by_cases hx:val z < val x
  ·rw [if_pos hx,hg0]
   have hj:(geD val x T).length≤g + eqN val (val z) a:=by
    by_cases q:g + eqN val (val z) a < (geD val x T).length
    ·rw [hs,List.getElem?_append_left q] at ih;have:=(qaq (List.mem_of_getElem? ih)).2;exact absurd hx this
    ·exact yc1 q
   rw [hs,List.getElem?_append_right hj] at ih
   rw [List.getElem?_append_right (by exact ydy hj),show g + (1 + 0) + eqN val (val z) a - (geD val x T).length=(g + eqN val (val z) a - (geD val x T).length) + 1 by exact jdy hj,List.getElem?_cons_succ]
   exact ih
  ·rw [if_neg hx,hg0]
   have hj:g + eqN val (val z) a < (geD val x T).length:=by
    by_cases q:g + eqN val (val z) a < (geD val x T).length
    ·exact q
    ·rw [hs,List.getElem?_append_right (by exact yc1 q)] at ih
     have:=(kaq (List.mem_of_getElem? ih)).2;exact absurd this hx
   rw [hs,List.getElem?_append_left hj] at ih
   rw [List.getElem?_append_left (by exact wdy hj)]
   exact ih
end
end
section
noncomputable def dval (d:List Int):V→Int
 | .int a=>d.getD a.toNat 0
 | _=>0
noncomputable def its (p n:Nat):List V:=(List.range (n - p)).map fun (j:Nat)=>V.int ((p:Int) + j)
theorem qo (p n:Nat):(its p n).length=n - p:=by unfold its; simp
theorem wca {p n i:Nat} (h:p + i < n):(its p n)[i]?=some (.int ((p + i:Nat):Int)):=by
 unfold its
 rw [List.getElem?_map,List.getElem?_range (by exact jc1 h)]; rfl
theorem qct {p n i:Nat} (h:p + i≤n):(its p n).take i=its p (p + i):=by
 unfold its
 rw [← List.map_take,List.take_range,Nat.min_eq_left (by exact qdy h),Nat.add_sub_cancel_left]
theorem gcn {p n i:Nat} (h:p + i < n):∃ b,its p n=its p (p + i) ++ V.int ((p + i:Nat):Int) :: b:=by
 refine ⟨(its p n).drop (i + 1),?_⟩;have h1:=List.take_append_drop i (its p n)
 rw [qct (by exact wc0 h)] at h1
 conv=>lhs; rw [← h1]
 congr 1
 have h2:i < (its p n).length:=by rw [qo]; exact jc1 h
 rw [List.drop_eq_getElem_cons h2]
 congr 1
 have:=wca h;rw [List.getElem?_eq_getElem h2] at this;exact Option.some.inj this
theorem wa4 {p n:Nat} {v:V} (h:v∈its p n):∃ a:Nat,v = .int (a:Int)∧p≤a∧a < n:=by
 unfold its at h;refine ya (List.mem_map.mp h) fun j hj o_327=>?_;obtain rfl:=o_327;rw [List.mem_range] at hj
 exact (gc (p + j) (by rw [Int.natCast_add]) (by exact kdy) (by exact wa2 hj))
theorem zco (p n:Nat):(its p n).Nodup:=by
 unfold its;refine List.Pairwise.map _ (fun a b h=>?_) List.nodup_range;intro q
 injection q with q
 lia
theorem zau {d:List Int} {a:Nat} (h:a < d.length):dval d (.int a)=d[a]:=by
 show d.getD (a:Int).toNat 0=_;rw [Int.toNat_natCast,List.getD_eq_getElem?_getD,List.getElem?_eq_getElem h]; rfl
theorem xa1 {α:Type} (P:α→Bool):∀ l:List α,l.filterMap (fun v=>if P v then some v else none)=l.filter P
 | []=>rfl
 | x :: l=>by
  rw [List.filterMap_cons,List.filter_cons,xa1 P l]
  cases P x <;> rfl
theorem kbl {p n:Nat} (σ:S) (i:Nat):yf (.rng p n 1) σ i=some (its p n)[i]?:=by
 rw [gaa (n:=n - p) σ i (by lia)]; rfl
theorem xbg {free:List String} {mc:Nat→(S→Nat→Option (Option V))→M Unit} {x:String} {c:M Bool} {p n:Nat} {σ:S} {Q:V→S→Prop} (P:V→Bool)
  (hmc:∀ l nxt,mc l nxt=yq 4096 (fun v=>setv x v) c (do let v ← getv x; yl l v) nxt) (hx:x∉free)
  (h0:0 < σ.st.length) (hp:p≤1000) (hn:n≤1000)
  (h:∀ a:Nat,p≤a→a < n→∀ σ',xat σ.st σ'.st→(∀ y∈free,σ'.lo y=σ.lo y)→σ'.lo x=some (.int a)→MW c σ' (fun b σ₂=>σ₂=σ'∧b=P (.int a)))
  (q:∀ k st',Pres [] σ.st st'→σ.st.length≤k→st'[k]?=some (.lst ((its p n).filter P))→Q (.obj k) ⟨st',σ.lo⟩):MW (zk free mc (.rng p n 1)) σ Q:=by
 refine zan (us:=its p n) (n:=4096) (t:=fun v=>setv x v) (c:=c) (e:=getv x) (fun v=>if P v then some v else none) hmc (jae (yw (by exact jbs hp) (by exact jbs hn) (by exact jar))) h0 (fun σ' i zZ=>kbl σ' i) (by rw [qo]; exact xdy hn) (by rw [qo]; exact gdy hn) ?_ ?_
 ·intro v hv σ' hag hlo;refine yd (wa4 hv) fun a o_328 h1 h2=>?_;obtain rfl:=o_328;rw [jh];refine ⟨rfl,fun y hy=>?_,?_⟩
  ·show (if y=x then _ else σ'.lo y)=_
   rw [if_neg (by rintro rfl; exact hx hy)]
  have hsx:(σ'.put x (.int a)).lo x=some (.int a):=by show (if x=x then _ else _)=_; rw [if_pos rfl]
  refine (h a h1 h2 (σ'.put x (.int a)) hag (fun y hy=>?_) hsx).mono fun b σ₂ hb=>?_
  ·show (if y=x then _ else σ'.lo y)=_
   rw [if_neg (by rintro rfl; exact hx hy)]
   exact hlo y hy
  ·refine kd hb fun o_329 o_330=>?_
   try clear hb
   obtain rfl:=o_329;obtain rfl:=o_330;refine ⟨rfl,?_⟩
   cases hP:P (.int a) with
   | false=>rfl
   | true=>exact ⟨rfl,(je.mpr (gc _ hsx rfl rfl))⟩
 ·intro k st' h1 h2 h3;rw [xa1] at h3;exact q k st' h1 h2 h3
theorem kct {st:gb} {o p:Nat} {d:List Int} (h0:0 < st.length) (ho:st[o]?=some (.lst (d.map V.int))) (hp:p≤d.length) (hn:d.length≤50) :
  ∃ r st',wac [.obj o,.int p] st = .ok (.obj r) st'∧PV [] st st'∧st.length≤r∧st'[r]?=some (.lst (gd (dval d) (its p d.length))):=by
 have hol:=xd ho
 generalize hT:gd (dval d) (its p d.length)=T
 have hTl:T.length=d.length - p:=by rw [← hT,j4,qo]
 have hTp:T.Perm (its p d.length):=by rw [← hT]; exact qi _
 have hTn:T.Nodup:=hTp.symm.nodup (zco ..)
 obtain ⟨v,st',e,r,rfl,h⟩:=jah (params:=["owed", "first"]) (body:=jac) (vs:=[.obj o,.int p]) (st:=st) (R:=fun v st' => ∃ r,v = .obj r∧PV [] st st'∧st.length≤r∧st'[r]?=some (.lst T)) rfl (by
  unfold jac;refine kf ?_
  walk_at "mz"
  refine gba (by simp) fun k1 st1 p1 f1 g1=>?_
  walk_at "mz"
  refine (zq (by exact p1.get0 ho)).mpr ?_
  walk_at "mz"
  refine kb3 (by exact g1) (by rw [List.length_map]; simp; omega) fun r st2 p2 f2 g2=>?_
  walk_at "mz"
  have p12:Pres [] st st2:=p1.trans p2
  have hr:st.length≤r:=by have h1:st.length≤st1.length:=p1.1; have f2':st1.length≤r:=f2; exact nL57 h1 f2'
  unfold ya1;refine kf ?_
  walk_at "mz"
  refine (zq (by exact p12.get0 ho)).mpr ?_
  walk_at "mz"
  walk_at "mz"
  rw [List.length_map]
  refine (yb (jae (yw (by lia) (by exact kc3 hn) (by exact jar)))).mpr ?_
  walk_at "mz"
  refine xad (d.length - p) (fun i σ=>σ.lo "owed" = some (.obj o)∧σ.lo "first" = some (.int p)∧σ.lo "order" = some (.obj r)∧PV [] st σ.st∧∃ row,σ.st[r]?=some (.lst row)∧row.length=d.length - p∧
    ∀ (j a:Nat),p≤a→a < p + i→T[j]?=some (.int (a:Int))→row[j]?=some (.int (a:Int))) ?_ ?_ 4096 0 _ (Nat.zero_le _) (by exact zdz hn) ?_
  ·rintro σ ⟨l1,l2,l3,hx,row,hrow,hlen,hj⟩
   refine ⟨by rw [kbl,List.getElem?_eq_none (by rw [qo]; exact Nat.le_refl _)],?_⟩
   unfold za1
   walk_at "mz"
   refine (gu r rfl hx hr ?_);rw [hrow]
   congr 2
   refine List.ext_getElem? fun j=>?_
   by_cases hjl:j < T.length
   ·have hm:=hTp.mem_iff.mp (List.getElem_mem hjl);refine yd (wa4 hm) fun a e h1 h2=>?_
    have:T[j]?=some (.int (a:Int)):=by rw [List.getElem?_eq_getElem hjl,e]
    rw [this]
    exact hj j a h1 (by exact ydz h2) this
   ·rw [List.getElem?_eq_none (by exact jdz hlen hTl hjl),List.getElem?_eq_none (by exact nL2 hjl)]
  ·rintro i σ hi ⟨l1,l2,l3,hx,row,hrow,hlen,hj⟩
   refine (ja (.int ((p + i:Nat):Int)) (by rw [kbl,wca (by exact wa2 hi)]) ?_)
   unfold zaq yaq;rw [yca];have x1:PV [] σ.st (kx σ.st):=PV.kill _;have ho1:(kx σ.st)[o]?=some (.lst (d.map V.int)):=(hx.trans x1).lst0 ho
   have hk0:0 < (kx σ.st).length:=by have:=(hx.trans x1).1; exact wdz hol this
   refine kf ?_
   walk_at "mz"
   refine (zq (by exact ho1)).mpr ?_
   walk_at "mz"
   walk_at "mz"
   rw [List.length_map]
   have owe:∀ {σ':S} {a:Nat} {x:String},xat (kx σ.st) σ'.st→σ'.lo "owed" = some (.obj o)→σ'.lo x=some (.int a)→a < d.length→∀ Q:V→S→Prop,Q (.int (dval d (.int a))) σ'→MW (do let o ← (getv "owed"); let i ← (getv x); getI o i) σ' Q:=by
    intro σ' a x hag hl1 hl2 ha Q q;simp only [jc,je,hl1,hl2,Option.some.injEq,exists_eq_left']
    refine (qp (v:= .int (dval d (.int a))) (j:=a) (by exact (hag o (xd ho1)).trans ho1) (by rw [ju,if_pos (by rw [List.length_map]; exact ha)]) ?_).mpr q
    rw [List.getElem?_map,List.getElem?_eq_getElem ha,zau ha]; rfl
   refine xbg (x:= "other") (fun v=>decide (dval d (.int ((p + i:Nat):Int)) < dval d v)) (fun zZ zZ=>rfl) (by decide) (by exact hk0) (by exact qc1 hi hn) (by exact kc1 hn) ?_ ?_
   ·intro a h1 h2 σ' hag hlo hsx
    have e1:σ'.lo "owed" = some (.obj o):=(hlo "owed" (by simp)).trans l1
    have e2:σ'.lo "one" = some (.int ((p + i:Nat):Int)):=(hlo "one" (by simp)).trans rfl
    unfold gap;rw [jc];refine owe hag e1 hsx h2 _ ?_;rw [jc]
    refine owe hag e1 e2 (by exact wa2 hi) _ ?_
    rw [jc,qc4,kad];exact ⟨rfl,rfl⟩
   intro k3 st3 p3 f3 g3
   walk_at "mz"
   simp only [jca] at p3 f3;unfold ga0;refine kf ?_
   walk_at "mz"
   refine xbg (x:= "other") (fun v=>decide (dval d v=dval d (.int ((p + i:Nat):Int)))) (fun zZ zZ=>rfl) (by decide) (by have:=p3.1; exact Nat.lt_of_lt_of_le hk0 this) (by exact qc1 hi hn) (by exact qdz hi hn) ?_ ?_
   ·intro a h1 h2 σ' hag hlo hsx
    have hag':xat (kx σ.st) σ'.st:=fun k hk=>(hag k (Nat.lt_of_lt_of_le hk p3.1)).trans (p3.2 k hk (by simp))
    have e1:σ'.lo "owed" = some (.obj o):=(hlo "owed" (by simp)).trans l1
    have e2:σ'.lo "one" = some (.int ((p + i:Nat):Int)):=(hlo "one" (by simp)).trans rfl
    unfold xap;rw [jc]
    refine owe hag' e1 hsx (by exact kdz h2 hi) _ ?_
    rw [jc]
    refine owe hag' e1 e2 (by exact wa2 hi) _ ?_
    rw [jc,jb3,kad];exact ⟨rfl,rfl⟩
   intro k4 st4 p4 f4 g4
   walk_at "mz"
   simp only [wh] at p4 f4;unfold xa0
   walk_at "mz"
   refine (zq (by exact p4.get0 g3)).mpr ?_
   walk_at "mz"
   refine (zq (by exact g4)).mpr ?_
   walk_at "mz"
   obtain ⟨b,hb⟩:=gcn (p:=p) (n:=d.length) (i:=i) (by exact wa2 hi)
   have hrank:=xcn (val:=dval d) (its p (p + i)) (.int ((p + i:Nat):Int)) b;rw [← hb,hT] at hrank;have hg:((its p d.length).filter fun v=>decide (dval d (.int ((p + i:Nat):Int)) < dval d v)).length=gtN (dval d) (dval d (.int ((p + i:Nat):Int))) (its p d.length):=rfl;have he:((its p (p + i)).filter fun v=>decide (dval d v=dval d (.int ((p + i:Nat):Int)))).length=eqN (dval d) (dval d (.int ((p + i:Nat):Int))) (its p (p + i)):=rfl;rw [hg,he]
   generalize gtN (dval d) (dval d (.int ((p + i:Nat):Int))) (its p d.length)=u at hrank ⊢
   generalize eqN (dval d) (dval d (.int ((p + i:Nat):Int))) (its p (p + i))=w at hrank ⊢
   have hj0:u + w < T.length:=(List.getElem?_eq_some_iff.mp hrank).1;have x4:PV [] (kx σ.st) st4:=PV.of (p3.trans p4);have hrow4:st4[r]?=some (.lst row):=(x1.trans x4).lst0 hrow
   refine (wu (j:=u + w) (by exact hrow4) (by exact xdz hol hr) (by lia) (by exact xc1 hj0 hlen hTl)).mpr ?_
   walk_at "mz"
   refine ⟨?_,?_,?_,?_,row.set (u + w) (.int ((p + i:Nat):Int)),gl (xd hrow4),by rw [List.length_set]; exact hlen,?_⟩
   ·simp only [wah,zb,String.reduceEq,if_false]; exact l1
   ·simp only [wah,zb,String.reduceEq,if_false]; exact l2
   ·simp only [wah,zb,String.reduceEq,if_false]; exact l3
   ·exact ((hx.trans x1).trans x4).setFresh hr
   ·intro j a h1 h2 hTj
    by_cases hja:j=u + w
    ·subst hja
     rw [List.getElem?_set_self (by exact xc1 hj0 hlen hTl)]
     rw [hrank] at hTj;exact hTj
    ·rw [List.getElem?_set_ne (by exact gdz hja)]
     refine hj j a h1 ?_ hTj
     by_cases q:a=p + i
     ·subst q;exact absurd ((List.getElem?_inj hj0 hTn).mp (hrank.trans hTj.symm)).symm hja
     ·exact zd0 h2 q
  ·refine ⟨?_,?_,?_,?_⟩
   ·rfl
   ·rfl
   ·rfl
   ·exact (zy (PV.of p12) _ g2 (by simp) (fun j a h1 h2=>by (exfalso; exact yd0 h2 h1))))
 exact (yh r st' e h)
end
section
noncomputable def Lan (w:List Int):Prop:= ∀ S R:List Int,(S ++ R).Perm w→(S.length:Int) * (S.length - 1)≤2 * S.sum
theorem yau {α:Type} [BEq α] [LawfulBEq α]:∀ {S R A B:List α},(S ++ R).Perm (A ++ B)→∃ SA SB RA RB,S.Perm (SA ++ SB)∧R.Perm (RA ++ RB)∧(SA ++ RA).Perm A∧(SB ++ RB).Perm B:=by
 intro S
 induction S with
 | nil=>
  intro R A B h;exact (zp ([]) ([]) A B (List.Perm.refl _) h (List.Perm.refl _) (List.Perm.refl _))
 | cons y S ih=>
  intro R A B h
  have hm:y∈A ++ B:=h.mem_iff.mp (by simp)
  rcases List.mem_append.mp hm with hA | hB
  ·have h1:(S ++ R).Perm (A.erase y ++ B):=by
    have e:(y :: (S ++ R)).Perm (y :: (A.erase y ++ B)):=h.trans ((List.perm_cons_erase hA).append_right B);exact e.cons_inv
   refine ql (ih h1) fun SA SB RA RB q1 q2 q3 q4=>?_;exact (zp (y :: SA) SB RA RB (q1.cons y) q2 (((q3.cons y)).trans (List.perm_cons_erase hA).symm) q4)
  ·have h1:(S ++ R).Perm (A ++ B.erase y):=by
    have e:(y :: (S ++ R)).Perm (y :: (A ++ B.erase y)):=(h.trans ((List.perm_cons_erase hB).append_left A)).trans List.perm_middle;exact e.cons_inv
   refine ql (ih h1) fun SA SB RA RB q1 q2 q3 q4=>?_;exact (zp SA (y :: SB) RA RB ((q1.cons y).trans List.perm_middle.symm) q2 q3 (((q4.cons y)).trans (List.perm_cons_erase hB).symm))
theorem kr {a b:List Int} (h:a.Perm b):a.sum=b.sum:=by
 induction h with
 | nil=>rfl
 | cons x _ ih=>rw [List.sum_cons,List.sum_cons,ih]
 | swap x y l=>simp only [List.sum_cons]; lia
 | trans _ _ ih1 ih2=>rw [ih1,ih2]
theorem w6 (a b:List Int):(a ++ b).sum=a.sum + b.sum:=by
 induction a with
 | nil=>simp
 | cons x a ih=>simp only [List.cons_append,List.sum_cons,ih]; lia
theorem qa4:∀ a:List Int,(a.map (· - 1)).sum=a.sum - a.length
 | []=>rfl
 | x :: a=>by
  rw [List.map_cons,List.sum_cons,List.sum_cons,qa4 a,List.length_cons]; lia
theorem yb4 {b:Int}:∀ {a:List Int},(∀ x∈a,x≤b)→a.sum≤a.length * b
 | [],_=>by simp
 | x :: a,h=>by
  have h1:=yb4 fun y hy=>h y (List.mem_cons_of_mem _ hy);have h2:=h x List.mem_cons_self
  rw [List.sum_cons,List.length_cons,Int.natCast_add,Int.add_mul]; (first | lia | omega)
theorem Lan.perm {a b:List Int} (h:Lan a) (p:a.Perm b):Lan b:=fun S R q=>h S R (q.trans p.symm)
theorem Lan.nil:Lan []:=by
 intro S R h;have:=h.length_eq
 simp at this
 rw [this.1]; simp
theorem ga1:∀ {s S R:List Int},s.Pairwise (·≤·)→(S ++ R).Perm s→(s.take S.length).sum≤S.sum
 | [],S,R,_,h=>by
  have:=h.length_eq
  simp at this
  rw [this.1]; simp
 | x :: s,S,R,hs,h=>by
  refine kd (List.pairwise_cons.mp hs) fun h1 h2=>?_
  have hx:x∈S ++ R:=h.mem_iff.mpr (by simp)
  rcases List.mem_append.mp hx with hy | hz
  ·have e:=List.perm_cons_erase hy;have h3:(S.erase x ++ R).Perm s:=((e.append_right R).symm.trans h).cons_inv;have ih:=ga1 h2 h3;rw [e.length_eq,kr e,List.length_cons,List.take_succ_cons,List.sum_cons,List.sum_cons]; lia
  ·cases S with
   | nil=>simp
   | cons y S=>
    have e:=List.perm_cons_erase hz
    have h3:(S ++ (y :: R.erase x)).Perm s:=by
     have:(x :: (S ++ (y :: R.erase x))).Perm (x :: s):=by
      refine List.Perm.trans ?_ h;refine (List.perm_middle.cons x).trans ((List.Perm.swap ..).trans ?_);rw [List.cons_append];refine List.Perm.cons y ?_;exact List.perm_middle.symm.trans (e.symm.append_left S)
     exact this.cons_inv
    have ih:=ga1 h2 h3
    have hy:x≤y:=by
     have hy:y∈x :: s:=h.mem_iff.mp (by simp)
     rcases List.mem_cons.mp hy with rfl | hy
     ·exact Int.le_refl _
     ·exact h1 y hy
    rw [List.length_cons,List.take_succ_cons,List.sum_cons,List.sum_cons]; lia
theorem yc8 {w s:List Int} (hp:s.Perm w) (hs:s.Pairwise (·≤·)) (ht:(w.length:Int) * (w.length - 1)≤2 * w.sum):Lan w↔∀ k,1≤k→k < w.length→(k:Int) * (k - 1)≤2 * (s.take k).sum:=by
 constructor
 ·intro h k h1 h2
  have:=h (s.take k) (s.drop k) (by rw [List.take_append_drop]; exact hp)
  rw [List.length_take,Nat.min_eq_left (by rw [hp.length_eq]; exact wbb h2)] at this
  exact this
 ·intro h S R q;have h3:=ga1 hs (q.trans hp.symm);have hl:=q.length_eq;rw [List.length_append] at hl
  by_cases h0:S.length=0
  ·rw [List.length_eq_zero_iff.mp h0]; simp
  by_cases hn:S.length=w.length
  ·have:R=[]:=List.length_eq_zero_iff.mp (by exact jd0 hl hn)
   rw [this,List.append_nil] at q;rw [kr q,hn]; exact ht
  have:=h S.length (by exact wd0 h0) (by exact qd0 hl hn)
  lia
theorem yco {k j sA sU sR p c:Int} (h0:0≤j) (h1:p + c=k) (hq:(k + j + 1) * (k + j)≤2 * (c + j + (sA + (sU + sR)))) (hR:sR≤j * (k - 1)):k * (k - 1)≤2 * (sA + sU - p):=by
 have h2:0≤j * j:=Int.mul_nonneg h0 h0
 have e:(k + j + 1) * (k + j)=k * k + 2 * (j * k) + j * j + k + j:=by
  rw [Int.add_mul,Int.add_mul,Int.mul_add,Int.mul_add,Int.mul_comm k j]; lia
 rw [Int.mul_sub] at hR ⊢
 lia
section
variable {x:Int} {W U:List Int}
theorem xct (h:Lan (x :: (W ++ U))) {m:Int} (hm:m=W.length + U.length) (ht:2 * (x + (W ++ U).sum)=(m + 1) * m):x≤m:=by
 have:=h (W ++ U) [x] (List.perm_append_singleton ..);rw [List.length_append,Int.natCast_add,← hm] at this
 have e:(m + 1) * m=m * (m - 1) + 2 * m:=by rw [Int.add_mul,Int.mul_sub,Int.one_mul]; lia
 lia
theorem gct (hx:x=U.length) (hW:∀ a∈W,∀ b∈U,b≤a) (h:Lan (x :: (W ++ U))):∀ a∈W,1≤a:=by
 intro a ha
 by_cases h1:1≤a
 ·exact h1
 exfalso;have e:=List.perm_cons_erase ha
 by_cases h0:U=[]
 ·subst h0
  have:=h [x,a] (W.erase a) (by
   rw [List.append_nil]
   exact e.symm.cons x)
  simp at this hx
  lia
 ·have:=h (a :: U) (x :: W.erase a) (by
   refine List.perm_middle.trans (List.Perm.cons x ?_);rw [List.cons_append]
   exact (List.perm_append_comm.cons a).trans (by rw [← List.cons_append]; exact e.symm.append_right U))
  have hs:U.sum≤U.length * 0:=yb4 fun b hb=>by have:=hW a ha b hb; lia
  have hU:0 < U.length:=List.length_pos_iff.mpr h0;rw [List.length_cons,List.sum_cons,Int.natCast_add,Int.mul_sub,Int.add_mul] at this
  have h2:(0:Int)≤U.length * U.length:=Int.mul_nonneg (by exact ja2) (by exact ja2)
  have h3:(U.length:Int) * 1≤U.length * U.length:=Int.mul_le_mul_of_nonneg_left (by lia) (by exact ja2)
  simp only [Int.mul_add] at this
  (first | lia | omega)
theorem zcu (hx:x=U.length) (h:Lan (W.map (· - 1) ++ U)):Lan (x :: (W ++ U)):=by
 intro S R q;have q:(S ++ R).Perm ([x] ++ (W ++ U)):=q;refine ql (yau q) fun SX SB RX RB p1 p2 p3 p4=>?_;refine ql (yau p4) fun SW SU RW RU r1 r2 r3 r4=>?_
 have hl:=h (SW.map (· - 1) ++ SU) (RW.map (· - 1) ++ RU) (by
  refine List.Perm.trans ?_ ((r3.map (· - 1)).append r4);rw [List.map_append,List.append_assoc,List.append_assoc];refine List.Perm.append_left _ ?_;rw [← List.append_assoc,← List.append_assoc]
  exact List.perm_append_comm.append_right _)
 rw [List.length_append,List.length_map,w6,qa4] at hl
 have e1:S.sum=SX.sum + (SW.sum + SU.sum):=by rw [kr p1,w6,kr r1,w6]
 have e2:S.length=SX.length + (SW.length + SU.length):=by rw [p1.length_eq,List.length_append,r1.length_eq,List.length_append]
 have hU:SU.length≤U.length:=by have:=r4.length_eq; rw [List.length_append] at this; exact kd0 this
 have hX:SX=[]∨SX=[x]:=by
  have h1:=p3.length_eq;rw [List.length_append,List.length_singleton] at h1
  match SX,h1 with
  | [],_=>exact .inl rfl
  | [y],_=>
   have:y∈[x]:=p3.mem_iff.mp (by simp)
   rw [List.mem_singleton.mp this]; exact .inr rfl
  | _ :: _ :: _,h=>simp at h; (exfalso; exact xd0 h)
 generalize hk:((SW.length + SU.length:Nat):Int)=k at hl
 rcases hX with rfl | rfl
 ·rw [e1,e2];simp only [List.length_nil,Nat.zero_add,List.sum_nil,Int.zero_add,hk]
  lia
 ·rw [e1,e2];simp only [List.length_singleton,List.sum_singleton,Int.natCast_add,Int.natCast_one];rw [Int.natCast_add] at hk
  have e:(1 + ((SW.length:Int) + SU.length)) * (1 + ((SW.length:Int) + SU.length) - 1)=k * (k - 1) + 2 * k:=by
   rw [hk,show (1 + k - 1:Int)=k by lia,Int.mul_sub,Int.add_mul]; lia
  rw [e]
  lia
theorem xdc (hx:x=U.length) (hW:∀ a∈W,∀ b∈U,b≤a) (h:Lan (x :: (W ++ U))):Lan (W.map (· - 1) ++ U):=by
 have key:∀ (n:Nat) (SW RW SU RU:List Int),SW.length + SU.length=n→(SW ++ RW).Perm W→(SU ++ RU).Perm U→(n:Int) * (n - 1)≤2 * (SW.sum + SU.sum - SW.length):=by
  intro n
  induction n with
  | zero=>
   intro SW RW SU RU hn _ _
   rw [List.length_eq_zero_iff.mp (show SW.length=0 by exact gd0 hn),List.length_eq_zero_iff.mp (show SU.length=0 by exact zd1 hn)]; simp
  | succ n ih=>
   intro SW RW SU RU hn h1 h2
   by_cases hw:∃ a∈SW,(n:Int)≤a - 1
   ·refine ya hw fun a ha hna=>?_
    try clear hw
    have e:=List.perm_cons_erase ha
    have:=ih (SW.erase a) (a :: RW) SU RU (by have:=e.length_eq; rw [List.length_cons] at this; exact yd1 hn this) (List.perm_middle.trans ((e.symm.append_right RW).trans h1)) h2
    rw [kr e,e.length_eq,List.sum_cons,List.length_cons]
    have e3:((n + 1:Nat):Int) * ((n + 1:Nat) - 1)=n * (n - 1) + 2 * n:=by
     rw [Int.natCast_add,Int.mul_sub,Int.mul_sub,Int.add_mul,Int.mul_add]; (first | lia | omega)
    rw [e3,Int.natCast_add]; lia
   by_cases hu:∃ a∈SU,(n:Int)≤a
   ·refine ya hu fun a ha hna=>?_
    try clear hu
    have e:=List.perm_cons_erase ha
    have:=ih SW RW (SU.erase a) (a :: RU) (by have:=e.length_eq; rw [List.length_cons] at this; exact jd1 hn this) h1 (List.perm_middle.trans ((e.symm.append_right RU).trans h2))
    rw [kr e,List.sum_cons]
    have e3:((n + 1:Nat):Int) * ((n + 1:Nat) - 1)=n * (n - 1) + 2 * n:=by
     rw [Int.natCast_add,Int.mul_sub,Int.mul_sub,Int.add_mul,Int.mul_add]; (first | lia | omega)
    rw [e3]; lia
   cases SW with
   | nil=>
    have:=h SU (x :: (RU ++ W)) (by
     refine List.perm_middle.trans (List.Perm.cons x ?_);rw [← List.append_assoc]
     exact (h2.append_right W).trans List.perm_append_comm)
    simp only [List.length_nil,Nat.zero_add] at hn;rw [hn] at this;simp only [List.sum_nil,List.length_nil,Int.zero_add]
    lia
   | cons a SW=>
    have ha:a - 1 < n:=by
     by_cases q:(n:Int)≤a - 1
     ·exact absurd ⟨a,List.mem_cons_self,q⟩ hw
     ·lia
    have haW:a∈W:=h1.mem_iff.mp (by simp)
    have hR:RU.sum≤RU.length * (n:Int):=yb4 fun b hb=>by
     have:=hW a haW b (h2.mem_iff.mp (by simp [hb])); lia
    have hq:=h (x :: ((a :: SW) ++ U)) RW (by
     rw [List.cons_append];refine List.Perm.cons x ?_;rw [List.append_assoc]
     exact ((List.perm_append_comm (l₁:=U) (l₂:=RW)).append_left _).trans (by rw [← List.append_assoc]; exact h1.append_right U))
    have eU:U.sum=SU.sum + RU.sum:=by rw [← kr h2,w6]
    have lU:(U.length:Int)=SU.length + RU.length:=by rw [← h2.length_eq,List.length_append,Int.natCast_add]
    generalize hA:a :: SW=A at *
    simp only [List.sum_cons,List.length_cons,w6,List.length_append] at hq
    have hk:(A.length:Int)=n + 1 - SU.length:=by lia
    refine yco (j:=RU.length) (sR:=RU.sum) (c:=SU.length) (by exact ja2) (by lia) ?_ ?_
    ·have e5:((n + 1:Nat):Int) + RU.length=A.length + U.length:=by lia
     rw [e5,← lU,← hx,← eU]
     have e6:((A.length + U.length + 1:Nat):Int) - 1=A.length + U.length:=by lia
     rw [e6] at hq
     have e7:((A.length + U.length + 1:Nat):Int)=A.length + U.length + 1:=by lia
     rw [e7] at hq;rw [← hx] at hq; exact hq
    ·rw [show ((n + 1:Nat):Int) - 1=n by lia]; exact hR
 intro S R q;refine ql (yau q) fun SW' SU RW' RU p1 p2 p3 p4=>?_
 have back:∀ l:List Int,(l.map (· - 1)).map (· + 1)=l:=by
  intro l;rw [List.map_map]
  conv=>rhs; rw [← List.map_id l]
  refine List.map_congr_left fun a zZ=>?_;show a - 1 + 1=a
  lia
 have forth:∀ l:List Int,(l.map (· + 1)).map (· - 1)=l:=by
  intro l;rw [List.map_map]
  conv=>rhs; rw [← List.map_id l]
  refine List.map_congr_left fun a zZ=>?_;show a + 1 - 1=a
  lia
 have p5:(SW'.map (· + 1) ++ RW'.map (· + 1)).Perm W:=by
  have:=p3.map (· + 1);rw [back,List.map_append] at this;exact this
 have:=key _ (SW'.map (· + 1)) (RW'.map (· + 1)) SU RU rfl p5 p4;have e2:=qa4 (SW'.map (· + 1));rw [forth,List.length_map] at e2;rw [p1.length_eq,List.length_append,kr p1,w6,e2];rw [List.length_map] at this
 lia
end
end
section
theorem jco (k:Int):2 * (k * (k - 1) / 2)=k * (k - 1):=by
 have h:∃ q,k * (k - 1)=2 * q:=by
  rcases (show (∃ j,k=2 * j)∨∃ j,k=2 * j + 1 from by
   by_cases h:k % 2=0
   ·exact .inl ⟨k / 2,by lia⟩
   ·exact .inr ⟨k / 2,by lia⟩) with ⟨j,rfl⟩ | ⟨j,rfl⟩
  ·exact ⟨j * (2 * j - 1),by rw [Int.mul_assoc]⟩
  ·exact ⟨(2 * j + 1) * j,by rw [show 2 * j + 1 - 1=2 * j by lia,Int.mul_left_comm]⟩
 refine qb h fun q e=>?_
 try clear h
 rw [e]; lia
theorem gbg {st:gb} {a:Nat} {w:List Int} (ha:st[a]?=some (.lst (w.map V.int))) (hn:w.length≤50) (ht:(w.length:Int) * (w.length - 1)≤2 * w.sum) :
  ∃ b st',zo [.obj a] st = .ok (.bool b) st'∧Pres [] st st'∧(b=true↔¬ Lan w):=by
 obtain ⟨v,st',e,b,rfl,h⟩:=jah (params:=["wins"]) (body:=w3) (vs:=[.obj a]) (st:=st) (R:=fun v st' => ∃ b,v = .bool b∧Pres [] st st'∧(b=true↔¬ Lan w)) rfl (by
  unfold w3;refine kf ?_
  walk_at "mz"
  refine wcg (by exact ha) (by exact wd1 hn) fun s st1 p1 f1 g1=>?_
  walk_at "mz"
  unfold waq;refine kf ?_
  walk_at "mz"
  refine (zq (by exact p1.get0 ha)).mpr ?_
  walk_at "mz"
  walk_at "mz"
  rw [List.length_map]
  refine (yb (jae (yw (by omega) (by exact kc3 hn) (by exact jar)))).mpr ?_
  walk_at "mz"
  have hl:=yc8 (kaf w) (xax w) ht;have hsl:(w0 w).length=w.length:=(kaf w).length_eq
  refine xad (w.length - 1) (fun i σ=>σ.lo "least" = some (.obj s)∧Pres [] st σ.st∧σ.st[s]?=some (.lst ((w0 w).map V.int))∧∀ k:Nat,1≤k→k < 1 + i→(k:Int) * (k - 1)≤2 * ((w0 w).take k).sum) ?_ ?_ 4096 0 _ (Nat.zero_le _) (by exact qd1 hn) ?_
  ·rintro σ ⟨l1,hp,hs,hk⟩
   refine ⟨by rw [gaa (n:=w.length - 1) σ _ (by exact xc3),List.getElem?_eq_none (by simp)],?_⟩
   unfold jaq
   walk_at "mz"
   refine (gc false rfl hp ?_);simp only [Bool.false_eq_true,false_iff,Classical.not_not]
   exact hl.mpr fun k h1 h2=>hk k h1 (by exact gcv h2)
  ·rintro i σ hi ⟨l1,hp,hs,hk⟩
   refine (ja (.int ((1 + i:Nat):Int)) (by rw [gaa (n:=w.length - 1) σ _ (by exact xc3)]; simp [hi]) ?_)
   unfold xaj gaj
   walk_at "mz"
   walk_at "mz"
   refine wb3 (1 + i) (by exact hs) rfl fun k3 st3 p3 f3 g3=>?_
   rw [← List.map_take] at g3
   walk_at "mz"
   refine (qbg (by exact g3)).mpr ?_
   walk_at "mz"
   rw [qby]
   refine ⟨by omega,?_⟩
   walk_at "mz"
   rw [ybi]
   refine ⟨by exact qbs,?_⟩
   walk_at "mz"
   have hev:=jco ((1 + i:Nat):Int);simp only [wh] at p3
   by_cases hlt:((w0 w).take (1 + i)).sum < ((1 + i:Nat):Int) * (((1 + i:Nat):Int) - 1) / 2
   ·rw [decide_eq_true hlt,if_pos rfl]
    walk_at "mz"
    refine (gc true rfl (hp.trans p3) ?_);simp only [true_iff];intro hL
    have:=hl.mp hL (1 + i) (by exact kd1) (by exact xd1 hi)
    lia
   ·rw [decide_eq_false hlt,if_neg (by decide)]
    walk_at "mz"
    refine ⟨?_,hp.trans p3,p3.get0 hs,fun k h1 h2=>?_⟩
    ·simp only [zb,String.reduceEq,if_false]; exact l1
    ·by_cases q:k=1 + i
     ·subst q; lia
     ·exact hk k h1 (by exact gd1 h2 q)
  ·refine ⟨?_,p1,g1,fun k h1 h2=>by lia⟩
   simp only [zb,if_true])
 exact (yh b st' e h)
end
section
theorem Pres.setNew {L:List Nat} {a b:gb} {r:Nat} {c:Cel} (x:Pres L a b) (h:a.length≤r):Pres L a (b.set r c) :=
 ⟨by rw [List.length_set]; exact x.1,fun k hk hl=>by rw [List.getElem?_set_ne (by exact ybs hk h)]; exact x.2 k hk hl⟩
theorem ycu {σ:S} {mc:Nat→(S→Nat→Option (Option V))→M Unit} {l:Nat} {v:V} {Q:Unit→S→Prop} (hok:jf v σ = .ok () σ) (h:MW (mc l (yf v)) σ Q):MW (qal mc l v) σ Q:=by
 refine jm h fun u σ' e q=>?_
 try clear h
 refine (yh () σ' ?_ q);unfold qal;rw [hok];dsimp only;rw [e]
section
variable {σ:S}
theorem jcu {x y:String} {v w:V} {Q:Unit→S→Prop}:MW (ja3 [x,y] (.tup [v,w])) σ Q↔Q () ((σ.put y w).put x v):=yb rfl
end
theorem wco (ns:List Int) (a b c:Option Int):∃ ms:List Int,waf (ns.map V.int) a b c=ms.map V.int:=by
 unfold waf;rw [List.length_map]
 generalize sliceRange _ _ _=is
 refine ⟨is.filterMap (ns[·]?),?_⟩
 induction is with
 | nil=>rfl
 | cons i is ih=>
  rw [List.filterMap_cons,List.filterMap_cons,List.getElem?_map]
  cases ns[i]? with
  | none=>exact ih
  | some x=>exact congrArg (V.int x :: ·) ih
theorem qca:∀ {w:List Int} {i:Nat} {y:Int} (h:i < w.length),(w.set i y).sum=w.sum - w[i] + y
 | x :: w,0,y,_=>by simp only [List.set_cons_zero,List.sum_cons,List.getElem_cons_zero]; lia
 | x :: w,i + 1,y,h=>by
  simp only [List.length_cons] at h;simp only [List.set_cons_succ,List.sum_cons,List.getElem_cons_succ]
  rw [qca (by exact zd2 h)]; lia
theorem gcg {w:List Int} {i:Nat} {y:Int} (h:∀ x∈w,0≤x) (hy:0≤y):∀ x∈w.set i y,0≤x:=by
 intro x hx
 rcases List.mem_or_eq_of_mem_set hx with h1 | rfl
 ·exact h x h1
 ·exact hy
theorem map_set (w:List Int) (i:Nat) (y:Int):(w.map V.int).set i (.int y)=(w.set i y).map V.int:=by rw [List.map_set]
noncomputable def zc5 (n:Nat) (gs:List V):Prop:= ∀ g∈gs,∃ a b:Nat,g = .tup [.int a,.int b]∧a < n∧b < n
structure Wins (n:Nat) (w:List Int) (s:Int):Prop where
 len:w.length=n
 pos:∀ x∈w,0≤x
 sum:w.sum=s
theorem Wins.add {n:Nat} {w:List Int} {s:Int} (h:Wins n w s) {i:Nat} {d:Int} (hi:i < w.length) (hd:0≤w[i] + d):Wins n (w.set i (w[i] + d)) (s + d) :=
 ⟨by rw [List.length_set]; exact h.len,gcg h.pos hd,by rw [qca hi,h.sum]; lia⟩
theorem jc8 {st:gb} {a:Nat} {ns:List Int} (ha:st[a]?=some (.lst (ns.map V.int))) (h0:0 < st.length) (hn:ns.length≤63) :
  ∃ r st' w n,jag [.obj a] st = .ok (.obj r) st'∧Pres [] st st'∧st.length≤r∧st'[r]?=some (.lst (w.map V.int))∧4≤n∧n≤12∧∃ s,Wins n w s∧2 * s=(n:Int) * (n - 1):=by
 obtain ⟨v,st',e,r,rfl,w,n,h⟩:=jah (params:=["script"]) (body:=yag) (vs:=[.obj a]) (st:=st) (R:=fun v st' => ∃ r,v = .obj r∧∃ w n,Pres [] st st'∧st.length≤r∧st'[r]?=some (.lst (w.map V.int))∧4≤n∧n≤12∧∃ s,Wins n w s∧2 * s=(n:Int) * (n - 1)) rfl (by
  unfold yag;refine kf ?_
  walk_at "mz"
  refine (zq (by exact ha)).mpr ?_
  walk_at "mz"
  rw [jao]
  refine ⟨by lia,?_⟩
  walk_at "mz"
  rw [List.length_map]
  obtain ⟨n,hn1⟩ : ∃ n:Nat,(4 + (ns.length:Int) % 9)=n:=⟨4 + ns.length % 9,by lia⟩
  rw [hn1]
  have hn4:4≤n∧n≤12:=by lia
  unfold ka0;refine kf ?_
  walk_at "mz"
  have hsm:∀ m:Nat,m≤100→Builtin.Range.small 0 (m:Int) 1=true:=fun m hm=>yw (by exact qcd) (by omega) (by exact jar)
  have hnx:∀ (σ:S) (m i:Nat),yf (.rng 0 (m:Int) 1) σ i=some (if i < m then some (V.int i) else none):=by
   intro σ m i
   rw [gaa (n:=m) σ i (by lia),List.getElem?_map]
   by_cases q:i < m
   ·rw [if_pos q,List.getElem?_range q]; simp
   ·rw [if_neg q,List.getElem?_eq_none (by simp; exact nL2 q)]; rfl
  refine za8 (jae (hsm n (by exact zc2 hn4))) ?_
  unfold wa0
  refine zbb n (fun i σ' => ∃ gs,σ'.st=st ++ [.lst gs]∧zc5 n gs∧2 * (gs.length:Int)=i * (i - 1)) ?_ ?_ 4096 _ (by exact yd2 hn4) ⟨[],rfl,fun g hg=>by simp at hg,rfl⟩
  rotate_left
  ·rintro i σ hi ⟨gs,e1,e2,e3⟩
   refine (ja (.int i) (by rw [hnx,if_pos hi]) ?_)
   unfold wap qap kap
   walk_at "mz"
   rw [if_pos rfl]
   walk_at "mz"
   refine ycu (jae (hsm i (by exact jd2 hn4 hi))) ?_
   unfold jap
   refine zbb i (fun j σ'=>σ'.lo "other" = some (.int i)∧∃ gs,σ'.st=st ++ [.lst gs]∧zc5 n gs∧2 * (gs.length:Int)=i * (i - 1) + 2 * j) ?_ ?_ 4096 _ (by exact wd2 hn4 hi) ⟨by simp only [zb,if_true],gs,(by exact e1),e2,by rw [e3]; simp⟩
   ·rintro σ ⟨_,gs,e1,e2,e3⟩
    refine (zy (by rw [hnx,if_neg (by exact wbs)]) gs e1 e2 ?_)
    rw [e3,show ((i + 1:Nat):Int) - 1=i by lia,Int.natCast_add,Int.add_mul,Int.mul_sub]; (first | lia | omega)
   ·rintro j σ hj ⟨l1,gs,e1,e2,e3⟩
    refine (ja (.int j) (by rw [hnx,if_pos hj]) ?_)
    unfold waj qaj kaj
    walk_at "mz"
    rw [if_pos rfl]
    walk_at "mz"
    refine (zbe (by simp)).mpr ?_
    walk_at "mz"
    have hgl:gs.length < 1000000:=by
     have:(i:Int) * (i - 1)≤12 * 12:=by
      have h1:(i:Int) * (i - 1)≤12 * (i - 1)∨i=0:=by
       by_cases q:i=0
       ·exact .inr q
       ·exact .inl (Int.mul_le_mul_of_nonneg_right (by lia) (by lia))
      rcases h1 with h1 | rfl
      ·lia
      ·simp
     lia
    refine gam (by dsimp only [wh]; rw [e1]; exact List.getElem?_concat_length) (by show st.length≠0; exact yc0 h0) hgl ⟨?_,gs ++ [.tup [.int j,.int i]],?_,?_,?_⟩
    ·show (σ.put "one" (.int j)).lo "other" = _
     simp only [zb,String.reduceEq,if_false]; exact l1
    ·show (σ.put "one" (.int j)).st.set st.length _=_
     rw [wh,e1,List.set_append_right _ _ (Nat.le_refl _),Nat.sub_self]; rfl
    ·intro g hg
     rcases List.mem_append.mp hg with hg | hg
     ·exact e2 g hg
     ·rw [List.mem_singleton.mp hg]; exact (gk j i rfl (by exact nL56 hj hi) (by exact hi))
    ·rw [List.length_append,List.length_singleton]; lia
  rintro σ1 ⟨gs,e1,e2,e3⟩
  refine ⟨by rw [hnx,if_neg (by exact wbs)],?_⟩
  walk_at "mz"
  have hG:0 < gs.length∧gs.length≤200:=by
   have h1:(4:Int) * (n - 1)≤n * (n - 1):=Int.mul_le_mul_of_nonneg_right (by omega) (by exact gc3 hn4)
   have h2:(n:Int) * (n - 1)≤12 * (n - 1):=Int.mul_le_mul_of_nonneg_right (by lia) (by exact gc3 hn4)
   lia
  have p1:Pres [] st σ1.st:=by rw [e1]; exact Pres.app ..
  have hg1:σ1.st[st.length]?=some (.lst gs):=by rw [e1]; exact List.getElem?_concat_length
  unfold qa0;refine kf ?_
  walk_at "mz"
  refine gba (by simp) fun k2 st2 p2 f2 g2=>?_
  walk_at "mz"
  refine kb3 (by exact g2) (by simp; omega) fun r st3 p3 f3 g3=>?_
  walk_at "mz"
  simp only [wh] at p2 f2;have p13:Pres [] st st3:=(p1.trans p2).trans p3
  have hr:st.length≤r:=by have h1:=p1.1; have h2:=p2.1; have f3':st2.length≤r:=f3; exact qd2 h1 h2 f3'
  have hgr:r≠st.length:=by
   have h1:=xd hg1;have h2:=p2.1;have f3':st2.length≤r:=f3;exact kd2 h1 h2 f3'
  have hw0:st3[r]?=some (.lst ((List.replicate n (0:Int)).map V.int)):=by
   rw [g3,Int.toNat_natCast,List.map_replicate]
   congr 2
   generalize n=m
   induction m with
   | zero=>rfl
   | succ m ih=>rw [List.replicate_succ,List.flatten_cons,ih,List.replicate_succ]; rfl
  have hW0:Wins n (List.replicate n 0) ((0:Nat):Int):=by
   refine ⟨List.length_replicate,fun x hx=>by rw [(List.mem_replicate.mp hx).2]; exact Int.le_refl _,?_⟩
   generalize n=m
   induction m with
   | zero=>rfl
   | succ m ih=>rw [List.replicate_succ,List.sum_cons,ih]; rfl
  unfold ka7;refine kf ?_
  walk_at "mz"
  have hg3:st3[st.length]?=some (.lst gs):=(p2.trans p3).get0 hg1
  refine (zq (by exact hg3)).mpr ?_
  walk_at "mz"
  walk_at "mz"
  refine (yb (jae (yw (by exact qcd) (by lia) (by exact jar)))).mpr ?_
  walk_at "mz"
  refine xad gs.length (fun k σ=>σ.lo "script" = some (.obj a)∧σ.lo "size" = some (.int n)∧σ.lo "games" = some (.obj st.length)∧σ.lo "wins" = some (.obj r)∧Pres [] st σ.st∧σ.st[st.length]?=some (.lst gs)∧∃ w,σ.st[r]?=some (.lst (w.map V.int))∧Wins n w ((k:Nat):Int)) ?_ ?_ 4096 0 _ (Nat.zero_le _) (by exact xd2 hG) ?_
  rotate_left
  ·rintro k σ hk ⟨l1,l2,l3,l4,hp,hgs,w,hw,W⟩
   refine (ja (.int k) (by rw [hnx,if_pos hk]) ?_)
   unfold jav wav augI
   walk_at "mz"
   walk_at "mz"
   refine yc (e2 gs[k] (List.getElem_mem hk)) fun x y hxy hx hy=>?_
   refine (qp (v:=gs[k]) (j:=k) (by exact hgs) (by rw [ju,if_pos (by exact hk)]) (List.getElem?_eq_getElem hk)).mpr ?_
   walk_at "mz"
   walk_at "mz"
   refine (zq (by exact hgs)).mpr ?_
   walk_at "mz"
   skip
   refine qb (wco ns (some (k:Int)) none (some (gs.length:Int))) fun ms hms=>?_
   have hgl:((gs.length:Nat):Int)≠0:=by lia
   refine (yb (a:=V.obj σ.st.length) (σ':=⟨σ.st ++ [.lst (ms.map V.int)],(σ.put "k" (.int k)).lo⟩) ?_).mpr ?_
   walk_at "mz"
   ·unfold qt;dsimp only [wh]
    rw [hp.get0 ha,show jv (.int (k:Int))=some (some (k:Int)) from rfl,show jv .none=some none from rfl,show jv (.int (gs.length:Int))=some (some (gs.length:Int)) from rfl]
    try dsimp only
    rw [if_neg (fun q=>by injection q with q; lia),hms]
   walk_at "mz"
   refine (qbg (ns:=ms) (by exact List.getElem?_concat_length)).mpr ?_
   walk_at "mz"
   rw [jao]
   refine ⟨by exact qbs,?_⟩
   walk_at "mz"
   obtain ⟨j,hj,hjn⟩ : ∃ j:Nat,MW (getI gs[k] (.int ((ms.sum + k) % 2))) ⟨σ.st ++ [.lst (ms.map V.int)],(σ.put "k" (.int k)).lo⟩ (fun v σ'=>v = .int j∧σ'=⟨σ.st ++ [.lst (ms.map V.int)],(σ.put "k" (.int k)).lo⟩)∧j < n:=by
    rw [hxy]
    rcases (show (ms.sum + k) % 2=0∨(ms.sum + k) % 2=1 by lia) with q | q
    ·rw [q]; exact (ja x ((jbi (k:=0) (j:=0) rfl rfl).mpr ⟨rfl,rfl⟩) hx)
    ·rw [q]; exact (ja y ((jbi (k:=1) (j:=1) rfl rfl).mpr ⟨rfl,rfl⟩) hy)
   refine hj.mono fun v σ' hv=>?_;refine kd hv fun o_331 o_332=>?_
   try clear hv
   obtain rfl:=o_331;obtain rfl:=o_332;have pa:Pres [] σ.st (σ.st ++ [Cel.lst (ms.map V.int)]):=Pres.app ..
   have hjw:j < w.length:=by rw [W.len]; exact hjn
   have hwj:(w.map V.int)[j]?=some (.int w[j]):=by rw [List.getElem?_map,List.getElem?_eq_getElem hjw]; rfl
   walk_at "mz"
   refine (qp (v:= .int w[j]) (j:=j) (by exact pa.get0 hw) (by rw [ju,if_pos (by rw [List.length_map]; exact hjw)]) hwj).mpr ?_
   walk_at "mz"
   refine (wu (j:=j) (by exact pa.get0 hw) (by exact wcd hgr hr) rfl (by rw [List.length_map]; exact hjw)).mpr ?_
   walk_at "mz"
   refine ⟨?_,?_,?_,?_,(hp.trans pa).setNew hr,?_,w.set j (w[j] + 1),?_,?_⟩
   ·simp only [zb,String.reduceEq,if_false]; exact l1
   ·simp only [zb,String.reduceEq,if_false]; exact l2
   ·simp only [zb,String.reduceEq,if_false]; exact l3
   ·simp only [zb,String.reduceEq,if_false]; exact l4
   ·show (List.set _ r _)[st.length]?=_;rw [List.getElem?_set_ne hgr]; exact pa.get0 hgs
   ·show (List.set _ r _)[r]?=_;rw [gl (xd (pa.get0 hw)),map_set]
   ·have:=W.pos w[j] (List.getElem_mem hjw)
    have:=W.add (d:=1) hjw (by lia)
    rwa [show ((k:Nat):Int) + 1=((k + 1:Nat):Int) by lia] at this
  ·refine ⟨?_,?_,?_,?_,p13,hg3,_,hw0,hW0⟩
   ·rfl
   ·rfl
   ·rfl
   ·rfl
  rintro σ ⟨l1,l2,l3,l4,hp,hgs,w,hw,W⟩
  refine ⟨by rw [hnx,if_neg (by exact wbs)],?_⟩
  try dsimp only
  unfold qa7;refine kf ?_
  walk_at "mz"
  refine (qbg (by exact hp.get0 ha)).mpr ?_
  walk_at "mz"
  rw [jao]
  refine ⟨by exact zc4 hn4,?_⟩
  walk_at "mz"
  refine (qbg (by exact hp.get0 ha)).mpr ?_
  walk_at "mz"
  rw [ybi]
  refine ⟨by exact zc4 hn4,?_⟩
  walk_at "mz"
  rw [jao]
  refine ⟨by omega,?_⟩
  walk_at "mz"
  refine (zbe (by simp)).mpr ?_
  refine jc.mpr (jcu.mpr ?_)
  walk_at "mz"
  obtain ⟨to,hto⟩ : ∃ to:Nat,ns.sum / ((n:Int) + 1) % n=to∧to < n:=by
   have h1:0≤ns.sum / ((n:Int) + 1) % n:=Int.emod_nonneg _ (by omega)
   have h2:ns.sum / ((n:Int) + 1) % n < n:=Int.emod_lt_of_pos _ (by lia)
   exact (ja ((ns.sum / ((n:Int) + 1) % n).toNat) (by lia) (by lia))
  rw [hto.1]
  have hc0:0≤ns.sum % ((n:Int) + 1):=Int.emod_nonneg _ (by lia)
  generalize ns.sum % ((n:Int) + 1)=c at hc0
  unfold wa7;refine kf ?_
  walk_at "mz"
  refine (yb (jae (hsm n (by exact zc2 hn4)))).mpr ?_
  walk_at "mz"
  refine xad n (fun k σ=>σ.lo "wins" = some (.obj r)∧σ.lo "to" = some (.int to)∧(∃ c,σ.lo "count" = some (.int c)∧0≤c)∧Pres [] st σ.st∧∃ w,σ.st[r]?=some (.lst (w.map V.int))∧Wins n w (gs.length:Int)) ?_ ?_ 4096 0 _ (Nat.zero_le _) (by exact gd2 hn4) ?_
  ·rintro σ ⟨l4,l5,_,hp,w,hw,W⟩
   refine ⟨by rw [hnx,if_neg (by exact wbs)],?_⟩
   try dsimp only
   unfold ja7
   walk_at "mz"
   exact ⟨r,rfl,w,n,hp,hr,hw,hn4.1,hn4.2,_,W,e3⟩
  ·rintro k σ hk ⟨l4,l5,⟨c,l6,hc⟩,hp,w,hw,W⟩
   refine (ja (.int k) (by rw [hnx,if_pos hk]) ?_)
   unfold zav yav
   walk_at "mz"
   walk_at "mz"
   by_cases hkt:(k:Int)=to
   ·rw [decide_eq_true hkt];simp only [Bool.not_true,Bool.false_eq_true,if_false,xc];refine (war ?_ ?_ ⟨c,?_,hc⟩ hp w hw W)
    ·simp only [zb,String.reduceEq,if_false]; exact l4
    ·simp only [zb,String.reduceEq,if_false]; exact l5
    ·simp only [zb,String.reduceEq,if_false]; exact l6
   ·rw [decide_eq_false hkt];simp only [Bool.not_false,if_true]
    have hkw:k < w.length:=by rw [W.len]; exact hk
    have hwk:(w.map V.int)[k]?=some (.int w[k]):=by rw [List.getElem?_map,List.getElem?_eq_getElem hkw]; rfl
    refine kf ?_
    walk_at "mz"
    refine (qp (v:= .int w[k]) (j:=k) (by exact hw) (by rw [ju,if_pos (by rw [List.length_map]; exact hkw)]) hwk).mpr ?_
    walk_at "mz"
    walk_at "mz"
    have hwp:=W.pos w[k] (List.getElem_mem hkw)
    generalize hsome:(if w[k] < c then w[k] else c)=m
    have hm:0≤m∧m≤w[k]∧m≤c:=by rw [← hsome]; split <;> (first | lia | omega)
    unfold ya7;refine kf ?_;unfold augI
    walk_at "mz"
    refine (qp (v:= .int w[k]) (j:=k) (by exact hw) (by rw [ju,if_pos (by rw [List.length_map]; exact hkw)]) hwk).mpr ?_
    walk_at "mz"
    walk_at "mz"
    refine (wu (j:=k) (by exact hw) (by exact wcd hgr hr) rfl (by rw [List.length_map]; exact hkw)).mpr ?_
    walk_at "mz"
    rw [show w[k] - m=w[k] + -m by lia,map_set]
    have W1:=W.add (d:= -m) hkw (by lia)
    have hw1:((σ.st.set r (.lst ((w.set k (w[k] + -m)).map V.int))):gb)[r]?=some (.lst ((w.set k (w[k] + -m)).map V.int)):=gl (xd hw)
    generalize w.set k (w[k] + -m)=w1 at W1 hw1
    have htw:to < w1.length:=by rw [W1.len]; exact hto.2
    have hwt:(w1.map V.int)[to]?=some (.int w1[to]):=by rw [List.getElem?_map,List.getElem?_eq_getElem htw]; rfl
    have hwp1:=W1.pos w1[to] (List.getElem_mem htw);unfold za7;refine kf ?_;unfold augI
    walk_at "mz"
    refine (qp (v:= .int w1[to]) (j:=to) (by exact hw1) (by rw [ju,if_pos (by rw [List.length_map]; exact htw)]) hwt).mpr ?_
    walk_at "mz"
    walk_at "mz"
    refine (wu (j:=to) (by exact hw1) (by exact wcd hgr hr) rfl (by rw [List.length_map]; exact htw)).mpr ?_
    walk_at "mz"
    rw [map_set]
    have W2:=W1.add (d:=m) htw (by lia)
    unfold ga6
    walk_at "mz"
    refine (war ?_ ?_ ⟨c - m,rfl,by omega⟩ ((hp.setNew hr).setNew hr) (w1.set to (w1[to] + m)) ?_ ?_)
    ·first | trivial | rfl | exact l4
    ·first | trivial | rfl | exact l5
    ·exact gl (xd hw1)
    ·rw [show (gs.length:Int) + -m + m=gs.length by lia] at W2; exact W2
  ·refine (war ?_ ?_ ⟨c,?_,hc0⟩ hp w hw W)
   ·simp only [zb,String.reduceEq,if_false]; exact l4
   ·simp only [zb,String.reduceEq,if_false,if_true]
   ·simp only [zb,if_true])
 exact (z6 r st' w n e h)
end
section
noncomputable def dv (d:List Int) (a:Int):Int:=d.getD a.toNat 0
noncomputable def itn (p n:Nat):List Int:=(List.range (n - p)).map fun (j:Nat)=>(p:Int) + j
theorem wc8 (p n:Nat):its p n=(itn p n).map V.int:=by unfold its itn; rw [List.map_map]; rfl
theorem qco (d:List Int) (p n:Nat):gd (dval d) (its p n)=(gd (dv d) (itn p n)).map V.int:=by
 rw [wc8,← zbg]; rfl
theorem kca {p n:Nat} {a:Int}:a∈itn p n↔(p:Int)≤a∧a < n:=by
 unfold itn;rw [List.mem_map]
 constructor
 ·rintro ⟨j,hj,rfl⟩
  rw [List.mem_range] at hj
  omega
 ·rintro ⟨h1,h2⟩
  exact (ja ((a - p).toNat) (by rw [List.mem_range]; omega) (by lia))
theorem kco (p n:Nat):(itn p n).Nodup:=by
 unfold itn;refine List.Pairwise.map _ (fun a b h=>?_) List.nodup_range
 omega
theorem zbh {d:List Int} {a:Nat} (h:a < d.length):dv d a=d[a]:=zau h
theorem xca {d:List Int} {p n:Nat} (h:d.length=n):(itn p n).map (dv d)=d.drop p:=by
 unfold itn;rw [List.map_map];refine List.ext_getElem? fun j=>?_;rw [List.getElem?_map,List.getElem?_drop]
 by_cases hj:j < n - p
 ·rw [List.getElem?_range hj,List.getElem?_eq_getElem (by exact yc2 hj h)]
  show some (dv d ((p:Int) + (j:Nat)))=_
  rw [← Int.natCast_add,zbh (by exact yc2 hj h)]
 ·rw [List.getElem?_eq_none (by rw [List.length_range]; exact zd3 hj),List.getElem?_eq_none (by exact yd3 h hj)]; rfl
noncomputable def dec (d:List Int) (l:List Int):List Int:=l.foldl (fun d a=>d.set a.toNat (dv d a - 1)) d
theorem jbb (d l:List Int) (a:Int):dec d (l ++ [a])=(dec d l).set a.toNat (dv (dec d l) a - 1):=by unfold dec; rw [List.foldl_append]; rfl
theorem jau (d l:List Int):(dec d l).length=d.length:=by
 refine qba (P:=fun l=>(dec d l).length=d.length) rfl (fun l a ih=>?_) l;rw [jbb,List.length_set]; exact ih
theorem gdc {d:List Int} {a b:Int} {y:Int} (ha:0≤a∧a < d.length) (hb:0≤b):dv (d.set a.toNat y) b=if b=a then y else dv d b:=by
 unfold dv;rw [List.getD_eq_getElem?_getD,List.getD_eq_getElem?_getD]
 by_cases h:b=a
 ·subst h
  rw [if_pos rfl,List.getElem?_set_self (by lia)]; rfl
 ·rw [if_neg h,List.getElem?_set_ne (by lia)]
theorem zdd {d:List Int}:∀ {l:List Int},l.Nodup→(∀ a∈l,0≤a∧a < d.length)→∀ b:Int,0≤b→dv (dec d l) b=dv d b - (if b∈l then 1 else 0):=by
 intro l
 refine qba (α:=Int) (P:=fun (l:List Int)=>l.Nodup→(∀ a∈l,0≤a∧a < d.length)→∀ b:Int,0≤b→dv (dec d l) b=dv d b - (if b∈l then 1 else 0)) ?_ (fun l a ih=>?_) l
 ·intro _ _ b _; simp [dec]
 ·intro hn hl b hb;refine yt (List.nodup_append.mp hn) fun n1 zZ n2=>?_
  have hal:a∉l:=fun q=>n2 a q a (by simp) rfl
  have h0:=hl a (by simp)
  have ih':=ih n1 fun c hc=>hl c (List.mem_append_left _ hc)
  rw [jbb,gdc ⟨h0.1,by rw [jau]; exact h0.2⟩ hb]
  by_cases h:b=a
  ·subst h
   rw [if_pos rfl,ih' b hb,if_neg hal,if_pos (by simp)]; lia
  ·rw [if_neg h,ih' b hb]
   have e:(b∈l ++ [a])=(b∈l):=by simp [h]
   simp only [e]
structure Turn (w d:List Int) (p n:Nat):Prop where
 len:d.length=n
 pos:∀ x∈d.drop p,0≤x
 sum:2 * (d.drop p).sum=((n:Int) - p) * ((n:Int) - p - 1)
 lan:Lan w↔Lan (d.drop p)
section
variable {w d:List Int} {p n:Nat}
theorem Turn.head (T:Turn w d p n) (hp:p < n):d.drop p=dv d p :: d.drop (p + 1):=by
 have h:p < d.length:=by rw [T.len]; exact hp
 rw [List.drop_eq_getElem_cons h,zbh h]
theorem Turn.rest_len (T:Turn w d p n):(d.drop (p + 1)).length=n - (p + 1):=by rw [List.length_drop,T.len]
theorem Turn.sum1 (T:Turn w d p n) (hp:p < n):2 * (dv d p + (d.drop (p + 1)).sum)=(((n - (p + 1):Nat):Int) + 1) * ((n - (p + 1):Nat):Int):=by
 have:=T.sum;rw [T.head hp,List.sum_cons] at this
 have e:(n:Int) - p=((n - (p + 1):Nat):Int) + 1:=by (first | lia | omega)
 rw [e] at this
 rw [this,show ((n - (p + 1):Nat):Int) + 1 - 1=((n - (p + 1):Nat):Int) by lia]
theorem Turn.much (T:Turn w d p n) (hp:p < n) (h:((n - (p + 1):Nat):Int) < dv d p):¬ Lan w:=by
 intro hL;have h1:=T.lan.mp hL;rw [T.head hp] at h1
 have h2:Lan (dv d p :: (d.drop (p + 1) ++ [])):=by rw [List.append_nil]; exact h1
 have h3:=xct h2 (m:=((n - (p + 1):Nat):Int)) (by rw [T.rest_len]; simp) (by rw [List.append_nil]; exact T.sum1 hp)
 lia
theorem Turn.play (T:Turn w d p n) (hp:p < n) {c:Nat} (hc:(c:Int)=((n - (p + 1):Nat):Int) - dv d p) :
  ((∃ a∈(gd (dv d) (itn (p + 1) n)).take c,dv d a < 1)→¬ Lan w)∧((∀ a∈(gd (dv d) (itn (p + 1) n)).take c,1≤dv d a)→Turn w (dec d ((gd (dv d) (itn (p + 1) n)).take c)) (p + 1) n):=by
 have hx:0≤dv d p:=T.pos _ (by rw [T.head hp]; simp)
 have hperm:(gd (dv d) (itn (p + 1) n)).Perm (itn (p + 1) n):=qi _;have hdesc:gm (dv d) (gd (dv d) (itn (p + 1) n)):=qx _
 generalize hS:gd (dv d) (itn (p + 1) n)=S at hperm hdesc ⊢
 have hl:S.length=n - (p + 1):=by rw [hperm.length_eq]; unfold itn; simp
 have hcl:c≤S.length:=by lia
 have e0:S.take c ++ S.drop c=S:=List.take_append_drop ..
 have hv:((S.take c).map (dv d) ++ (S.drop c).map (dv d)).Perm (d.drop (p + 1)):=by
  rw [← List.map_append,e0,← xca (p:=p + 1) T.len];exact hperm.map _
 have hlan:Lan w↔Lan (dv d p :: ((S.take c).map (dv d) ++ (S.drop c).map (dv d))):=by
  rw [T.lan,T.head hp];exact ⟨fun h=>h.perm (hv.symm.cons _),fun h=>h.perm (hv.cons _)⟩
 have hU:dv d p=(((S.drop c).map (dv d)).length:Int):=by rw [List.length_map,List.length_drop]; omega
 have hWU:∀ a∈(S.take c).map (dv d),∀ b∈(S.drop c).map (dv d),b≤a:=by
  intro a ha b hb;refine ya (List.mem_map.mp ha) fun a' ha' o_333=>?_;obtain rfl:=o_333;refine ya (List.mem_map.mp hb) fun b' hb' o_334=>?_;obtain rfl:=o_334
  have h0:gm (dv d) (S.take c ++ S.drop c):=by rw [e0]; exact hdesc
  exact (List.pairwise_append.mp h0).2.2 a' ha' b' hb'
 refine ⟨?_,fun h1=>?_⟩
 ·rintro ⟨a,ha,h1⟩ hL
  have:=gct hU hWU (hlan.mp hL) (dv d a) (List.mem_map_of_mem ha)
  lia
 ·have hSn:S.Nodup:=hperm.symm.nodup (kco ..);have hmem:∀ a∈S,((p + 1:Nat):Int)≤a∧a < n:=fun a ha=>kca.mp (hperm.mem_iff.mp ha)
  have hin:∀ a∈S.take c,0≤a∧a < d.length:=by
   intro a ha;have:=hmem a (List.mem_of_mem_take ha);rw [T.len]; omega
  have hdd:=zdd (d:=d) (hSn.sublist (List.take_sublist ..)) hin
  have hne:∀ a∈S.drop c,a∉S.take c:=by
   intro a ha q
   have h0:(S.take c ++ S.drop c).Nodup:=by rw [e0]; exact hSn
   exact (List.nodup_append.mp h0).2.2 a q a ha rfl
  have hlen:(dec d (S.take c)).length=n:=by rw [jau,T.len]
  have hv':(((S.take c).map (dv d)).map (· - 1) ++ (S.drop c).map (dv d)).Perm ((dec d (S.take c)).drop (p + 1)):=by
   rw [← xca (p:=p + 1) hlen]
   have e1:((S.take c).map (dv d)).map (· - 1)=(S.take c).map (dv (dec d (S.take c))):=by
    rw [List.map_map];refine List.map_congr_left fun a ha=>?_;rw [hdd a (hin a ha).1,if_pos ha]; rfl
   have e2:(S.drop c).map (dv d)=(S.drop c).map (dv (dec d (S.take c))):=by
    refine List.map_congr_left fun a ha=>?_;have:=hmem a (List.mem_of_mem_drop ha)
    rw [hdd a (by lia),if_neg (hne a ha)]; lia
   rw [e1,e2,← List.map_append,e0];exact hperm.map _
  refine ⟨hlen,?_,?_,?_⟩
  ·intro x hx'
   rcases List.mem_append.mp (hv'.mem_iff.mpr hx') with h | h
   ·refine ya (List.mem_map.mp h) fun y hy o_335=>?_;obtain rfl:=o_335;refine ya (List.mem_map.mp hy) fun a ha o_336=>?_;obtain rfl:=o_336;have:=h1 a ha;show 0≤dv d a - 1
    lia
   ·refine T.pos x ?_;rw [T.head hp];exact List.mem_cons_of_mem _ (hv.mem_iff.mp (List.mem_append_right _ h))
  ·have s1:=T.sum1 hp;rw [← kr hv,w6] at s1;rw [← kr hv',w6,qa4,List.length_map,List.length_take,Nat.min_eq_left hcl]
   have e:(n:Int) - ((p + 1:Nat):Int)=((n - (p + 1):Nat):Int):=by (first | lia | omega)
   rw [e]
   generalize ((n - (p + 1):Nat):Int)=m at *
   rw [Int.mul_sub];rw [Int.add_mul] at s1
   lia
  ·rw [hlan];exact ⟨fun h=>(xdc hU hWU h).perm hv',fun h=>zcu hU (h.perm hv'.symm)⟩
theorem Turn.start {s:Int} (W:Wins n w s) (hs:2 * s=(n:Int) * (n - 1)):Turn w w 0 n :=
 ⟨W.len,by rw [List.drop_zero]; exact W.pos,by rw [List.drop_zero,W.sum,hs]; simp,by rw [List.drop_zero]⟩
theorem Turn.done (T:Turn w d n n):Lan w:=by
 rw [T.lan,List.drop_of_length_le (by rw [T.len]; exact Nat.le_refl _)]
 exact Lan.nil
end
end
section
theorem wcu {st':gb} {o a:Nat} {d:List Int} (ho:st'[o]?=some (.lst (d.map V.int))) (ha:a < d.length):LM 0 [.obj o] [.int a] st' = .ok (.int (dval d (.int a))) st':=by
 have e:yap ⟨st',ke ["one", "owed"] [.int a,.obj o]⟩ = .ok (.int (dval d (.int a))) ⟨st',ke ["one", "owed"] [.int a,.obj o]⟩:=by
  have:MW yap ⟨st',ke ["one", "owed"] [.int a,.obj o]⟩ (fun v σ'=>v = .int (dval d (.int a))∧σ'=⟨st',ke ["one", "owed"] [.int a,.obj o]⟩):=by
   unfold yap
   walk_at "mz"
   refine (qp (v:= .int (dval d (.int a))) (j:=a) (by exact ho) (by rw [ju,if_pos (by rw [List.length_map]; exact ha)]) ?_).mpr ⟨rfl,rfl⟩
   rw [List.getElem?_map,List.getElem?_eq_getElem ha,zau ha]; rfl
  refine yc this fun v σ' e o_337 o_338=>?_
  try clear this
  obtain rfl:=o_337;obtain rfl:=o_338;exact e
 show (match yap ⟨st',ke ["one", "owed"] [.int a,.obj o]⟩ with
  | .ok v σ'=>Res.ok v σ'.st
  | .exc e σ'=>.exc e σ'.st
  | .stuck=>.stuck)=_
 rw [e]
noncomputable def tvI:V→Int
 | .int a=>a
 | _=>0
theorem xco {st:gb} {p n:Nat}:∀ x∈its p n,ElAt st false tvI x:=by
 intro x hx m hm;refine ya (wa4 hx) fun a o_339 zZ=>?_;obtain rfl:=o_339
 obtain ⟨k,rfl⟩ : ∃ k,m=k + 1:=⟨m - 1,by exact jd3 hm⟩
 rfl
theorem gca {st:gb} {o lk p:Nat} {d:List Int} {L:List Nat} (ho:st[o]?=some (.lst (d.map V.int))) (hlk:st[lk]?=some (.clo 0 [.obj o])) (hoL:o∉L) (hkL:lk∉L):KeyM LM L st (its p d.length) tvI (.obj lk) (dval d):=by
 refine .inr (zd lk 0 ([.obj o]) rfl hlk hkL (fun st' hp x hx=>?_));refine yd (wa4 hx) fun a o_340 zZ h2=>?_;obtain rfl:=o_340;exact wcu (hp.get ho hoL) h2
theorem qcu {st:gb} {o lk bl p c:Nat} {d:List Int} (ho:st[o]?=some (.lst (d.map V.int))) (hlk:st[lk]?=some (.clo 0 [.obj o])) (hbl:st[bl]?=some (.lst (its p d.length))) (hc:c≤50) (hd:d.length≤50) :
  ∃ r st',zr LM [.int c,.obj bl,.obj lk] st = .ok (.obj r) st'∧Pres [] st st'∧st.length≤r∧st'[r]?=some (.lst ((gd (dval d) (its p d.length)).take c)):=by
 have h0:=xd ho;have hl:=qo p d.length;refine wrap fun G_ hG_=>?_
 obtain ⟨r,st',e,h1,h2,h3⟩:=zbr (LM:=LM) (st:=st) (li:=bl) (nI:=(c:Int)) (items:=its p d.length) (b:=false) (tv:=tvI) (val:=dval d) (k:= .obj lk) (by exact zak h0) hbl (fun st' zZ=>xco) (by exact jc2 hl hd) (gca ho hlk (by simp) (by simp)) (by exact wc1 hc) (by exact wc2 hl hd)
 refine hG_ ?_;clear hG_ G_;refine (zn r st' e h3 h1 ?_);rw [h2,Int.toNat_natCast,qz]
theorem kcu {st:gb} {o lk bl l p c:Nat} {d:List Int} (ho:st[o]?=some (.lst (d.map V.int))) (hlk:st[lk]?=some (.clo 0 [.obj o])) (hbl:st[bl]?=some (.lst (its p d.length))) (hit:st[l]?=some (.itr bl 0 false)) (hl0:0 < l) (hc:c≤50) (hd:d.length≤50) :
  ∃ r st',zr LM [.int c,.obj l,.obj lk] st = .ok (.obj r) st'∧Pres [l] st st'∧st.length≤r∧st'[r]?=some (.lst ((gd (dval d) (its p d.length)).take c)):=by
 have hll:=qo p d.length
 have hbll:bl≠l:=by rintro rfl; rw [hbl] at hit; (exfalso; exact nomatch hit)
 obtain ⟨r,st',e,h1,h2,h3,_⟩:=gbq (LM:=LM) (st:=st) (l:=l) (k0:=bl) (nI:=(c:Int)) (items:=its p d.length) (b:=false) (tv:=tvI) (val:=dval d) (k:= .obj lk) ⟨⟨hl0,xd hit⟩,hbll,hbl,fun st' zZ=>xco,by exact jc2 hll hd⟩
  (gca ho hlk (by rw [List.mem_singleton]; rintro rfl; rw [ho] at hit; (exfalso; exact nomatch hit)) (by rw [List.mem_singleton]; rintro rfl; rw [hlk] at hit; (exfalso; exact nomatch hit))) (by exact wc1 hc) (by exact wc2 hll hd) hit
 refine (zn r st' e h3 h1 ?_);rw [h2,Int.toNat_natCast,qz]
structure At (a o n:Nat) (w d:List Int) (p:Nat) (σ:S):Prop where
 lw:σ.lo "wins" = some (.obj a)
 lo:σ.lo "owed" = some (.obj o)
 lf:σ.lo "fair" = some (.bool true)
 tab:σ.st[1]?=some Cel.tab
 wl:σ.st[a]?=some (.lst (w.map V.int))
 dl:σ.st[o]?=some (.lst (d.map V.int))
 ne:a≠o∧1 < a∧1 < o
 turn:Turn w d p n
noncomputable def Fin (a o n:Nat) (w:List Int) (p:Nat) (f:Fl) (σ:S):Prop:=(f = .next∧∃ d,At a o n w d (p + 1) σ)∨(f = .ret (.bool true)∧σ.st[1]?=some Cel.tab)
theorem gco {a o n p:Nat} {w d:List Int} {σ:S} (A:At a o n w d p σ) (hw:w.length≤50) (ht:(w.length:Int) * (w.length - 1)≤2 * w.sum) (hL:¬ Lan w) {Q:Fl→S→Prop} (hQ:∀ σ',σ'.st[1]?=some Cel.tab→Q (.ret (.bool true)) σ') :
  MW (do let v ← (do let v ← (do let vs ← (do let v ← (getv "wins"); let vs ← (pure []:M (List V)); pure (v :: vs)); xh zo vs); if (← truV v)=true then (getv "fair") else pure v); pure (.ret v):M Fl) σ Q:=by
 have alw:=A.lw;have alf:=A.lf
 walk_at "mz"
 refine yc (gbg A.wl hw ht) fun b st' e hp hb=>?_;rw [hb.mpr hL] at e;refine yae e ?_
 walk_at "mz"
 rw [if_pos rfl]
 walk_at "mz"
 exact hQ _ (hp.get0 A.tab)
theorem qc8 {a o n p c:Nat} {w d:List Int} {σ:S} {wn:Nat} {won:List Int} (A:At a o n w d p σ) (hn:n≤50) (hp:p < n) (hw:w.length=n) (ht:(w.length:Int) * (w.length - 1)≤2 * w.sum)
  (hc:(c:Int)=((n - (p + 1):Nat):Int) - dv d p) (hwon:won=(gd (dv d) (itn (p + 1) n)).take c) (hl:σ.lo "won" = some (.obj wn)) (hwn:σ.st[wn]?=some (.lst (won.map V.int))) (hne:wn≠o):MW wb2 σ (Fin a o n w p):=by
 have alw:=A.lw;have alo:=A.lo;have alf:=A.lf;have hpl:=A.turn.play hp hc;rw [← hwon] at hpl
 have hin:∀ x∈won,((p + 1:Nat):Int)≤x∧x < n:=by
  intro x hx;rw [hwon] at hx;exact kca.mp ((qi _).mem_iff.mp (List.mem_of_mem_take hx))
 have hwl:won.length≤50:=by
  rw [hwon,List.length_take,j4];unfold itn;rw [List.length_map,List.length_range]; exact wd3 hn
 have h0:0 < σ.st.length:=by have:=xd A.tab; exact qd3 this
 have hdl:=A.turn.len;unfold wb2;refine kf ?_
 walk_at "mz"
 refine zan (us:=won.map V.int) (n:=4096) (t:=jba) (c:=wba) (e:=getv "one") (fun v=>if decide (dval d v < 1) then some v else none) (fun zZ zZ=>rfl) (qb3 (by exact hwn)) (by exact h0) (gb9 (by exact hwn)) (by rw [List.length_map]; exact kd3 hwl) (by rw [List.length_map]; exact xd3 hwl) ?_ ?_
 ·intro v hv σ' hag hlo;refine ya (List.mem_map.mp hv) fun x hx o_341=>?_;obtain rfl:=o_341;have h1:=hin x hx
  obtain ⟨k,rfl⟩:=Int.eq_ofNat_of_zero_le (show 0≤x by exact yc4 h1)
  have lo1:σ'.lo "owed" = some (.obj o):=(hlo "owed" (by simp)).trans A.lo
  have hkd:k < d.length:=by omega
  unfold jba wba
  walk_at "mz"
  refine ⟨rfl,fun y hy=>by rw [List.mem_singleton.mp hy]; simp only [zb,String.reduceEq,if_false],?_⟩
  walk_at "mz"
  refine (qp (v:= .int (dval d (.int k))) (j:=k) (by exact (hag o (xd A.dl)).trans A.dl) (by rw [ju,if_pos (by rw [List.length_map]; exact hkd)]) ?_).mpr ?_
  ·rw [List.getElem?_map,List.getElem?_eq_getElem hkd,zau hkd]; rfl
  walk_at "mz"
  refine ⟨rfl,?_⟩
  by_cases hlt:dval d (.int k) < 1
  ·rw [if_pos (decide_eq_true hlt)];refine ⟨decide_eq_true hlt,?_⟩;exact je.mpr (gc _ rfl rfl rfl)
  ·rw [if_neg (by rw [decide_eq_false hlt]; decide)]
   exact decide_eq_false hlt
 ·intro k2 st2 p2 f2 g2
  walk_at "mz"
  refine gba (by simp) fun k3 st3 p3 f3 g3=>?_
  have g2':st2[k2]?=some (.lst ((won.filter fun x=>decide (dv d x < 1)).map V.int)):=by
   rw [g2,xa1,List.filter_map]; rfl
  walk_at "mz"
  refine (gcm (as:=won.filter fun x=>decide (dv d x < 1)) (bs:=[]) (by exact p3.get0 g2') (by exact g3)).mpr ?_
  walk_at "mz"
  have p13:Pres [] σ.st st3:=p2.trans p3;have A3:At a o n w d p ⟨st3,σ.lo⟩:=⟨A.lw,A.lo,A.lf,p13.get0 A.tab,p13.get0 A.wl,p13.get0 A.dl,A.ne,A.turn⟩
  by_cases hf:(won.filter fun x=>decide (dv d x < 1))=[]
  ·rw [decide_eq_true hf];simp only [Bool.not_true,Bool.false_eq_true,if_false,xc]
   have hall:∀ x∈won,1≤dv d x:=by
    intro x hx
    by_cases q:dv d x < 1
    ·have:x∈won.filter fun x=>decide (dv d x < 1):=List.mem_filter.mpr ⟨hx,by simpa using q⟩
     rw [hf] at this; (exfalso; exact nomatch this)
    ·omega
   have T':=hpl.2 hall;unfold zcm
   walk_at "mz"
   have hwn3:=p13.get0 hwn
   refine (yb (qb3 (by exact hwn3))).mpr ?_
   walk_at "mz"
   have hnx:∀ (σ:S) (i:Nat),σ.st[wn]?=some (.lst (won.map V.int))→yf (.obj wn) σ i=some (won.map V.int)[i]?:=fun σ i h=>jct h i
   refine xad won.length (fun i σ'=>σ'.lo "wins" = some (.obj a)∧σ'.lo "owed" = some (.obj o)∧σ'.lo "fair" = some (.bool true)∧σ'.st[1]?=some Cel.tab∧σ'.st[a]?=some (.lst (w.map V.int))∧σ'.st[o]?=some (.lst ((dec d (won.take i)).map V.int))∧σ'.st[wn]?=some (.lst (won.map V.int))) ?_ ?_ 4096 0 _ (Nat.zero_le _) (by exact gd3 hwl) ⟨A.lw,A.lo,A.lf,p13.get0 A.tab,p13.get0 A.wl,p13.get0 A.dl,hwn3⟩
   ·rintro σ' ⟨l1,l2,l3,t1,t2,t3,t4⟩
    refine ⟨by rw [hnx _ _ t4,List.getElem?_eq_none (by simp)],.inl ⟨rfl,dec d won,l1,l2,l3,t1,t2,?_,A.ne,T'⟩⟩
    rw [List.take_length] at t3; exact t3
   ·rintro i σ' hi ⟨l1,l2,l3,t1,t2,t3,t4⟩
    refine (ja (.int won[i]) (by rw [hnx _ _ t4,List.getElem?_map,List.getElem?_eq_getElem hi]; rfl) ?_)
    have h1:=hin won[i] (List.getElem_mem hi)
    obtain ⟨k,hk⟩:=Int.eq_ofNat_of_zero_le (show 0≤won[i] by exact yc4 h1)
    have htk:won.take (i + 1)=won.take i ++ [won[i]]:=by rw [List.take_add_one,List.getElem?_eq_getElem hi]; rfl
    have hdec:dec d (won.take (i + 1))=(dec d (won.take i)).set k (dv (dec d (won.take i)) k - 1):=by rw [htk,jbb,hk,Int.toNat_natCast]
    rw [hdec,hk]
    generalize hD:dec d (won.take i)=D at t3 ⊢
    have hDl:k < D.length:=by rw [← hD,jau]; lia
    unfold yb2 jb2 augI
    walk_at "mz"
    walk_at "mz"
    refine (qp (v:= .int (dv D k)) (j:=k) (by exact t3) (by rw [ju,if_pos (by rw [List.length_map]; exact hDl)]) ?_).mpr ?_
    ·rw [List.getElem?_map,List.getElem?_eq_getElem hDl,zbh hDl]; rfl
    walk_at "mz"
    refine (wu (j:=k) (by exact t3) (by have:=A.ne.2.2; exact zd4 this) rfl (by rw [List.length_map]; exact hDl)).mpr ?_
    walk_at "mz"
    refine ⟨?_,?_,?_,?_,?_,?_,?_⟩
    ·simp only [zb,String.reduceEq,if_false]; exact l1
    ·simp only [zb,String.reduceEq,if_false]; exact l2
    ·simp only [zb,String.reduceEq,if_false]; exact l3
    ·show (List.set _ o _)[1]?=_
     rw [List.getElem?_set_ne (by have:=A.ne.2.2; exact yd4 this)]; exact t1
    ·show (List.set _ o _)[a]?=_;rw [List.getElem?_set_ne (Ne.symm A.ne.1)]; exact t2
    ·show (List.set _ o _)[o]?=_;rw [wh,gl (xd t3),map_set]
    ·show (List.set _ o _)[wn]?=_;rw [List.getElem?_set_ne (Ne.symm hne)]; exact t4
  ·rw [decide_eq_false hf];simp only [Bool.not_false,if_true]
   have hno:¬ Lan w:=by
    refine hpl.1 ?_;refine qah (List.exists_cons_of_ne_nil hf) fun x r hx=>?_
    have:x∈won.filter fun x=>decide (dv d x < 1):=by rw [hx]; simp
    refine kd (List.mem_filter.mp this) fun h1 h2=>?_
    exact (ja x h1 (by simpa using h2))
   exact gco A3 (by exact xbb hw hn) ht hno fun σ' h=>.inr ⟨rfl,h⟩
end
section
theorem xd5 {a b:Nat} (ha:a≤1000) (hb:b≤1000):Builtin.Range.small (a:Int) (b:Int) 1=true∧(Builtin.Range.rangeSize (a:Int) (b:Int) 1).toNat=b - a∧0≤Builtin.Range.rangeSize (a:Int) (b:Int) 1∧Builtin.Range.rangeSize (a:Int) (b:Int) 1≤1000:=by
 refine ⟨yw (by exact jbs ha) (by exact jbs hb) (by exact jar),?_⟩
 have h:=ybb (a:=(a:Int)) (b:=(b:Int)) (c:=1) (by exact wc3)
 rw [h]
 split <;> (first | lia | omega)
theorem kc8 {a o n p:Nat} {w d:List Int} {σ:S} (A:At a o n w d p σ) (hn:n≤50) (hp:p < n) (hw:w.length=n) (ht:(w.length:Int) * (w.length - 1)≤2 * w.sum) (hpl:σ.lo "player" = some (.int p)):MW ja1 σ (Fin a o n w p):=by
 refine wrap fun G_ hG_=>?_;obtain ⟨lw,lo,lf,tab,wl,dl,ne,T⟩:=id A;refine hG_ ?_;clear hG_ G_;have hd:=T.len
 have hx0:0≤dv d p:=T.pos _ (by rw [T.head hp]; simp)
 have hpd:p < d.length:=by exact nL65 hp hd
 unfold ja1;rw [yo];simp only [jc,je,xc,zb,wh,String.reduceEq,if_true,if_false,hpl,lw,Option.some.injEq,exists_eq_left',kcj,kcp,ybw]
 refine (zq (by exact wl)).mpr ?_
 simp only [ybw,xc];rw [List.length_map,hw];refine wrap fun G_ hG_=>?_
 obtain ⟨z1,z2,z3,z4⟩:=xd5 (a:=p + 1) (b:=n) (by exact jd4 hpd hd hn) (by exact kc1 hn)
 refine hG_ ?_;clear hG_ G_
 have e1:(p:Int) + 1=((p + 1:Nat):Int):=by lia
 rw [e1];refine (yb (a:=V.obj σ.st.length) (σ':=⟨σ.st ++ [.lst (its (p + 1) n)],σ.lo⟩) ?_).mpr ?_
 ·unfold wbf;dsimp only;rw [if_pos ⟨z1,z3,z4⟩,z2];unfold its;simp only [Int.mul_one]
 rw [jh];have p1:Pres [] σ.st (σ.st ++ [Cel.lst (its (p + 1) n)]):=Pres.app ..;have g1:(σ.st ++ [Cel.lst (its (p + 1) n)])[σ.st.length]?=some (.lst (its (p + 1) n)):=List.getElem?_concat_length
 generalize σ.st ++ [Cel.lst (its (p + 1) n)]=st1 at p1 g1
 have hbl1:st1[σ.st.length]?=some (.lst (its (p + 1) d.length)):=by rw [hd]; exact g1
 have owe:∀ (st':gb) (lo':String→Option V),st'[o]?=some (.lst (d.map V.int))→∀ Q:V→S→Prop,Q (.int (dv d p)) ⟨st',lo'⟩→MW (getI (.obj o) (.int p)) ⟨st',lo'⟩ Q:=by
  intro st' lo' h Q q
  refine (qp (v:= .int (dv d p)) (j:=p) (by exact h) (by rw [ju,if_pos (by rw [List.length_map]; exact hpd)]) ?_).mpr q
  rw [List.getElem?_map,List.getElem?_eq_getElem hpd,zbh hpd]; rfl
 unfold wcm;rw [yo];simp only [jc,je,xc,zb,wh,String.reduceEq,if_true,if_false,hpl,lw,lo,Option.some.injEq,exists_eq_left'];refine owe _ _ (p1.get0 dl) _ ?_;simp only [zb,wh,String.reduceEq,if_true,if_false,hpl,lw,lo,Option.some.injEq,exists_eq_left']
 refine (zq (by exact g1)).mpr ?_
 rw [qc4,kad,qo]
 by_cases hmuch:((n - (p + 1):Nat):Int) < dv d p
 ·rw [decide_eq_true hmuch,if_pos rfl]
  have A1:At a o n w d p ((⟨st1,σ.lo⟩ : S).put "behind" (.obj σ.st.length)):=⟨by simp only [zb,String.reduceEq,if_false]; exact lw,by simp only [zb,String.reduceEq,if_false]; exact lo,by simp only [zb,String.reduceEq,if_false]; exact lf,p1.get0 tab,p1.get0 wl,p1.get0 dl,ne,T⟩
  exact gco A1 (by exact xbb hw hn) ht (T.much hp hmuch) fun σ' h=>.inr ⟨rfl,h⟩
 rw [decide_eq_false hmuch,if_neg (by decide),xc]
 dsimp only;unfold jcm;rw [yo];simp only [jc,je,xc,zb,wh,String.reduceEq,if_true,if_false,hpl,lw,lo,Option.some.injEq,exists_eq_left']
 refine (zq (by exact g1)).mpr ?_
 simp only [zb,wh,String.reduceEq,if_true,if_false,hpl,lw,lo,Option.some.injEq,exists_eq_left'];refine owe _ _ (p1.get0 dl) _ ?_;rw [xc9,jh,qo]
 obtain ⟨c,hc⟩ : ∃ c:Nat,((n - (p + 1):Nat):Int) - dv d p=c:=⟨(((n - (p + 1):Nat):Int) - dv d p).toNat,by lia⟩
 rw [hc]
 have rest:∀ (st2:gb) (gv:V) (wn:Nat) (lo':String→Option V),Pres [] σ.st st2→st2[wn]?=some (.lst ((gd (dval d) (its (p + 1) n)).take c))→wn≠o→lo' "player" = some (.int p)→lo' "wins" = some (.obj a)→lo' "owed" = some (.obj o)→lo' "fair" = some (.bool true)→lo' "count" = some (.int c)→lo' "won" = some (.obj wn)→
   MW qb2 ⟨st2,lo'⟩ (Fin a o n w p):=by
  intro st2 gv wn lo' hp2 hwn hne k1 k2 k3 k4 k5 k6;unfold qb2;rw [yo];simp only [jc,je,xc,k1,k2,k3,k4,k5,k6,Option.some.injEq,exists_eq_left',kcj];have hdl2:=hp2.get0 dl
  obtain ⟨r,st3,e3,x3,r3,g3⟩:=kct (st:=st2) (o:=o) (p:=p + 1) (d:=d) (by have:=xd tab; have:=hp2.1; exact wd4 (by assumption) this) hdl2 (by exact nL36 hpd) (by exact xbb hd hn)
  rw [e1]
  refine yae (by exact e3) ?_
  simp only [k1,k2,k3,k4,k5,k6,Option.some.injEq,exists_eq_left']
  refine wb3 c (by exact g3) rfl fun k st4 p4 f4 g4=>?_
  dsimp only at p4 f4;have hI:gd (dval d) (its (p + 1) n)=(gd (dv d) (itn (p + 1) n)).map V.int:=qco ..
  have hwn4:st4[wn]?=some (.lst (((gd (dv d) (itn (p + 1) n)).take c).map V.int)):=by
   rw [List.map_take,← hI];exact p4.get0 (x3.lst0 hwn)
  have g4':st4[k]?=some (.lst (((gd (dv d) (itn (p + 1) n)).take c).map V.int)):=by
   rw [List.map_take,← hI,g4,hd]
  refine (gcm (by exact hwn4) (by exact g4')).mpr ?_
  rw [kad,decide_eq_true rfl];simp only [Bool.not_true,Bool.false_eq_true,if_false,xc];have x4:PV [] σ.st st4:=((PV.of hp2).trans x3).trans (PV.of p4);exact qc8 (c:=c) (wn:=wn) ⟨k2,k3,k4,x4.tab0 tab,x4.lst0 wl,x4.lst0 dl,ne,T⟩ hn hp hw ht hc.symm rfl k6 hwn4 hne
 have hol:=xd dl
 have call:∀ (st2:gb) (L:List Nat) (gv:V) (lo':String→Option V),Pres [] σ.st st2→(∀ k∈L,σ.st.length≤k)→(∀ lk st3,Pres [] st2 st3→st3[lk]?=some (.clo 0 [.obj o])→∃ r st4,zr LM [.int c,gv,.obj lk] st3 = .ok (.obj r) st4∧Pres L st3 st4∧st3.length≤r∧st4[r]?=some (.lst ((gd (dval d) (its (p + 1) d.length)).take c)))→
   lo' "player" = some (.int p)→lo' "wins" = some (.obj a)→lo' "owed" = some (.obj o)→lo' "fair" = some (.bool true)→lo' "count" = some (.int c)→lo' "given" = some gv→MW kb2 ⟨st2,lo'⟩ (Fin a o n w p):=by
  intro st2 L gv lo' hp2 hL hnl k1 k2 k3 k4 k5 k6;unfold kb2;rw [yo];simp only [jc,je,xc,k1,k2,k3,k4,k5,k6,Option.some.injEq,exists_eq_left'];have p3:Pres [] st2 (st2 ++ [Cel.clo 0 [.obj o]]):=Pres.app ..;refine (yb (a:=V.obj st2.length) (σ':=⟨st2 ++ [Cel.clo 0 [.obj o]],lo'⟩) ?_).mpr ?_
  ·unfold lamE;dsimp only;rw [hp2.get0 tab];dsimp only
   rw [show mapO lo' ["owed"]=some [.obj o] by unfold mapO; rw [k3]; rfl]
  refine ym (hnl st2.length _ p3 List.getElem?_concat_length) fun r st4 e4 p4 r4 g4=>?_
  refine yae (by exact e4) ?_
  rw [jh]
  have hst:σ.st.length≤r:=by
   have:=hp2.1;rw [List.length_append] at r4; exact qd4 r4 this
  have pf:Pres [] σ.st st4:=by
   have h1:=hp2.trans p3;refine ⟨Nat.le_trans h1.1 p4.1,fun k hk zZ=>?_⟩
   rw [p4.2 k (Nat.lt_of_lt_of_le hk h1.1) (fun q=>by have:=hL k q; exact kcw hk this)]
   exact h1.2 k hk (by simp)
  refine rest st4 gv r _ pf (by rw [hd] at g4; exact g4) (by exact ybs hol hst) ?_ ?_ ?_ ?_ ?_ ?_
  ·simp only [zb,String.reduceEq,if_false]; exact k1
  ·simp only [zb,String.reduceEq,if_false]; exact k2
  ·simp only [zb,String.reduceEq,if_false]; exact k3
  ·simp only [zb,String.reduceEq,if_false]; exact k4
  ·simp only [zb,String.reduceEq,if_false]; exact k5
  ·simp only [zb,if_true]
 have hc50:c≤50:=by omega
 unfold ycm;rw [yo];simp only [jc,je,xc,zb,wh,String.reduceEq,if_true,if_false,hpl,lw,lo,Option.some.injEq,exists_eq_left',jao,jb3,kad]
 refine ⟨by exact qbs,?_⟩
 by_cases hodd:(p:Int) % 2=1
 ·rw [decide_eq_true hodd,if_pos rfl];simp only [jc,je,xc,zb,wh,String.reduceEq,if_true,if_false,Option.some.injEq,exists_eq_left']
  refine (yb (a:=V.obj st1.length) (σ':=⟨st1 ++ [.itr σ.st.length 0 false],_⟩) (by unfold j3; dsimp only [wh]; rw [g1])).mpr ?_
  rw [jh];have p2:Pres [] st1 (st1 ++ [Cel.itr σ.st.length 0 false]):=Pres.app ..
  refine call _ [st1.length] (.obj st1.length) _ (p1.trans p2) (by intro k hk; rw [List.mem_singleton.mp hk]; exact p1.1) ?_ ?_ ?_ ?_ ?_ ?_ ?_
  ·intro lk st3 p3 hlk
   exact kcu (p3.get0 ((p1.trans p2).get0 dl)) hlk (p3.get0 (p2.get0 hbl1)) (p3.get0 List.getElem?_concat_length) (by have:=xd g1; exact zak this) hc50 (by exact xbb hd hn)
  ·simp only [zb,String.reduceEq,if_false]; exact hpl
  ·simp only [zb,String.reduceEq,if_false]; exact lw
  ·simp only [zb,String.reduceEq,if_false]; exact lo
  ·simp only [zb,String.reduceEq,if_false]; exact lf
  ·simp only [zb,String.reduceEq,if_false,if_true]
  ·simp only [zb,if_true]
 ·rw [decide_eq_false hodd,if_neg (by decide)]
  simp only [jc,je,xc,zb,wh,String.reduceEq,if_true,if_false,Option.some.injEq,exists_eq_left',jh]
  refine call st1 [] (.obj σ.st.length) _ p1 (by simp) ?_ ?_ ?_ ?_ ?_ ?_ ?_
  ·intro lk st3 p3 hlk
   exact qcu (p3.get0 (p1.get0 dl)) hlk (p3.get0 hbl1) hc50 (by exact xbb hd hn)
  ·simp only [zb,String.reduceEq,if_false]; exact hpl
  ·simp only [zb,String.reduceEq,if_false]; exact lw
  ·simp only [zb,String.reduceEq,if_false]; exact lo
  ·simp only [zb,String.reduceEq,if_false]; exact lf
  ·simp only [zb,String.reduceEq,if_false,if_true]
  ·simp only [zb,if_true]
theorem law_true (ns:List Int) (hns:ns.length≤63):∃ st',xbf [.obj 0] [.lst (ns.map .int),.tab] = .ok (.bool true) st'∧st'[1]?=some Cel.tab:=by
 suffices h:∃ v st',xbf [.obj 0] [.lst (ns.map .int),.tab] = .ok v st'∧v = .bool true∧st'[1]?=some Cel.tab by
  obtain ⟨v,st',e,rfl,h⟩:=h; exact (ja st' e h)
 unfold xbf
 refine jah (params:=["script"]) (vs:=[.obj 0]) (R:=fun v st'=>v = .bool true∧st'[1]?=some Cel.tab) (by rfl) ?_
 unfold gcf;rw [yo];simp only [jc,je,xc,ke,String.reduceEq,if_true,if_false,Option.some.injEq,exists_eq_left'];refine wrap fun G_ hG_=>?_
 obtain ⟨a,st1,w,n,e1,p1,r1,g1,hn4,hn12,s,W,hs⟩:=jc8 (st:=[.lst (ns.map .int),.tab]) (a:=0) rfl (by simp) hns
 refine hG_ ?_;clear hG_ G_
 refine yae (by exact e1) ?_
 rw [jh];have tab1:st1[1]?=some Cel.tab:=p1.get0 rfl;have hal:=xd g1;have r1':2≤a:=r1;unfold kb9;rw [yo];simp only [jc,je,xc,zb,wh,String.reduceEq,if_true,if_false,Option.some.injEq,exists_eq_left']
 refine kbo (lo:=none) (hi:=none) (ws:=w.map V.int) (by exact g1) rfl rfl (by simp; exact List.take_of_length_le (by rw [List.length_map]; exact Nat.le_refl _)) fun o st2 p2 f2 g2=>?_
 rw [yca];dsimp only [wh] at p2 f2;have x2:PV [] st1 (kx st2):=(PV.of p2).trans (PV.kill st2)
 have ht:(w.length:Int) * (w.length - 1)≤2 * w.sum:=by rw [W.len,W.sum,hs]; exact Int.le_refl _
 unfold qb9;rw [yo];simp only [jc,xc,jh];unfold wb9;rw [yo];simp only [jc,je,xc,zb,wh,wah,jca,String.reduceEq,if_true,if_false,Option.some.injEq,exists_eq_left',zu]
 refine (zq (by exact x2.lst0 g1)).mpr ?_
 simp only [xc];rw [List.length_map,W.len]
 refine (yb (jae (yw (by exact qcd) (by omega) (by exact jar)))).mpr ?_
 refine xad n (fun p σ => ∃ d,At a o n w d p σ) ?_ ?_ 4096 0 _ (Nat.zero_le _) (by exact kd4 hn12) ⟨w,?_,?_,?_,x2.tab0 tab1,x2.lst0 g1,?_,⟨by exact xd4 hal f2,by exact gd4 r1',by exact zd5 r1' hal f2⟩,Turn.start W hs⟩
 ·rintro σ ⟨d,A⟩
  refine ⟨by rw [gaa (a:=0) (b:=(n:Int)) (n:=n) σ _ (by exact gc1),List.getElem?_eq_none (by simp)],?_⟩
  dsimp only;unfold jb9;simp only [jc,je,xc,A.lw,Option.some.injEq,exists_eq_left']
  obtain ⟨b,st',e,hp,hb⟩:=gbg A.wl (by rw [W.len]; exact qc2 hn12) ht
  have hb0:b=false:=by
   cases b with
   | false=>rfl
   | true=>exact absurd A.turn.done (hb.mp rfl)
  rw [hb0] at e;refine yae e ?_;unfold notV;rw [jc,kad,xc,kad];simp only [Bool.not_false,if_true,je,A.lf,Option.some.injEq,exists_eq_left',xc];exact ⟨trivial,hp.get0 A.tab⟩
 ·rintro p σ hp ⟨d,A⟩
  refine (ja (.int p) (by rw [gaa (a:=0) (b:=(n:Int)) (n:=n) σ _ (by exact gc1)]; simp [hp]) ?_)
  unfold zbo;rw [jh];refine wrap fun G_ hG_=>?_;obtain ⟨lw,lo,lf,tab,wl,dl,ne,T⟩:=A;refine hG_ ?_;clear hG_ G_
  refine (kc8 (σ:=σ.put "player" (.int p)) (d:=d) ⟨?_,?_,?_,tab,wl,dl,ne,T⟩ (by exact qc2 hn12) hp W.len ht ?_).mono fun f σ' h=>?_
  ·simp only [zb,String.reduceEq,if_false]; exact lw
  ·simp only [zb,String.reduceEq,if_false]; exact lo
  ·simp only [zb,String.reduceEq,if_false]; exact lf
  ·simp only [zb,if_true]
  ·rcases h with ⟨rfl,h⟩ | ⟨rfl,h⟩
   ·exact h
   ·exact ⟨rfl,h⟩
 ·simp only [zb,wah,String.reduceEq,if_true,if_false]
 ·simp only [zb,wah,String.reduceEq,if_true,if_false]
 ·simp only [zb,if_true]
 ·exact (PV.kill st2).lst0 g2
end
section
noncomputable def vw:Program:=view PySem.Challenge.pw_dm0136_12 [0,1,2,3,4,5,6,7,8,9,10]
noncomputable abbrev lo:List Str:=[Str.ofString "nlargest"]
theorem left:LeftO PySem.Challenge.pw_dm0136_12 vw lo (fun s=>xlAt vw [] s && recOk (PySem.Challenge.rw_dm0136_12.row.toRowW.records) s) (Hook.obs Hook.none) (Hook.val Hook.none) 3000:=fun w=>by
 kernel_rfl
theorem xc8 {p q:Program} (e:recsOf p=recsOf q):∀ d∈recsOf p,d∈recsOf q:=e ▸ fun zZ h=>h
theorem xcu {p q:Program} (e:drecsOf p=drecsOf q):∀ d∈drecsOf p,d∈drecsOf q:=e ▸ fun zZ h=>h
theorem recs_vw:∀ d∈recsOf prg,d∈recsOf vw:=xc8 (by kernel_rfl)
theorem drecs_vw:∀ d∈drecsOf prg,d∈drecsOf vw:=xcu (by kernel_rfl)
theorem holder_in:qbf∈recsOf vw:=recs_vw _ (List.mem_iff_getElem?.mpr ⟨7,by kernel_rfl⟩)
end
end Mine
open PySem PySem.W PyProof.Rows
set_option Elab.async false
set_option maxRecDepth 100000
set_option maxHeartbeats 8000000
theorem PySem.Challenge.cw_dm0136_12_holds : PySem.Challenge.rw_dm0136_12.Holds := by
 refine holds_law (by kernel_rfl) fun said => ?_
 refine holds_open (q := Mine.vw) (loose := Mine.lo) (Xt := fun s => xlAt Mine.vw [] s && recOk (RowW.records PySem.Challenge.rw_dm0136_12.row.toRowW) s) (XP := XL Mine.vw []) (Yf := Hook.obs Hook.none) (Ya := Hook.val Hook.none) (YP := Hook.says Hook.none) (N := 3000) Mine.left (Hook.of Hook.none) (Hook.keeps Hook.none) (fun s e => xl_of s (Bool.and_eq_true_iff.mp e).1) XL.keeps (by rfl) (by rfl) (by rfl) (fun s e => recFacts_of (Bool.and_eq_true_iff.mp e).2) (by rfl) (by first | assumption | decide +kernel) (by decide +kernel) ⟨rfl, rfl, rfl, rfl, rfl, by decide +kernel⟩ ?hw ?hc
 case hw => w_witness2
 intro w s₀ s₁ mg mb G Y fa o pm cd doc dV kV ho hd hcd hD hmg hg args vals as hpre hlay hrd hwl hlo
 refine Ground.open G ?_
 intro T B D TE TW
 wrow_args hpre hlay hrd hwl hlo
 rename_i ns _ _ _ _ _ _ _ l _ _ _ _ w1 _ _ _ hn _
 have hmg' : mg (Str.ofString "law") = some (.ref fa) := hmg
 clear hD hcd hd ho hmg B TE TW G Y
 refine enter_call ?_
 obtain ⟨vs, hL, hI⟩ := Mine.well_script w1
 have hn' : ns.length ≤ 63 := by omega
 obtain ⟨st', hlaw, htab⟩ := Mine.law_true ns hn'
 refine Mine.top_law T D Mine.holder_in hg (lamQ := Mine.lamQ) (lams := Mine.lams) (fun K e1 e2 e3 e4 e5 => Mine.has_all (K := K) ?_ ?_ ?_ e5 e4 e3) (by decide) hmg' hL hI hn' hlaw htab ?_ ?_
 ·rw [e1]; exact Mine.recs_vw
 ·rw [e1]; exact Mine.drecs_vw
 ·intro x hx
  rw [e2]
  show mg (Str.ofString x) = none
  simp only [Mine.bltNames, List.mem_cons, List.not_mem_nil, or_false] at hx
  rcases hx with rfl | rfl | rfl | rfl | rfl | rfl | rfl | rfl | rfl | rfl | rfl | rfl | rfl <;> exact T.free _ (by decide +kernel) (by decide +kernel) (by decide +kernel) (by decide +kernel) (by decide +kernel)
 ·exact raisesW_false (by wrow_none_raised)
 ·wrow_post
