/- Parts of a proof: WoodAll, RemovedPure. -/
import Derived.Test.YtkdomegcacgpnaaGreatG02
set_option linter.unusedVariables false
set_option linter.unusedSimpArgs false
namespace Go.Proofs.YtkdomegcacgpnaaGreat
structure Wd where
 kids:Nat→List Nat
 up:Nat→Option Nat
structure WOk (n:Nat) (F:Wd):Prop where
 lt:∀x y,y∈F.kids x→x<n∧y<n
 iff:∀x y,y∈F.kids x↔F.up y=some x
 nd:∀x,(F.kids x).Nodup
 deep:∃(d:Nat→Nat) (M:Nat),(∀y,d y≤M)∧∀x y,F.up y=some x→d x<d y
inductive Fl (kids:Nat→List Nat):List Nat→List Nat→Prop
 | nil:Fl kids [] []
 | cons {x:Nat} {xs A B:List Nat} (h1:Fl kids (kids x) A) (h2:Fl kids xs B):Fl kids (x::xs) (x::(A++B))
theorem Fl.det{kids:Nat→List Nat}{xs L:List Nat}(h:Fl kids xs L):∀{L'},Fl kids xs L'→L=L':=by
 induction h with
 | nil=>intro L' h';cases h';rfl
 | cons h1 h2 ih1 ih2=>
  intro L' h'
  cases h' with
  | cons a b=>rw [ih1 a,ih2 b]
theorem Fl.append{kids:Nat→List Nat}{xs ys A B:List Nat}(h:Fl kids xs A)(h':Fl kids ys B):Fl kids (xs++ys) (A++B):=by
 induction h with
 | nil=>exact h'
 | cons h1 h2 ih1 ih2=>rw [List.cons_append,List.cons_append,List.append_assoc];exact .cons h1 ih2
theorem Fl.one{kids:Nat→List Nat}{x:Nat}{A:List Nat}(h:Fl kids (kids x) A):Fl kids [x] (x::A):=by
 have :=Fl.cons h Fl.nil
 rwa [List.append_nil]at this
theorem Fl.one_inv{kids:Nat→List Nat}{x:Nat}{L:List Nat}(h:Fl kids [x] L):∃A,L=x::A∧Fl kids (kids x) A:=by
 cases h with
 | cons a b=>cases b;exact⟨_,by rw [List.append_nil],a⟩
theorem Fl.split{kids:Nat→List Nat}{x:Nat}{xs L:List Nat}(h:Fl kids (x::xs) L):∃A B,L=A++B∧Fl kids [x] A∧Fl kids xs B:=by
 cases h with
 | cons a b=>exact⟨_,_,by rw [←List.cons_append],Fl.one a,b⟩
theorem Fl.lists{kids:Nat→List Nat}:∀xs:List Nat,(∀x∈xs,∃L,Fl kids [x] L)→∃L,Fl kids xs L
 | [],_=>⟨[],.nil⟩
 | x::xs,h=>by
  obtain⟨A,hA⟩:=h x (List.mem_cons_self ..)
  obtain⟨B,hB⟩:=Fl.lists xs (fun y hy=>h y (List.mem_cons_of_mem _ hy))
  exact⟨A++B,Fl.append (xs:=[x]) hA hB⟩
theorem WOk.flat{n:Nat}{F:Wd}(h:WOk n F)(x:Nat):∃L,Fl F.kids [x] L:=by
 obtain⟨d,M,hM,hd⟩:=h.deep
 have key:∀m x,M-d x≤m→∃L,Fl F.kids [x] L:=by
  intro m
  induction m with
  | zero=>
   intro x hx
   have hk:F.kids x=[]:=by
    cases hk:F.kids x with
    | nil=>rfl
    | cons y r=>
     have h1:=hd x y ((h.iff x y).1 (by rw [hk];exact List.mem_cons_self ..))
     have h2:=hM y
     omega
   exact⟨_,Fl.one (by rw [hk];exact .nil)⟩
  | succ m ih=>
   intro x hx
   obtain⟨A,hA⟩:=Fl.lists (kids:=F.kids) (F.kids x) (fun y hy=>ih y (by
    have h1:=hd x y ((h.iff x y).1 hy)
    have h2:=hM y
    omega))
   exact⟨_,Fl.one hA⟩
 exact key _ x (Nat.le_refl _)
inductive Anc (F:Wd) (k:Nat):Nat→Prop
 | refl:Anc F k k
 | step {x p:Nat} (h:F.up x=some p) (h2:Anc F k p):Anc F k x
theorem Anc.inv{F:Wd}{k x:Nat}(h:Anc F k x):k=x∨∃p,F.up x=some p∧Anc F k p:=by
 cases h with
 | refl=>exact .inl rfl
 | step a b=>exact .inr ⟨_,a,b⟩
theorem Anc.trans{F:Wd}{a b c:Nat}(h1:Anc F a b)(h2:Anc F b c):Anc F a c:=by
 induction h2 with
 | refl=>exact h1
 | step h _ ih=>exact .step h ih
theorem Fl.anc{n:Nat}{F:Wd}(hF:WOk n F){xs L:List Nat}(h:Fl F.kids xs L):∀y,y∈L↔∃x∈xs,Anc F x y:=by
 induction h with
 | nil=>intro y;simp
 | @cons x xs A B h1 h2 ih1 ih2=>
  intro y
  simp only [List.mem_cons,List.mem_append,ih1 y,ih2 y]
  constructor
  ·rintro(rfl | ⟨q,hq,ha⟩ | ⟨q,hq,ha⟩)
   ·exact⟨_,.inl rfl,.refl⟩
   ·exact⟨x,.inl rfl,Anc.trans (.step ((hF.iff x q).1 hq) .refl) ha⟩
   ·exact⟨q,.inr hq,ha⟩
  ·rintro⟨q,rfl | hq,ha⟩
   ·have key:∀y,Anc F q y→y=q∨∃z∈F.kids q,Anc F z y:=by
     intro y ha
     induction ha with
     | refl=>exact .inl rfl
     | @step y p hu _ ih=>
      rcases ih with rfl | ⟨z,hz,hzp⟩
      ·exact .inr ⟨y,(hF.iff p y).2 hu,.refl⟩
      ·exact .inr ⟨z,hz,.step hu hzp⟩
    rcases key y ha with rfl | ⟨z,hz,hzy⟩
    ·exact .inl rfl
    ·exact .inr (.inl ⟨z,hz,hzy⟩)
   ·exact .inr (.inr ⟨q,hq,ha⟩)
def Wd.cut(F:Wd)(x:Nat):Wd:=⟨fun q=>(F.kids q).filter (fun y=>y !=x),fun q=>if q=x then none else F.up q⟩
def Wd.put(F:Wd)(p i x:Nat):Wd:=⟨fun q=>if q=p then(F.kids p).take i++x::(F.kids p).drop i else F.kids q,fun q=>if q=x then some p else F.up q⟩
theorem WOk.cut{n:Nat}{F:Wd}(h:WOk n F)(x:Nat):WOk n (F.cut x):=by
 refine⟨fun p y hy=>?_,fun p y=>?_,fun p=>?_,?_⟩
 ·simp only [Wd.cut,List.mem_filter]at hy
  exact h.lt p y hy.1
 ·simp only [Wd.cut,List.mem_filter,h.iff p y]
  by_cases e:y=x
  ·simp [e]
  ·simp [e]
 ·exact(h.nd p).filter _
 ·obtain⟨d,M,h1,h2⟩:=h.deep
  refine⟨d,M,h1,fun p y hy=>?_⟩
  simp only [Wd.cut]at hy
  split at hy
  ·cases hy
  ·exact h2 p y hy
theorem mem_put{l:List Nat}{i x y:Nat}:y∈l.take i++x::l.drop i↔y=x∨y∈l:=by
 have e:y∈l↔y∈l.take i∨y∈l.drop i:=by
  rw [←List.mem_append,List.take_append_drop]
 rw [e,List.mem_append,List.mem_cons]
 constructor
 ·rintro(a | a | a)
  ·exact .inr (.inl a)
  ·exact .inl a
  ·exact .inr (.inr a)
 ·rintro(a | a | a)
  ·exact .inr (.inl a)
  ·exact .inl a
  ·exact .inr (.inr a)
theorem nodup_put{l:List Nat}(h:l.Nodup)(i:Nat){x:Nat}(hx:x∉l):(l.take i++x::l.drop i).Nodup:=by
 have h2:=h
 rw [←List.take_append_drop i l,List.nodup_append]at h2
 obtain⟨a,b,c⟩:=h2
 rw [List.nodup_append]
 refine⟨a,List.nodup_cons.2 ⟨fun hm=>hx (List.mem_of_mem_drop hm),b⟩,fun y hy z hz e=>?_⟩
 subst e
 rcases List.mem_cons.1 hz with rfl | hz
 ·exact hx (List.mem_of_mem_take hy)
 ·exact c y hy y hz rfl
theorem WOk.put{n:Nat}{F:Wd}(h:WOk n F){p x:Nat}(i:Nat)(hp:p<n)(hx:x<n)(hu:F.up x=none)(ha:¬Anc F x p):WOk n (F.put p i x):=by
 have hxk:∀q,x∉F.kids q:=fun q hq=>by rw [h.iff,hu]at hq;cases hq
 refine⟨fun q y hy=>?_,fun q y=>?_,fun q=>?_,?_⟩
 ·simp only [Wd.put]at hy
  split at hy
  ·rename_i e
   subst e
   rcases mem_put.1 hy with rfl | hy
   ·exact⟨hp,hx⟩
   ·exact h.lt _ _ hy
  ·exact h.lt _ _ hy
 ·simp only [Wd.put]
  by_cases e:q=p
  ·subst e
   rw [if_pos rfl,mem_put]
   by_cases e2:y=x
   ·simp [e2]
   ·simp [e2,h.iff]
  ·rw [if_neg e]
   by_cases e2:y=x
   ·subst e2
    simp [hxk q,Ne.symm e]
   ·simp [e2,h.iff]
 ·simp only [Wd.put]
  split
  ·rename_i e
   exact nodup_put (h.nd p) i (hxk p)
  ·exact h.nd q
 ·classical
  obtain⟨d,M,h1,h2⟩:=h.deep
  refine⟨fun y=>if Anc F x y then d y+d p+1 else d y,M+M+1,fun y=>?_,fun q y hy=>?_⟩
  ·have :=h1 y
   have :=h1 p
   simp only
   split <;> omega
  ·simp only [Wd.put]at hy
   split at hy
   ·rename_i e
    cases hy
    subst e
    simp only [if_neg ha,if_pos (Anc.refl (F:=F) (k:=y))]
    omega
   ·rename_i e
    have h3:=h2 q y hy
    by_cases e3:Anc F x q
    ·have e4:Anc F x y:=.step hy e3
     simp only [if_pos e3,if_pos e4]
     omega
    ·have e4:¬Anc F x y:=fun hh=>by
      rcases hh.inv with e5 | ⟨r,hr,hra⟩
      ·exact e e5.symm
      ·rw [hy]at hr
       cases hr
       exact e3 hra
     simp only [if_neg e3,if_neg e4]
     omega
def prvIn:List Nat→Nat→Option Nat
 | a::b::r,x=>if b=x then some a else prvIn (b::r) x
 | _,_=>none
def nxtIn:List Nat→Nat→Option Nat
 | a::b::r,x=>if a=x then some b else nxtIn (b::r) x
 | _,_=>none
theorem lb_mem_of{P:Nat→Bool}{x:Nat}:∀{n},x<n→P x=true→x∈lb P n:=by
 intro n
 induction n with
 | zero=>intro h;omega
 | succ n ih=>
  intro h hp
  simp only [lb]
  by_cases e:x=n
  ·subst e
   rw [hp]
   simp
  ·have :=ih (by omega) hp
   split
   ·exact List.mem_append_left _ this
   ·exact this
theorem lb_nodup{P:Nat→Bool}:∀n,(lb P n).Nodup:=by
 intro n
 induction n with
 | zero=>exact List.nodup_nil
 | succ n ih=>
  simp only [lb]
  split
  ·rw [List.nodup_append]
   refine⟨ih,by simp,fun a ha b hb e=>?_⟩
   have :=(lb_mem ha).1
   simp at hb
   omega
  ·exact ih
def wd0(z:Nat→Nat)(n:Nat):Wd:=⟨fun x=>if x<n then kids z x else [],fun y=>if y<n then par z y else none⟩
theorem wd0_kids{z:Nat→Nat}{n x:Nat}(hz:Nest z n)(h:x<n):(wd0 z n).kids x=lb (fun k=>par z k==some x) n:=by
 simp only [wd0,if_pos h]
 exact kids_lb hz h
theorem wd0_ok{z:Nat→Nat}{n:Nat}(hz:Nest z n):WOk n (wd0 z n):=by
 refine⟨fun x y hy=>?_,fun x y=>?_,fun x=>?_,fun y=>min y n,n,fun y=>Nat.min_le_right _ _,fun x y hy=>?_⟩
 ·by_cases h:x<n
  ·rw [wd0_kids hz h]at hy
   exact⟨h,(lb_mem hy).1⟩
  ·simp [wd0,h]at hy
 ·by_cases h:x<n
  ·rw [wd0_kids hz h]
   constructor
   ·intro hy
    obtain⟨a,b⟩:=lb_mem hy
    simp only [wd0,if_pos a]
    simpa using b
   ·intro hy
    simp only [wd0]at hy
    split at hy
    ·rename_i a
     exact lb_mem_of a (by simpa using hy)
    ·cases hy
  ·simp only [wd0,if_neg h]
   constructor
   ·intro hy;cases hy
   ·intro hy
    split at hy
    ·rename_i a
     have :=(par_some hy).1
     omega
    ·cases hy
 ·by_cases h:x<n
  ·rw [wd0_kids hz h]
   exact lb_nodup n
  ·simp only [wd0,if_neg h]
   exact List.nodup_nil
 ·simp only [wd0]at hy
  split at hy
  ·rename_i a
   have :=(par_some hy).1
   show min x n<min y n
   omega
  ·cases hy
end Go.Proofs.YtkdomegcacgpnaaGreat
namespace Go.Proofs.YtkdomegcacgpnaaGreat
theorem top_gap{P:Nat→Bool}{a:Nat}:∀d,(∀k,a≤k→k<a+d→P k=false)→top P (a+d)=top P a:=by
 intro d
 induction d with
 | zero=>intro _;rfl
 | succ d ih=>
  intro h
  show top P (a+d+1)=_
  simp only [top]
  rw [h (a+d) (by omega) (by omega)]
  exact ih (fun k h1 h2=>h k h1 (by omega))
theorem lb_last{P:Nat→Bool}:∀n,(lb P n).getLast? =top P n:=by
 intro n
 induction n with
 | zero=>rfl
 | succ n ih=>
  simp only [lb,top]
  split
  ·simp
  ·exact ih
theorem kidsFrom_ge{z:Nat→Nat}{e y:Nat}:∀f k,y∈kidsFrom z e f k→k≤y:=by
 intro f
 induction f with
 | zero=>intro k h;simp [kidsFrom]at h
 | succ f ih=>
  intro k h
  simp only [kidsFrom]at h
  split at h
  ·rcases List.mem_cons.1 h with rfl | h
   ·exact Nat.le_refl _
   ·have :=ih _ h
    omega
  ·cases h
theorem kids_fst{z:Nat→Nat}{n x:Nat}(hz:Nest z n)(hx:x<n):fstK (fun i=>i+z i) x=(kids z x).head? :=by
 have hp:=hz.pos x hx
 obtain⟨g,hg⟩:∃g,z x=g+1:=⟨z x-1,by omega⟩
 unfold fstK kids
 simp only [hg,kidsFrom]
 split <;> rfl
theorem kids_lst{z:Nat→Nat}{n x:Nat}(hz:Nest z n)(hx:x<n):lstK (fun i=>i+z i) 0 x=(kids z x).getLast? :=by
 rw [kids_lb hz hx,lb_last]
 have hf:=hz.fit x hx
 have h1:=top_gap (P:=fun k=>par z k==some x) (a:=x+z x) (n-(x+z x)) (fun k h1 h2=>by
  simp only [beq_eq_false_iff_ne,ne_eq]
  intro hk
  have :=(par_some hk).2.1
  omega)
 rw [show x+z x+(n-(x+z x))=n by omega]at h1
 rw [h1]
 unfold lstK
 refine top_congr (fun j hj=>?_)
 rw [up_par]
 by_cases e:x<j
 ·simp [e]
 ·have :(par z j==some x)=false:=by
   simp only [beq_eq_false_iff_ne,ne_eq]
   intro hk
   have :=(par_some hk).1
   omega
  rw [this]
  simp
theorem kidsFrom_nxt{z:Nat→Nat}{e y:Nat}:∀f k,e-k≤f→y∈kidsFrom z e f k→(∀j,k≤j→j<e→1≤z j)→nxtIn (kidsFrom z e f k) y=if y+z y<e then some (y+z y)else none:=by
 intro f
 induction f with
 | zero=>intro k _ h;simp [kidsFrom]at h
 | succ f ih=>
  intro k hf h hz
  by_cases hk:k<e
  ·have hk1:=hz k (Nat.le_refl _) hk
   simp only [kidsFrom,hk,if_true]at h ⊢
   by_cases h2:k+z k<e
   ·obtain⟨g,rfl⟩:∃g,f=g+1:=⟨f-1,by omega⟩
    have e2:kidsFrom z e (g+1) (k+z k)=(k+z k)::kidsFrom z e g (k+z k+z (k+z k)):=by simp [kidsFrom,h2]
    by_cases e3:k=y
    ·subst e3
     rw [e2,if_pos h2]
     simp [nxtIn]
    ·have hm:y∈kidsFrom z e (g+1) (k+z k):=by
      rcases List.mem_cons.1 h with h | h
      ·exact absurd h.symm e3
      ·exact h
     have h4:=ih (k+z k) (by omega) hm (fun j a b=>hz j (by omega) b)
     rw [←h4,e2]
     simp [nxtIn,e3]
   ·rw [kidsFrom_end (by omega)]at h ⊢
    have :y=k:=by simpa using h
    subst this
    rw [if_neg h2]
    rfl
  ·simp [kidsFrom,hk]at h
theorem prvIn_none{y:Nat}:∀l:List Nat,y∉l.tail→prvIn l y=none
 | [],_=>rfl
 | [a],_=>rfl
 | a::b::r,h=>by
  simp only [List.tail_cons,List.mem_cons,not_or]at h
  simp only [prvIn,if_neg (Ne.symm h.1)]
  exact prvIn_none (b::r) h.2
theorem kidsFrom_prv{z:Nat→Nat}{e y:Nat}:∀f k,e-k≤f→y∈kidsFrom z e f k→(∀j,k≤j→j<e→1≤z j)→(y=k∧prvIn (kidsFrom z e f k) y=none)∨∃q,prvIn (kidsFrom z e f k) y=some q∧q∈kidsFrom z e f k∧q+z q=y:=by
 intro f
 induction f with
 | zero=>intro k _ h;simp [kidsFrom]at h
 | succ f ih=>
  intro k hf h hz
  by_cases hk:k<e
  ·have hk1:=hz k (Nat.le_refl _) hk
   simp only [kidsFrom,hk,if_true]at h ⊢
   by_cases e3:y=k
   ·subst e3
    refine .inl ⟨rfl,prvIn_none _ (fun hm=>?_)⟩
    rw [List.tail_cons]at hm
    have :=kidsFrom_ge _ _ hm
    omega
   ·have hm:y∈kidsFrom z e f (k+z k):=by
     rcases List.mem_cons.1 h with h | h
     ·exact absurd h e3
     ·exact h
    by_cases h2:k+z k<e
    ·obtain⟨g,rfl⟩:∃g,f=g+1:=⟨f-1,by omega⟩
     have e2:kidsFrom z e (g+1) (k+z k)=(k+z k)::kidsFrom z e g (k+z k+z (k+z k)):=by simp [kidsFrom,h2]
     have h4:=ih (k+z k) (by omega) hm (fun j a b=>hz j (by omega) b)
     rw [e2]at h4 hm ⊢
     by_cases e4:k+z k=y
     ·exact .inr ⟨k,by simp [prvIn,e4],List.mem_cons_self ..,e4⟩
     ·rcases h4 with ⟨h5,_⟩ | ⟨q,h5,h6,h7⟩
      ·exact absurd h5.symm e4
      ·exact .inr ⟨q,by simp only [prvIn,if_neg e4];exact h5,List.mem_cons_of_mem _ h6,h7⟩
    ·rw [kidsFrom_end (by omega)]at hm
     cases hm
  ·simp [kidsFrom,hk]at h
theorem wkids_mem{z:Nat→Nat}{n p y:Nat}(hz:Nest z n)(hp:p<n)(hy:y<n):y∈kids z p↔par z y=some p:=by
 rw [kids_lb hz hp]
 exact⟨fun h=>by simpa using (lb_mem h).2,fun h=>lb_mem_of hy (by simpa using h)⟩
theorem kids_nxt{z:Nat→Nat}{n y p:Nat}(hz:Nest z n)(hy:y<n)(hp:par z y=some p):nxtK (fun i=>i+z i) 0 y=nxtIn (kids z p) y:=by
 have hpn:p<n:=by have :=(par_some hp).1;omega
 have hm:=(wkids_mem hz hpn hy).2 hp
 unfold nxtK kids
 rw [up_par,hp]
 exact(kidsFrom_nxt (z p) (p+1) (by omega) hm (fun j a b=>hz.pos j (by have :=hz.fit p hpn;omega))).symm
theorem kids_prv{z:Nat→Nat}{n y p:Nat}(hz:Nest z n)(hy:y<n)(hp:par z y=some p):prvK (fun i=>i+z i) 0 y=prvIn (kids z p) y:=by
 have hpn:p<n:=by have :=(par_some hp).1;omega
 have hm:=(wkids_mem hz hpn hy).2 hp
 rcases kidsFrom_prv (z p) (p+1) (by omega) hm (fun j a b=>hz.pos j (by have :=hz.fit p hpn;omega))with ⟨h1,h2⟩ | ⟨q,h1,h2,h3⟩
 ·refine Eq.trans (top_none (fun j hj=>?_)) h2.symm
  rw [up_par,up_par,hp]
  have :(par z j==some p)=false:=by
   simp only [beq_eq_false_iff_ne,ne_eq]
   intro hh
   have :=(par_some hh).1
   omega
  rw [this]
  simp
 ·refine Eq.trans ?_ h1.symm
  have hq1:=hz.pos q (by
   have :=kidsFrom_ge _ _ h2
   have :=(lb_mem ((kids_lb hz hpn)▸h2:q∈lb (fun k=>par z k==some p) n)).1
   omega)
  have hqn:q<n:=(lb_mem ((kids_lb hz hpn)▸h2:q∈lb (fun k=>par z k==some p) n)).1
  have hq:=(wkids_mem hz hpn hqn).1 h2
  refine top_mk (by omega) ?_ (fun j a b=>?_)
  ·rw [up_par,up_par,hp,hq]
   simp [h3]
  ·rw [up_par,up_par,hp]
   have :(par z j==some p)=false:=by
    simp only [beq_eq_false_iff_ne,ne_eq]
    intro hh
    have h4:=(par_some hh).2.2 q (par_some hq).1 a
    omega
   rw [this]
   simp
end Go.Proofs.YtkdomegcacgpnaaGreat
namespace Go.Proofs.YtkdomegcacgpnaaGreat
theorem nil_or_snoc(l:List Nat):l=[]∨∃s y,l=s++[y]:=by
 rcases List.eq_nil_or_concat l with h | ⟨s,y,h⟩
 ·exact .inl h
 ·exact .inr ⟨s,y,by rw [h,List.concat_eq_append]⟩
theorem nxtIn_app{y:Nat}{c:List Nat}:∀a:List Nat,y∉a→nxtIn (a++y::c) y=c.head?
 | [],_=>by
  cases c with
  | nil=>rfl
  | cons b r=>simp [nxtIn]
 | [k],h=>by
  have hk:¬k=y:=fun e=>h (by rw [e];exact List.mem_cons_self ..)
  have :=nxtIn_app (y:=y) (c:=c) [] (by simp)
  simp only [List.nil_append]at this
  simp only [List.cons_append,List.nil_append,nxtIn,if_neg hk]
  exact this
 | k::m::r,h=>by
  simp only [List.mem_cons,not_or]at h
  have :=nxtIn_app (y:=y) (c:=c) (m::r) (by simp only [List.mem_cons,not_or];exact h.2)
  simp only [List.cons_append,nxtIn,if_neg (Ne.symm h.1)]at this ⊢
  exact this
theorem prvIn_app{y:Nat}{c:List Nat}(hc:y∉c):∀a:List Nat,y∉a→prvIn (a++y::c) y=a.getLast?
 | [],_=>by
  rw [List.nil_append,prvIn_none _ (by rw [List.tail_cons];exact hc)]
  rfl
 | [k],h=>by simp [prvIn]
 | k::m::r,h=>by
  simp only [List.mem_cons,not_or]at h
  have :=prvIn_app hc (m::r) (by simp only [List.mem_cons,not_or];exact h.2)
  simp only [List.cons_append,prvIn,if_neg (Ne.symm h.2.1)]at this ⊢
  rw [this]
  simp
theorem nd_parts{a b:List Nat}{x:Nat}(h:(a++x::b).Nodup):x∉a∧x∉b∧(a++b).Nodup∧a.Nodup∧b.Nodup∧∀y∈a,y∉b:=by
 rw [List.nodup_append]at h
 obtain⟨h1,h2,h3⟩:=h
 rw [List.nodup_cons]at h2
 refine⟨fun hm=>h3 x hm x (List.mem_cons_self ..) rfl,h2.1,?_,h1,h2.2,fun y hy hb=>h3 y hy y (List.mem_cons_of_mem _ hb) rfl⟩
 rw [List.nodup_append]
 exact⟨h1,h2.2,fun y hy z hz=>h3 y hy z (List.mem_cons_of_mem _ hz)⟩
theorem nxtIn_none{y:Nat}:∀l:List Nat,y∉l→nxtIn l y=none
 | [],_=>rfl
 | [a],_=>rfl
 | a::b::r,h=>by
  simp only [List.mem_cons,not_or]at h
  simp only [nxtIn,if_neg (Ne.symm h.1)]
  exact nxtIn_none (b::r) (by simp only [List.mem_cons,not_or];exact h.2)
theorem nxt_between{a b:List Nat}{x y:Nat}(h:(a++x::b).Nodup)(hy:y≠x):nxtIn (a++b) y=if a.getLast?=some y then b.head? else nxtIn (a++x::b) y:=by
 obtain⟨h1,h2,h3,h4,h5,h6⟩:=nd_parts h
 by_cases ha:y∈a
 ·obtain⟨s,t,rfl⟩:=List.append_of_mem ha
  have hs:=nd_parts h4
  rw [List.append_assoc,List.cons_append,nxtIn_app s hs.1,List.append_assoc,List.cons_append,nxtIn_app s hs.1]
  cases t with
  | nil=>simp
  | cons m r=>
   have :¬(s++y::m::r).getLast? =some y:=by
    intro e
    have hm:y∈m::r:=by
     have e2:(s++y::m::r).getLast? =(m::r).getLast? :=by
      rw [show s++y::m::r=(s++[y])++m::r by simp,List.getLast?_append,List.getLast?_cons]
      rfl
     rw [e2]at e
     exact List.mem_of_getLast? e
    exact hs.2.1 hm
   rw [if_neg this]
   rfl
 ·have hl:¬a.getLast?=some y:=fun e=>ha (List.mem_of_getLast? e)
  rw [if_neg hl]
  by_cases hb:y∈b
  ·obtain⟨s,t,rfl⟩:=List.append_of_mem hb
   have hs:=nd_parts h5
   have e1:a++(s++y::t)=(a++s)++y::t:=by rw [List.append_assoc]
   have e2:a++x::(s++y::t)=(a++x::s)++y::t:=by simp
   rw [e1,e2,nxtIn_app _ (by rw [List.mem_append,not_or];exact⟨ha,hs.1⟩),nxtIn_app _ (by rw [List.mem_append,List.mem_cons,not_or,not_or];exact⟨ha,hy,hs.1⟩)]
  ·rw [nxtIn_none _ (by rw [List.mem_append,not_or];exact⟨ha,hb⟩),nxtIn_none _ (by rw [List.mem_append,List.mem_cons,not_or,not_or];exact⟨ha,hy,hb⟩)]
theorem prv_between{a b:List Nat}{x y:Nat}(h:(a++x::b).Nodup)(hy:y≠x):prvIn (a++b) y=if b.head?=some y then a.getLast? else prvIn (a++x::b) y:=by
 obtain⟨h1,h2,h3,h4,h5,h6⟩:=nd_parts h
 by_cases hb:y∈b
 ·obtain⟨s,t,rfl⟩:=List.append_of_mem hb
  have hs:=nd_parts h5
  have ha:y∉a:=fun hm=>h6 y hm hb
  have e1:a++(s++y::t)=(a++s)++y::t:=by rw [List.append_assoc]
  have e2:a++x::(s++y::t)=(a++x::s)++y::t:=by simp
  rw [e1,e2,prvIn_app hs.2.1 _ (by rw [List.mem_append,not_or];exact⟨ha,hs.1⟩),prvIn_app hs.2.1 _ (by rw [List.mem_append,List.mem_cons,not_or,not_or];exact⟨ha,hy,hs.1⟩)]
  cases s with
  | nil=>simp
  | cons m r=>
   have :¬(m::r++y::t).head? =some y:=by
    intro e
    simp at e
    exact hs.1 (by rw [e];exact List.mem_cons_self ..)
   rw [if_neg this]
   simp
 ·have hl:¬b.head?=some y:=fun e=>hb (List.mem_of_head? e)
  rw [if_neg hl]
  by_cases ha:y∈a
  ·obtain⟨s,t,rfl⟩:=List.append_of_mem ha
   have hs:=nd_parts h4
   rw [List.append_assoc,List.cons_append,List.append_assoc,List.cons_append,
    prvIn_app (by rw [List.mem_append,not_or];exact⟨hs.2.1,hb⟩) s hs.1,prvIn_app (by rw [List.mem_append,List.mem_cons,not_or,not_or];exact⟨hs.2.1,hy,hb⟩) s hs.1]
  ·rw [prvIn_none _ (fun hm=>by
    have :=List.mem_of_mem_tail hm
    rw [List.mem_append]at this
    rcases this with h | h
    ·exact ha h
    ·exact hb h),prvIn_none _ (fun hm=>by
    have :=List.mem_of_mem_tail hm
    rw [List.mem_append,List.mem_cons]at this
    rcases this with h | h | h
    ·exact ha h
    ·exact hy h
    ·exact hb h)]
theorem filter_ne{a b:List Nat}{x:Nat}(h:(a++x::b).Nodup):(a++x::b).filter (fun y=>y !=x)=a++b:=by
 obtain⟨h1,h2,_⟩:=nd_parts h
 have e:∀l:List Nat,x∉l→l.filter (fun y=>y !=x)=l:=fun l hl=>List.filter_eq_self.2 (fun y hy=>by
  have :y≠x:=fun e=>hl (e▸hy)
  simpa using this)
 rw [List.filter_append,List.filter_cons,e a h1,e b h2]
 simp
theorem filter_none{l:List Nat}{x:Nat}(h:x∉l):l.filter (fun y=>y !=x)=l:=List.filter_eq_self.2 (fun y hy=>by
  have :y≠x:=fun e=>h (e▸hy)
  simpa using this)
end Go.Proofs.YtkdomegcacgpnaaGreat
namespace Go.Proofs.YtkdomegcacgpnaaGreat
inductive Fs (kids:Nat→List Nat):List Nat→List (Nat×Nat)→Prop
 | nil:Fs kids [] []
 | cons {x:Nat} {xs:List Nat} {A B:List (Nat×Nat)} (h1:Fs kids (kids x) A) (h2:Fs kids xs B):Fs kids (x::xs) ((x,A.length+1)::(A++B))
theorem Fs.fl{kids:Nat→List Nat}{xs:List Nat}{C:List (Nat×Nat)}(h:Fs kids xs C):Fl kids xs (C.map (·.1)):=by
 induction h with
 | nil=>exact .nil
 | cons h1 h2 ih1 ih2=>
  rw [List.map_cons,List.map_append]
  exact .cons ih1 ih2
theorem Fl.fs{kids:Nat→List Nat}{xs L:List Nat}(h:Fl kids xs L):∃C,Fs kids xs C∧C.map (·.1)=L:=by
 induction h with
 | nil=>exact⟨[],.nil,rfl⟩
 | cons h1 h2 ih1 ih2=>
  obtain⟨A,a1,a2⟩:=ih1
  obtain⟨B,b1,b2⟩:=ih2
  exact⟨_,.cons a1 b1,by rw [List.map_cons,List.map_append,a2,b2]⟩
theorem Fs.det{kids:Nat→List Nat}{xs:List Nat}{C:List (Nat×Nat)}(h:Fs kids xs C):∀{C'},Fs kids xs C'→C=C':=by
 induction h with
 | nil=>intro C' h';cases h';rfl
 | cons h1 h2 ih1 ih2=>
  intro C' h'
  cases h' with
  | cons a b=>rw [ih1 a,ih2 b]
theorem Fs.append{kids:Nat→List Nat}{xs ys:List Nat}{A B:List (Nat×Nat)}(h:Fs kids xs A)(h':Fs kids ys B):Fs kids (xs++ys) (A++B):=by
 induction h with
 | nil=>exact h'
 | cons h1 h2 ih1 ih2=>rw [List.cons_append,List.cons_append,List.append_assoc];exact .cons h1 ih2
theorem Fs.one{kids:Nat→List Nat}{x:Nat}{A:List (Nat×Nat)}(h:Fs kids (kids x) A):Fs kids [x] ((x,A.length+1)::A):=by
 have :=Fs.cons h Fs.nil
 rwa [List.append_nil]at this
theorem Fs.one_inv{kids:Nat→List Nat}{x:Nat}{C:List (Nat×Nat)}(h:Fs kids [x] C):∃A,C=(x,A.length+1)::A∧Fs kids (kids x) A:=by
 cases h with
 | cons a b=>cases b;exact⟨_,by rw [List.append_nil],a⟩
theorem Fs.split{kids:Nat→List Nat}{xs ys:List Nat}:∀{C:List (Nat×Nat)},Fs kids (xs++ys) C→∃A B,C=A++B∧Fs kids xs A∧Fs kids ys B:=by
 induction xs with
 | nil=>intro C h;exact⟨[],C,rfl,.nil,h⟩
 | cons x xs ih=>
  intro C h
  cases h with
  | cons a b=>
   obtain⟨A',B',e,h1,h2⟩:=ih b
   refine⟨_,B',?_,.cons a h1,h2⟩
   rw [e]
   simp
theorem Fs.len{kids:Nat→List Nat}{xs:List Nat}{C:List (Nat×Nat)}(h:Fs kids xs C):xs.length≤C.length:=by
 induction h with
 | nil=>exact Nat.le_refl _
 | cons h1 h2 ih1 ih2=>simp only [List.length_cons,List.length_append];omega
def atSet(pl:Nat→Int):List Int→Nat→List (Nat×Nat)→List Int
 | vs,_,[]=>vs
 | vs,N,y::C=>atSet pl (if 0≤pl y.1∧pl y.1<(vs.length:Int)then vs.set (pl y.1).toNat (N:Int)else vs) (N+1) C
theorem atSet_append(pl:Nat→Int):∀(C D:List (Nat×Nat)) (vs:List Int) (N:Nat),atSet pl vs N (C++D)=atSet pl (atSet pl vs N C) (N+C.length) D
 | [],D,vs,N=>rfl
 | y::C,D,vs,N=>by
  simp only [List.cons_append,atSet,List.length_cons]
  rw [atSet_append pl C D,show N+1+C.length=N+(C.length+1) by omega]
theorem atSet_length(pl:Nat→Int):∀(C:List (Nat×Nat)) (vs:List Int) (N:Nat),(atSet pl vs N C).length=vs.length
 | [],vs,N=>rfl
 | y::C,vs,N=>by
  simp only [atSet]
  rw [atSet_length pl C]
  split
  ·rw [List.length_set]
  ·rfl
end Go.Proofs.YtkdomegcacgpnaaGreat
namespace Go.Proofs.YtkdomegcacgpnaaGreat
theorem Anc.cmp{F:Wd}{a b y:Nat}(h1:Anc F a y)(h2:Anc F b y):Anc F a b∨Anc F b a:=by
 induction h1 with
 | refl=>exact .inr h2
 | @step x p hu h ih=>
  rcases h2.inv with rfl | ⟨q,hq,hb⟩
  ·exact .inl (.step hu h)
  ·rw [hu]at hq
   cases hq
   exact ih hb
theorem WOk.not_up{n:Nat}{F:Wd}(h:WOk n F){k x:Nat}(hu:F.up k=some x):¬Anc F k x:=by
 obtain⟨d,M,h1,h2⟩:=h.deep
 have key:∀a b,Anc F a b→d a≤d b:=fun a b hab=>by
  induction hab with
  | refl=>exact Nat.le_refl _
  | step hu _ ih=>have :=h2 _ _ hu;omega
 intro ha
 have h3:=key _ _ ha
 have h4:=h2 x k hu
 omega
def Lone(F:Wd)(xs:List Nat):Prop:=xs.Nodup∧∀x∈xs,∀y∈xs,Anc F x y→x=y
theorem WOk.lone_kids{n:Nat}{F:Wd}(h:WOk n F)(x:Nat):Lone F (F.kids x):=⟨h.nd x,fun a ha b hb hab=>by
 rcases hab.inv with e | ⟨p,hp,hap⟩
 ·exact e
 ·rw [(h.iff x b).1 hb]at hp
  cases hp
  exact absurd hap (h.not_up ((h.iff x a).1 ha))⟩
theorem Fl.nodup{n:Nat}{F:Wd}(hF:WOk n F){xs L:List Nat}(h:Fl F.kids xs L):Lone F xs→L.Nodup:=by
 induction h with
 | nil=>intro _;exact List.nodup_nil
 | @cons x xs A B h1 h2 ih1 ih2=>
  rintro⟨hd,hl⟩
  rw [List.nodup_cons]at hd
  have hA:=ih1 (hF.lone_kids x)
  have hB:=ih2 ⟨hd.2,fun a ha b hb=>hl a (List.mem_cons_of_mem _ ha) b (List.mem_cons_of_mem _ hb)⟩
  rw [List.nodup_cons,List.mem_append,List.nodup_append]
  refine⟨?_,hA,hB,?_⟩
  ·rintro(hm | hm)
   ·obtain⟨k,hk,ha⟩:=(h1.anc hF x).1 hm
    exact hF.not_up ((hF.iff x k).1 hk) ha
   ·obtain⟨q,hq,ha⟩:=(h2.anc hF x).1 hm
    have h3:=hl q (List.mem_cons_of_mem _ hq) x (List.mem_cons_self ..) ha
    subst h3
    exact hd.1 hq
  ·intro a ha b hb e
   subst e
   obtain⟨k,hk,hka⟩:=(h1.anc hF a).1 ha
   obtain⟨q,hq,hqa⟩:=(h2.anc hF a).1 hb
   have hxa:Anc F x a:=Anc.trans (.step ((hF.iff x k).1 hk) .refl) hka
   rcases hxa.cmp hqa with h | h
   ·have h3:=hl x (List.mem_cons_self ..) q (List.mem_cons_of_mem _ hq) h
    subst h3
    exact hd.1 hq
   ·have h3:=hl q (List.mem_cons_of_mem _ hq) x (List.mem_cons_self ..) h
    subst h3
    exact hd.1 hq
theorem lone_one(F:Wd)(x:Nat):Lone F [x]:=⟨by simp,fun a ha b hb _=>by simp at ha hb;rw [ha,hb]⟩
theorem WOk.sized{n:Nat}{F:Wd}(hF:WOk n F){x:Nat}(hx:x<n):∃C,Fs F.kids [x] C∧(C.map (·.1)).Nodup∧(∀y∈C,y.1<n)∧C.length≤n:=by
 obtain⟨L,hL⟩:=hF.flat x
 obtain⟨C,hC,rfl⟩:=hL.fs
 have hn:=hL.nodup hF (lone_one F x)
 have hlt:∀y∈C.map (·.1),y<n:=fun y hy=>by
  obtain⟨q,hq,ha⟩:=(hL.anc hF y).1 hy
  simp at hq
  subst hq
  rcases ha.inv with e | ⟨p,hp,_⟩
  ·omega
  ·exact(hF.lt p y ((hF.iff p y).2 hp)).2
 refine⟨C,hC,hn,fun y hy=>hlt y.1 (List.mem_map_of_mem (f:=(·.1)) hy),?_⟩
 have key:∀(n:Nat) (l:List Nat),l.Nodup→(∀x∈l,x<n)→l.length≤n:=by
  intro n
  induction n with
  | zero=>
   intro l _ h
   cases l with
   | nil=>exact Nat.le_refl _
   | cons a r=>have :=h a (List.mem_cons_self ..);omega
  | succ n ih=>
   intro l hd h
   by_cases hm:n∈l
   ·obtain⟨a,b,rfl⟩:=List.append_of_mem hm
    obtain⟨h1,h2,h3,_⟩:=nd_parts hd
    have :=ih (a++b) h3 (fun x hx=>by
     have h4:x<n+1:=h x (by
      rw [List.mem_append,List.mem_cons]
      rw [List.mem_append]at hx
      rcases hx with hx | hx
      ·exact .inl hx
      ·exact .inr (.inr hx))
     have h5:x≠n:=fun e=>by
      subst e
      rw [List.mem_append]at hx
      rcases hx with hx | hx
      ·exact h1 hx
      ·exact h2 hx
     omega)
    rw [List.length_append]at this
    rw [List.length_append,List.length_cons]
    omega
   ·have :=ih l hd (fun x hx=>by
     have h4:=h x hx
     have h5:x≠n:=fun e=>hm (e▸hx)
     omega)
    omega
 have :=key n _ hn hlt
 rwa [List.length_map]at this
def posFrom:List Nat→Nat→Nat→Int
 | [],_,_=> -1
 | y::r,N,x=>if y=x then(N:Int)else posFrom r (N+1) x
theorem posFrom_not{x:Nat}:∀(l:List Nat) (N:Nat),x∉l→posFrom l N x= -1
 | [],_,_=>rfl
 | y::r,N,h=>by
  simp only [List.mem_cons,not_or]at h
  simp only [posFrom,if_neg (Ne.symm h.1)]
  exact posFrom_not r (N+1) h.2
def placesW(n:Nat)(C:List (Nat×Nat)):List Int:=(List.range n).map fun i=>posFrom (C.map (·.1)) 0 i
def cutsW(F:Wd)(l:List Nat):Wd:=l.foldl Wd.cut F
theorem WOk.cuts{n:Nat}{F:Wd}(h:WOk n F):∀l,WOk n (cutsW F l):=by
 intro l
 induction l generalizing F with
 | nil=>exact h
 | cons x l ih=>exact ih (h.cut x)
theorem cutsW_snoc(F:Wd)(l:List Nat)(x:Nat):cutsW F (l++[x])=(cutsW F l).cut x:=by simp [cutsW,List.foldl_append]
theorem cuts_take{F:Wd}{l:List Nat}{k:Nat}(hk:k<l.length):cutsW F (l.take (k+1))=(cutsW F (l.take k)).cut (l.getD k 0):=by
 rw [List.take_add_one,List.getElem?_eq_getElem hk,Option.toList_some,cutsW_snoc]
 congr 1
 simp [List.getD,hk]
theorem WOk.cut_none{n:Nat}{F:Wd}(h:WOk n F){x:Nat}(hu:F.up x=none):F.cut x=F:=by
 cases F with
 | mk kids up=>
  unfold Wd.cut
  simp only [Wd.mk.injEq]
  refine⟨funext fun q=>?_,funext fun q=>?_⟩
  ·exact filter_none (fun hm=>by rw [h.iff]at hm;rw [hu]at hm;cases hm)
  ·by_cases e:q=x
   ·rw [if_pos e,e];exact hu.symm
   ·rw [if_neg e]
theorem Fl.cut{n:Nat}{F:Wd}(hF:WOk n F){x:Nat}{g:Nat→Bool}(hg:∀y,g y=true↔¬Anc F x y){xs L:List Nat}(h:Fl F.kids xs L):(∀q∈xs,Anc F x q→q=x)→Fl (F.cut x).kids (xs.filter (fun y=>y !=x)) (L.filter g):=by
 induction h with
 | nil=>intro _;exact .nil
 | @cons z xs A B h1 h2 ih1 ih2=>
  intro hx
  have hB:=ih2 (fun q hq=>hx q (List.mem_cons_of_mem _ hq))
  by_cases e:z=x
  ·subst e
   have e1:(z::xs).filter (fun y=>y !=z)=xs.filter (fun y=>y !=z):=by simp
   have e2:(z::(A++B)).filter g=B.filter g:=by
    have h3:∀y∈z::A,¬g y=true:=fun y hy hgy=>by
     rw [hg]at hgy
     rcases List.mem_cons.1 hy with rfl | hy
     ·exact hgy .refl
     ·obtain⟨k,hk,ha⟩:=(h1.anc hF y).1 hy
      exact hgy (Anc.trans (.step ((hF.iff z k).1 hk) .refl) ha)
    rw [←List.cons_append,List.filter_append,List.filter_eq_nil_iff.2 h3]
    rfl
   rw [e1,e2]
   exact hB
  ·have hz:¬Anc F x z:=fun ha=>e (hx z (List.mem_cons_self ..) ha)
   have e1:(z::xs).filter (fun y=>y !=x)=z::xs.filter (fun y=>y !=x):=by simp [e]
   have e2:(z::(A++B)).filter g=z::(A.filter g++B.filter g):=by
    rw [List.filter_cons,if_pos ((hg z).2 hz),List.filter_append]
   rw [e1,e2]
   refine Fl.cons (ih1 (fun q hq ha=>?_)) hB
   rcases ha.inv with e3 | ⟨p,hp,hap⟩
   ·exact e3.symm
   ·rw [(hF.iff z q).1 hq]at hp
    cases hp
    exact absurd hap hz
theorem Anc.of_cut{F:Wd}{x a y:Nat}(h:Anc (F.cut x) a y):Anc F a y:=by
 induction h with
 | refl=>exact .refl
 | @step y p hu _ ih=>
  simp only [Wd.cut]at hu
  split at hu
  ·cases hu
  ·exact .step hu ih
theorem Anc.to_cut{F:Wd}{x a y:Nat}(h:Anc F a y):¬Anc F x y→Anc (F.cut x) a y:=by
 induction h with
 | refl=>intro _;exact .refl
 | @step y p hu _ ih=>
  intro hx
  refine .step ?_ (ih (fun ha=>hx (.step hu ha)))
  simp only [Wd.cut]
  rw [if_neg (fun e=>hx (by rw [e];exact .refl))]
  exact hu
theorem Fl.cuts{n:Nat}{r:Nat}{L:List Nat}:∀(l:List Nat) (F:Wd),WOk n F→F.up r=none→r∉l→Fl F.kids [r] L→∃g:Nat→Bool,Fl (cutsW F l).kids [r] (L.filter g)∧∀y,g y=true↔∀x∈l,¬Anc F x y:=by
 intro l
 induction l generalizing L with
 | nil=>
  intro F _ _ _ h
  exact⟨fun _=>true,by rw [List.filter_eq_self.2 (fun _ _=>rfl)];exact h,fun y=>by simp⟩
 | cons x l ih=>
  intro F hF hr hx h
  classical
  simp only [List.mem_cons,not_or]at hx
  have h1:=Fl.cut hF (x:=x) (g:=fun y=>decide (¬Anc F x y)) (fun y=>by simp) h (fun q hq ha=>by
   simp only [List.mem_singleton]at hq
   subst hq
   rcases ha.inv with e | ⟨p,hp,_⟩
   ·exact e.symm
   ·rw [hr]at hp;cases hp)
  have e1:[r].filter (fun y=>y !=x)=[r]:=by simp [hx.1]
  rw [e1]at h1
  have hr2:(F.cut x).up r=none:=by simp only [Wd.cut,if_neg hx.1];exact hr
  obtain⟨g2,h2,h3⟩:=ih (F.cut x) (hF.cut x) hr2 hx.2 h1
  refine⟨fun y=>decide (¬Anc F x y) && g2 y,?_,fun y=>?_⟩
  ·rw [List.filter_filter]at h2
   have e2:(fun a=>g2 a && decide (¬Anc F x a))=(fun y=>decide (¬Anc F x y) && g2 y):=funext fun a=>Bool.and_comm _ _
   rw [e2]at h2
   exact h2
  ·simp only [Bool.and_eq_true,decide_eq_true_eq,h3 y,List.mem_cons,forall_eq_or_imp]
   refine and_congr_right (fun hy=>?_)
   refine forall_congr' (fun z=>forall_congr' (fun _=>not_congr ⟨fun h=>h.of_cut,fun h=>h.to_cut hy⟩))
end Go.Proofs.YtkdomegcacgpnaaGreat
