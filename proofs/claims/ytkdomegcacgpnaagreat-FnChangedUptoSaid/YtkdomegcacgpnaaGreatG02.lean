/- Parts of a proof: LinkAll, Name, Plain. -/
import Derived.Test.YtkdomegcacgpnaaGreatG00
import Derived.BigGuardPart
set_option linter.unusedVariables false
set_option linter.unusedSimpArgs false
namespace Go.Proofs.YtkdomegcacgpnaaGreat
def top(P:Nat→Bool):Nat→Option Nat
 | 0=>none
 | k+1=>if P k then some k else top P k
theorem top_some{P:Nat→Bool}{k:Nat}:∀{n},top P n=some k→k<n∧P k=true∧∀j,k<j→j<n→P j=false:=by
 intro n
 induction n with
 | zero=>intro h;simp [top]at h
 | succ n ih=>
  intro h
  simp only [top]at h
  split at h
  ·rename_i hp
   simp at h;subst h
   exact⟨by omega,hp,fun j h1 h2=>by omega⟩
  ·rename_i hp
   obtain⟨h1,h2,h3⟩:=ih h
   refine⟨by omega,h2,fun j hj1 hj2=>?_⟩
   by_cases e:j=n
   ·subst e;simpa using hp
   ·exact h3 j hj1 (by omega)
theorem top_mk{P:Nat→Bool}{k n:Nat}(h1:k<n)(h2:P k=true)(h3:∀j,k<j→j<n→P j=false):top P n=some k:=by
 induction n with
 | zero=>omega
 | succ n ih=>
  simp only [top]
  by_cases e:k=n
  ·subst e;simp [h2]
  ·rw [h3 n (by omega) (by omega)]
   exact ih (by omega) (fun j a b=>h3 j a (by omega))
theorem top_none{P:Nat→Bool}{n:Nat}(h:∀j,j<n→P j=false):top P n=none:=by
 induction n with
 | zero=>rfl
 | succ n ih=>simp only [top];rw [h n (by omega)];exact ih (fun j hj=>h j (by omega))
theorem top_none_of{P:Nat→Bool}{n:Nat}(h:top P n=none):∀j,j<n→P j=false:=by
 induction n with
 | zero=>intro j hj;omega
 | succ n ih=>
  simp only [top]at h
  split at h
  ·simp at h
  ·rename_i hp
   intro j hj
   by_cases e:j=n
   ·subst e;simpa using hp
   ·exact ih h j (by omega)
theorem top_congr{P Q:Nat→Bool}{n:Nat}(h:∀j,j<n→P j=Q j):top P n=top Q n:=by
 induction n with
 | zero=>rfl
 | succ n ih=>simp only [top];rw [h n (by omega),ih (fun j hj=>h j (by omega))]
section
variable (E:Nat→Nat) (lo:Nat)
def up(i:Nat):Option Nat:=top (fun p=>decide (lo≤p) && decide (i<E p)) i
def fstK(i:Nat):Option Nat:=if i+1<E i then some (i+1)else none
def nxtK(i:Nat):Option Nat:=match up E lo i with | none=>none | some p=>if E i<E p then some (E i)else none
def prvK(i:Nat):Option Nat:=top (fun k=>decide (lo≤k) && (E k==i) && (up E lo k==up E lo i)) i
def lstK(i:Nat):Option Nat:=top (fun k=>decide (i<k) && (up E lo k==some i)) (E i)
end
theorem up_some{E:Nat→Nat}{lo i p:Nat}(h:up E lo i=some p):lo≤p∧p<i∧i<E p∧∀j,p<j→j<i→E j≤i:=by
 obtain⟨h1,h2,h3⟩:=top_some h
 simp only [Bool.and_eq_true,decide_eq_true_eq]at h2
 refine⟨h2.1,h1,h2.2,fun j a b=>?_⟩
 have :=h3 j a b
 simp only [Bool.and_eq_false_iff,decide_eq_false_iff_not]at this
 omega
theorem up_mk{E:Nat→Nat}{lo i p:Nat}(h0:lo≤p)(h1:p<i)(h2:i<E p)(h3:∀j,p<j→j<i→E j≤i):up E lo i=some p:=by
 refine top_mk h1 (by simp [h0,h2]) (fun j a b=>?_)
 have :=h3 j a b
 simp;omega
theorem up_lo{E:Nat→Nat}{lo i:Nat}(h:i≤lo):up E lo i=none:=top_none (fun j hj=>by simp;omega)
structure Part (E:Nat→Nat) (lo hi:Nat):Prop where
 lt:lo<hi
 root:E lo=hi
 pos:∀i,lo≤i→i<hi→i<E i
 lam:∀i j,lo≤i→i<hi→i≤j→j<E i→E j≤E i
theorem Part.le{E:Nat→Nat}{lo hi:Nat}(h:Part E lo hi){i:Nat}(h1:lo≤i)(h2:i<hi):E i≤hi:=by
 have :=h.lam lo i (Nat.le_refl _) h.lt h1 (by rw [h.root];exact h2)
 rwa [h.root]at this
theorem Part.up{E:Nat→Nat}{lo hi:Nat}(h:Part E lo hi){i:Nat}(h1:lo<i)(h2:i<hi):∃p,Go.Proofs.YtkdomegcacgpnaaGreat.up E lo i=some p:=by
 cases e:Go.Proofs.YtkdomegcacgpnaaGreat.up E lo i with
 | some p=>exact⟨p,rfl⟩
 | none=>
  have :=top_none_of e lo h1
  simp [h.root]at this
  omega
theorem Part.links{E:Nat→Nat}{lo hi:Nat}(h:Part E lo hi){i:Nat}(h1:lo≤i)(h2:i<hi):
  (∀p,Go.Proofs.YtkdomegcacgpnaaGreat.up E lo i=some p→lo≤p∧p<hi)∧(∀p,fstK E i=some p→lo≤p∧p<hi)∧(∀p,nxtK E lo i=some p→lo≤p∧p<hi)∧
  (∀p,prvK E lo i=some p→lo≤p∧p<hi)∧(∀p,lstK E lo i=some p→lo≤p∧p<hi):=by
 have hle:=h.le h1 h2
 refine⟨fun p hp=>?_,fun p hp=>?_,fun p hp=>?_,fun p hp=>?_,fun p hp=>?_⟩
 ·have :=up_some hp;omega
 ·unfold fstK at hp
  split at hp
  ·simp at hp;omega
  ·simp at hp
 ·unfold nxtK at hp
  split at hp
  ·simp at hp
  ·rename_i q hq
   have hu:=up_some hq
   have :=h.le hu.1 (by omega)
   have :=h.pos i h1 h2
   split at hp
   ·simp at hp;omega
   ·simp at hp
 ·obtain⟨a,b,_⟩:=top_some hp
  simp only [Bool.and_eq_true,decide_eq_true_eq]at b
  omega
 ·obtain⟨a,b,_⟩:=top_some hp
  simp only [Bool.and_eq_true,decide_eq_true_eq]at b
  omega
theorem Part.next{E:Nat→Nat}{lo hi:Nat}(h:Part E lo hi){j p:Nat}(hj:j<hi)(hu:Go.Proofs.YtkdomegcacgpnaaGreat.up E lo j=some p)(hlt:E j<E p):Go.Proofs.YtkdomegcacgpnaaGreat.up E lo (E j)=some p:=by
 obtain⟨a,b,c,d⟩:=up_some hu
 have hj1:=h.pos j (by omega) hj
 refine up_mk a (by omega) hlt (fun q h1 h2=>?_)
 rcases Nat.lt_trichotomy q j with h3 | rfl | h3
 ·have :=d q h1 h3;omega
 ·exact Nat.le_refl _
 ·exact h.lam j q (by omega) hj (by omega) h2
theorem Part.lst_end{E:Nat→Nat}{lo hi:Nat}(h:Part E lo hi){i l:Nat}(h1:lo≤i)(h2:i<hi)(hl:lstK E lo i=some l):i<l∧l<E i∧Go.Proofs.YtkdomegcacgpnaaGreat.up E lo l=some i∧E l=E i:=by
 obtain⟨a,b,c⟩:=top_some hl
 simp only [Bool.and_eq_true,decide_eq_true_eq,beq_iff_eq]at b
 have hle:=h.le h1 h2
 refine⟨b.1,a,b.2,?_⟩
 have h3:=h.lam i l h1 h2 (by omega) a
 rcases Nat.lt_or_ge (E l) (E i)with h4 | h4
 ·have h5:=h.next (by omega) b.2 h4
  have h6:=h.pos l (by omega) (by omega)
  have :=c (E l) h6 h4
  simp only [Bool.and_eq_false_iff,decide_eq_false_iff_not,beq_eq_false_iff_ne]at this
  rcases this with h7 | h7
  ·omega
  ·exact absurd h5 h7
 ·omega
theorem Part.first{E:Nat→Nat}{lo hi:Nat}(h:Part E lo hi){i:Nat}(h1:lo≤i)(h2:i+1<E i):Go.Proofs.YtkdomegcacgpnaaGreat.up E lo (i+1)=some i:=up_mk h1 (by omega) h2 (fun j a b=>by omega)
theorem Part.lst_some{E:Nat→Nat}{lo hi:Nat}(h:Part E lo hi){i:Nat}(h1:lo≤i)(h2:i+1<E i):∃l,lstK E lo i=some l:=by
 cases e:lstK E lo i with
 | some l=>exact⟨l,rfl⟩
 | none=>
  have :=top_none_of e (i+1) h2
  simp [h.first h1 h2]at this
theorem Part.lst_none{E:Nat→Nat}{lo hi:Nat}(h:Part E lo hi){i:Nat}(h2:E i≤i+1):lstK E lo i=none:=by
 refine top_none (fun j hj=>?_)
 have :¬i<j:=by omega
 simp [this]
structure Join (E1 F E2:Nat→Nat) (lo k k':Nat):Prop where
 p1:Part E1 lo k
 pF:Part F k k'
 e2lo:E2 lo=k'
 e2a:∀i,lo<i→i<k→E2 i=E1 i
 e2b:∀i,k≤i→i<k'→E2 i=F i
section
variable {E1 F E2:Nat→Nat} {lo k k':Nat} (J:Join E1 F E2 lo k k')
include J
theorem Join.up_a{i:Nat}(h1:lo<i)(h2:i<k):up E2 lo i=up E1 lo i:=by
 have hk:=J.pF.lt
 unfold up
 refine top_congr (fun j hj=>?_)
 by_cases e:j=lo
 ·subst e
  have :i<k':=by omega
  simp [J.e2lo,J.p1.root,h2,this]
 ·by_cases hl:lo≤j
  ·simp only [hl,decide_true,Bool.true_and]
   rw [J.e2a j (by omega) (by omega)]
  ·simp [hl]
theorem Join.up_k:up E2 lo k=some lo:=by
 have hk:=J.pF.lt
 have hl:=J.p1.lt
 refine up_mk (Nat.le_refl _) hl (by rw [J.e2lo];exact hk) (fun j h1 h2=>?_)
 rw [J.e2a j h1 h2]
 exact J.p1.le (by omega) h2
theorem Join.up_b{i:Nat}(h1:k<i)(h2:i<k'):up E2 lo i=up F k i:=by
 have hl:=J.p1.lt
 obtain⟨p,hp⟩:=J.pF.up h1 h2
 rw [hp]
 obtain⟨a,b,c,d⟩:=up_some hp
 refine up_mk (by omega) b (by rw [J.e2b p a (by omega)];exact c) (fun j h3 h4=>?_)
 rw [J.e2b j (by omega) (by omega)]
 exact d j h3 h4
theorem Join.fst_a{i:Nat}(h1:lo<i)(h2:i<k):fstK E2 i=fstK E1 i:=by unfold fstK;rw [J.e2a i h1 h2]
theorem Join.fst_b{i:Nat}(h1:k≤i)(h2:i<k'):fstK E2 i=fstK F i:=by unfold fstK;rw [J.e2b i h1 h2]
theorem Join.fst_lo:fstK E2 lo=some (lo+1):=by
 have :=J.p1.lt
 have :=J.pF.lt
 unfold fstK
 rw [J.e2lo,if_pos (by omega)]
theorem Join.fst_lo1(h:lo+1<k):fstK E1 lo=some (lo+1):=by unfold fstK;rw [J.p1.root,if_pos h]
theorem Join.nxt_a{i:Nat}(h1:lo<i)(h2:i<k):nxtK E2 lo i=if up E1 lo i=some lo∧E1 i=k then some k else nxtK E1 lo i:=by
 have hk:=J.pF.lt
 have hi:E1 i≤k:=J.p1.le (by omega) h2
 unfold nxtK
 rw [J.up_a h1 h2,J.e2a i h1 h2]
 obtain⟨p,hp⟩:=J.p1.up h1 h2
 rw [hp]
 obtain⟨a,b,c,d⟩:=up_some hp
 by_cases e:p=lo
 ·subst e
  simp only [J.e2lo,J.p1.root]
  rw [if_pos (show E1 i<k' by omega)]
  by_cases e2:E1 i=k
  ·simp [e2]
  ·simp only [e2,and_false,if_false]
   rw [if_pos (by omega)]
 ·have :¬(some p=some lo∧E1 i=k):=by simp [e]
  rw [if_neg this]
  simp only [J.e2a p (by omega) (by omega)]
theorem Join.nxt_k:nxtK E2 lo k=none:=by
 unfold nxtK
 rw [J.up_k]
 simp only [J.e2lo,J.e2b k (Nat.le_refl _) J.pF.lt,J.pF.root,Nat.lt_irrefl,if_false]
theorem Join.nxt_b{i:Nat}(h1:k<i)(h2:i<k'):nxtK E2 lo i=nxtK F k i:=by
 unfold nxtK
 rw [J.up_b h1 h2,J.e2b i (by omega) h2]
 obtain⟨p,hp⟩:=J.pF.up h1 h2
 rw [hp]
 obtain⟨a,b,c,d⟩:=up_some hp
 simp only [J.e2b p a (by omega)]
theorem Join.prv_a{i:Nat}(h1:lo<i)(h2:i<k):prvK E2 lo i=prvK E1 lo i:=by
 have hk:=J.pF.lt
 unfold prvK
 refine top_congr (fun j hj=>?_)
 by_cases hl:lo≤j
 ·by_cases e:j=lo
  ·subst e
   have e1:(E2 j==i)=false:=by rw [J.e2lo];simp;omega
   have e2:(E1 j==i)=false:=by rw [J.p1.root];simp;omega
   simp [e1,e2]
  ·rw [J.e2a j (by omega) (by omega),J.up_a (by omega) (by omega),J.up_a h1 h2]
 ·simp [hl]
theorem Join.prv_k:prvK E2 lo k=lstK E1 lo lo:=by
 have hk:=J.pF.lt
 have hl:=J.p1.lt
 cases e:lstK E1 lo lo with
 | none=>
  refine top_none (fun j hj=>?_)
  by_cases h1:lo<j
  ·have h2:=top_none_of e j (by rw [J.p1.root];exact hj)
   simp only [h1,decide_true,Bool.true_and]at h2
   rw [J.up_a h1 hj,J.up_k,h2]
   simp
  ·by_cases h2:j=lo
   ·subst h2
    have :(E2 j==k)=false:=by rw [J.e2lo];simp;omega
    simp [this]
   ·have :¬lo≤j:=by omega
    simp [this]
 | some l=>
  obtain⟨a,b,c,d⟩:=J.p1.lst_end (Nat.le_refl _) hl e
  rw [J.p1.root]at b d
  refine top_mk b ?_ (fun j h1 h2=>?_)
  ·rw [J.e2a l a b,J.up_a a b,J.up_k,c,d]
   simp;omega
  ·have h3:=(top_some e).2.2 j h1 (by rw [J.p1.root];exact h2)
   have h4:lo<j:=by omega
   simp only [h4,decide_true,Bool.true_and]at h3
   rw [J.up_a h4 h2,J.up_k,h3]
   simp
theorem Join.prv_b{i:Nat}(h1:k<i)(h2:i<k'):prvK E2 lo i=prvK F k i:=by
 have hl:=J.p1.lt
 unfold prvK
 refine top_congr (fun j hj=>?_)
 by_cases h3:k≤j
 ·have h4:lo≤j:=by omega
  simp only [h3,h4,decide_true,Bool.true_and]
  rw [J.e2b j h3 (by omega)]
  by_cases h5:j=k
  ·subst h5
   have :(F j==i)=false:=by rw [J.pF.root];simp;omega
   simp [this]
  ·rw [J.up_b (by omega) (by omega),J.up_b h1 h2]
 ·simp only [h3,decide_false,Bool.false_and]
  by_cases h4:lo≤j
  ·have :(E2 j==i)=false:=by
    by_cases h5:j=lo
    ·subst h5;rw [J.e2lo];simp;omega
    ·rw [J.e2a j (by omega) (by omega)]
     have :=J.p1.le h4 (by omega)
     simp;omega
   simp [this]
  ·simp [h4]
theorem Join.lst_a{i:Nat}(h1:lo<i)(h2:i<k):lstK E2 lo i=lstK E1 lo i:=by
 unfold lstK
 rw [J.e2a i h1 h2]
 have :=J.p1.le (by omega) h2
 refine top_congr (fun j hj=>?_)
 by_cases h3:i<j
 ·rw [J.up_a (by omega) (by omega)]
 ·simp [h3]
theorem Join.lst_lo:lstK E2 lo lo=some k:=by
 have hk:=J.pF.lt
 have hl:=J.p1.lt
 unfold lstK
 rw [J.e2lo]
 refine top_mk hk (by rw [J.up_k];simp;omega) (fun j h1 h2=>?_)
 rw [J.up_b h1 h2]
 obtain⟨p,hp⟩:=J.pF.up h1 h2
 have :=(up_some hp).1
 rw [hp]
 have :¬p=lo:=by omega
 simp [this]
theorem Join.lst_b{i:Nat}(h1:k≤i)(h2:i<k'):lstK E2 lo i=lstK F k i:=by
 unfold lstK
 rw [J.e2b i h1 h2]
 have :=J.pF.le h1 h2
 refine top_congr (fun j hj=>?_)
 by_cases h3:i<j
 ·rw [J.up_b (by omega) (by omega)]
 ·simp [h3]
theorem Join.part:Part E2 lo k':=by
 have hk:=J.pF.lt
 have hl:=J.p1.lt
 refine⟨by omega,J.e2lo,fun i h1 h2=>?_,fun i j h1 h2 h3 h4=>?_⟩
 ·by_cases e:i=lo
  ·subst e;rw [J.e2lo];omega
  ·by_cases h3:i<k
   ·rw [J.e2a i (by omega) h3];exact J.p1.pos i h1 h3
   ·rw [J.e2b i (by omega) h2];exact J.pF.pos i (by omega) h2
 ·have hj:j<k':=by
   by_cases e:i=lo
   ·subst e;rw [J.e2lo]at h4;exact h4
   ·by_cases h5:i<k
    ·rw [J.e2a i (by omega) h5]at h4
     have :=J.p1.le h1 h5;omega
    ·rw [J.e2b i (by omega) h2]at h4
     have :=J.pF.le (by omega) h2;omega
  have hend:∀x,lo≤x→x<k'→E2 x≤k':=fun x a b=>by
   by_cases e:x=lo
   ·subst e;rw [J.e2lo];omega
   ·by_cases h5:x<k
    ·rw [J.e2a x (by omega) h5];have :=J.p1.le a h5;omega
    ·rw [J.e2b x (by omega) b];exact J.pF.le (by omega) b
  by_cases e:i=lo
  ·subst e;rw [J.e2lo];exact hend j (by omega) hj
  ·by_cases h5:i<k
   ·rw [J.e2a i (by omega) h5]at h4 ⊢
    have :=J.p1.le h1 h5
    rw [J.e2a j (by omega) (by omega)]
    exact J.p1.lam i j h1 h5 h3 h4
   ·rw [J.e2b i (by omega) h2]at h4 ⊢
    rw [J.e2b j (by omega) hj]
    exact J.pF.lam i j (by omega) h2 h3 h4
end
end Go.Proofs.YtkdomegcacgpnaaGreat
namespace Go.Proofs.YtkdomegcacgpnaaGreat
def lb(P:Nat→Bool):Nat→List Nat
 | 0=>[]
 | k+1=>if P k then lb P k++[k]else lb P k
theorem lb_mem{P:Nat→Bool}{x:Nat}:∀{n},x∈lb P n→x<n∧P x=true:=by
 intro n
 induction n with
 | zero=>intro h;simp [lb]at h
 | succ n ih=>
  intro h
  simp only [lb]at h
  split at h
  ·rename_i hp
   simp at h
   rcases h with h | rfl
   ·have :=ih h;exact⟨by omega,this.2⟩
   ·exact⟨by omega,hp⟩
  ·have :=ih h;exact⟨by omega,this.2⟩
theorem lb_gap{P:Nat→Bool}{a:Nat}:∀d,(∀k,a≤k→k<a+d→P k=false)→lb P (a+d)=lb P a:=by
 intro d
 induction d with
 | zero=>intro _;rfl
 | succ d ih=>
  intro h
  show lb P (a+d+1)=_
  simp only [lb]
  rw [h (a+d) (by omega) (by omega)]
  exact ih (fun k h1 h2=>h k h1 (by omega))
theorem lb_length_le{P:Nat→Bool}:∀n,(lb P n).length≤n:=by
 intro n
 induction n with
 | zero=>exact Nat.le_refl _
 | succ n ih=>
  simp only [lb]
  split
  ·rw [List.length_append];simp;omega
  ·omega
theorem kids_lb{z:Nat→Nat}{n p:Nat}(hz:Nest z n)(hp:p<n):kids z p=lb (fun k=>par z k==some p) n:=by
 have hpos:=hz.pos p hp
 have hfit:=hz.fit p hp
 have key:∀f k,(p+z p)-k≤f→p<k→k≤p+z p→(k<p+z p→par z k=some p)→lb (fun k=>par z k==some p) k++kidsFrom z (p+z p) f k=lb (fun k=>par z k==some p) (p+z p):=by
  intro f
  induction f with
  | zero=>
   intro k h1 h2 h3 _
   obtain rfl:k=p+z p:=by omega
   simp [kidsFrom]
  | succ f ih=>
   intro k h1 h2 h3 h4
   by_cases hk:k<p+z p
   ·have hpk:=h4 hk
    have hk1:=hz.pos k (by omega)
    have hlam:=hz.lam p k hp (by omega) hk
    simp only [kidsFrom,hk,if_true]
    have hnext:=ih (k+z k) (by omega) (by omega) (by omega) (fun h=>par_next hz hpk (by omega) h)
    rw [←hnext]
    have hg:lb (fun k=>par z k==some p) (k+z k)=lb (fun k=>par z k==some p) k++[k]:=by
     have h5:=lb_gap (P:=fun k=>par z k==some p) (a:=k+1) (z k-1) (fun j ha hb=>by
      simp only [beq_eq_false_iff_ne,ne_eq]
      intro hj
      have :=(par_some hj).2.2 k h2 (by omega)
      omega)
     rw [show k+1+(z k-1)=k+z k by omega]at h5
     rw [h5]
     simp [lb,hpk]
    rw [hg]
    simp
   ·obtain rfl:k=p+z p:=by omega
    rw [kidsFrom_end (Nat.le_refl _)]
    simp
 have h0:lb (fun k=>par z k==some p) (p+1)=[]:=by
  have :=lb_gap (P:=fun k=>par z k==some p) (a:=0) (p+1) (fun j _ hb=>by
   simp only [beq_eq_false_iff_ne,ne_eq]
   intro hj
   have :=(par_some hj).1
   omega)
  rw [Nat.zero_add]at this
  rw [this];rfl
 have hk:=key (z p) (p+1) (by omega) (by omega) (by omega) (fun h=>par_first hp (by omega))
 rw [h0]at hk
 unfold kids
 simp only [List.nil_append]at hk
 rw [hk]
 have h6:=lb_gap (P:=fun k=>par z k==some p) (a:=p+z p) (n-(p+z p)) (fun j ha hb=>by
  simp only [beq_eq_false_iff_ne,ne_eq]
  intro hj
  have :=(par_some hj).2.1
  omega)
 rw [show p+z p+(n-(p+z p))=n by omega]at h6
 exact h6.symm
theorem up_par{z:Nat→Nat}{i:Nat}:up (fun i=>i+z i) 0 i=par z i:=by
 cases h:par z i with
 | some p=>
  obtain⟨a,b,c⟩:=par_some h
  exact up_mk (Nat.zero_le _) a b c
 | none=>
  have :=par_none h
  refine top_none (fun j hj=>?_)
  have :=this j hj
  simp;omega
end Go.Proofs.YtkdomegcacgpnaaGreat
namespace Go.Proofs.YtkdomegcacgpnaaGreat
open Go.RowKit
def NameSays(s:ByteArray)(b:Bool):Prop:=b=true→s.size≤40
set_option maxHeartbeats 1000000 in
theorem name_any(s:ByteArray)(w:World)(hs:s.size≤maxLen):
  Calls Tryz.prog 100 #[.string s] w (SomeBool (NameSays s) w):=by
 unfold maxLen at hs
 go_enter Tryz.func100,Tryz.ntmps100
 by_cases h0:s.size=0
 ·have h0':((s.size:Int)==0)=true:=by simp [h0]
  go_wp2
  go_ret
  exact⟨_,(fun _=>by omega),rfl,rfl⟩
 ·have h0':((s.size:Int)==0)=false:=by simpa using h0
  by_cases h1:40<s.size
  ·go_wp2
   go_ret
   exact⟨_,(fun h=>by cases h),rfl,rfl⟩
  ·have h1':s.size≤40:=by omega
   have hp:0<s.size:=by omega
   go_wp2
   ·go_ret
    exact⟨_,fun _=>h1',rfl,rfl⟩
   ·go_ret
    exact⟨_,fun _=>h1',rfl,rfl⟩
   ·go_loop [3] (fun i=>∃k:Nat,k≤40∧i=.int .i64 k) (fun i=>41-(intOf i).toNat)
    case atStart=>exact⟨1,by omega,rfl⟩
    case round=>
     obtain⟨k,hk,rfl⟩:=hrel
     go_wp2
     all_goals first
      | (go_ret;exact⟨_,fun _=>h1',rfl,rfl⟩)
      | (go_round
         case rel=>exact⟨k+1,by omega,by go_num⟩
         case measure=>simp [intOf];omega)
def PointPost(s:ByteArray)(at_:Nat)(w:World)(e:Ending)(w':World):Prop:=
 ∃(q:Int) (n:Nat),e=.returned (.tuple #[.int .i64 q,.int .i64 n])∧n≤4∧at_+n≤s.size∧w=w'
set_option maxRecDepth 100000 in
set_option maxHeartbeats 2000000 in
theorem point_any(s:ByteArray)(at_:Nat)(w:World)(hs:s.size≤maxLen)(hat:at_<s.size):
  Calls Tryz.prog 135 #[.string s,.int .i64 at_] w (PointPost s at_ w):=by
 unfold maxLen at hs
 obtain⟨c,hc⟩:∃c,wrap64 ((s[at_]'hat).toNat:Int)=c:=⟨_,rfl⟩
 rcases(show c<128∨(128≤c∧c<192)∨(192≤c∧c<224)∨(224≤c∧c<240)∨(240≤c∧c<248)∨248≤c by omega)with h | h | h | h | h | h
 ·have g128:decide (c<(128:Int))=true:=by simp;omega
  go_enter Tryz.func135,Tryz.ntmps135
  go_wp2
  go_ret2
  exact⟨_,1,rfl,by omega,by omega,rfl⟩
 ·have g128:decide (c<(128:Int))=false:=by simp;omega
  have e192:decide ((192:Int)≤c)=false:=by simp;omega
  have e224:decide ((224:Int)≤c)=false:=by simp;omega
  have e240:decide ((240:Int)≤c)=false:=by simp;omega
  go_enter Tryz.func135,Tryz.ntmps135
  go_wp2
  go_ret2
  exact⟨_,0,rfl,by omega,by omega,rfl⟩
 ·skip
  have g128:decide (c<(128:Int))=false:=by simp;omega
  have e192:decide ((192:Int)≤c)=true:=by simp;omega
  have g224:decide (c<(224:Int))=true:=by simp;omega
  by_cases hr:(s.size:Int)-at_≤1
  ·have gr:decide ((s.size:Int)-(at_:Int)≤1)=true:=by simp;omega
   go_enter Tryz.func135,Tryz.ntmps135
   go_wp2
   go_ret2
   exact⟨_,0,rfl,by omega,by omega,rfl⟩
  ·have gr:decide ((s.size:Int)-(at_:Int)≤1)=false:=by simp;omega
   go_enter Tryz.func135,Tryz.ntmps135
   go_wp2
   go_loop [4,9] (fun p i=>∃(q:Int) (k:Nat),1≤k∧k≤2∧p=.int .i64 q∧i=.int .i64 k) (fun _ i=>2-(intOf i).toNat)
   case atStart=>exact⟨_,1,by omega,by omega,rfl,rfl⟩
   case round=>
    obtain⟨q,k,hk1,hk2,rfl,rfl⟩:=hrel
    by_cases hlt:k≤1
    ·go_wp2
     all_goals first
      | (go_ret2;exact⟨_,0,rfl,by omega,by omega,rfl⟩)
      | (go_round
         case rel=>exact⟨_,k+1,by omega,by omega,rfl,by go_num⟩
         case measure=>simp [intOf];omega)
    ·go_wp2
     all_goals first
      | (go_ret2;exact⟨_,0,rfl,by omega,by omega,rfl⟩)
      | (go_ret2;exact⟨_,2,rfl,by omega,by omega,rfl⟩)
 ·skip
  have g128:decide (c<(128:Int))=false:=by simp;omega
  have e192:decide ((192:Int)≤c)=true:=by simp;omega
  have g224:decide (c<(224:Int))=false:=by simp;omega
  have e224:decide ((224:Int)≤c)=true:=by simp;omega
  have g240:decide (c<(240:Int))=true:=by simp;omega
  by_cases hr:(s.size:Int)-at_≤2
  ·have gr:decide ((s.size:Int)-(at_:Int)≤2)=true:=by simp;omega
   go_enter Tryz.func135,Tryz.ntmps135
   go_wp2
   go_ret2
   exact⟨_,0,rfl,by omega,by omega,rfl⟩
  ·have gr:decide ((s.size:Int)-(at_:Int)≤2)=false:=by simp;omega
   go_enter Tryz.func135,Tryz.ntmps135
   go_wp2
   go_loop [4,9] (fun p i=>∃(q:Int) (k:Nat),1≤k∧k≤3∧p=.int .i64 q∧i=.int .i64 k) (fun _ i=>3-(intOf i).toNat)
   case atStart=>exact⟨_,1,by omega,by omega,rfl,rfl⟩
   case round=>
    obtain⟨q,k,hk1,hk2,rfl,rfl⟩:=hrel
    by_cases hlt:k≤2
    ·go_wp2
     all_goals first
      | (go_ret2;exact⟨_,0,rfl,by omega,by omega,rfl⟩)
      | (go_round
         case rel=>exact⟨_,k+1,by omega,by omega,rfl,by go_num⟩
         case measure=>simp [intOf];omega)
    ·go_wp2
     all_goals first
      | (go_ret2;exact⟨_,0,rfl,by omega,by omega,rfl⟩)
      | (go_ret2;exact⟨_,3,rfl,by omega,by omega,rfl⟩)
 ·skip
  have g128:decide (c<(128:Int))=false:=by simp;omega
  have e192:decide ((192:Int)≤c)=true:=by simp;omega
  have g224:decide (c<(224:Int))=false:=by simp;omega
  have e224:decide ((224:Int)≤c)=true:=by simp;omega
  have g240:decide (c<(240:Int))=false:=by simp;omega
  have e240:decide ((240:Int)≤c)=true:=by simp;omega
  have g248:decide (c<(248:Int))=true:=by simp;omega
  by_cases hr:(s.size:Int)-at_≤3
  ·have gr:decide ((s.size:Int)-(at_:Int)≤3)=true:=by simp;omega
   go_enter Tryz.func135,Tryz.ntmps135
   go_wp2
   go_ret2
   exact⟨_,0,rfl,by omega,by omega,rfl⟩
  ·have gr:decide ((s.size:Int)-(at_:Int)≤3)=false:=by simp;omega
   go_enter Tryz.func135,Tryz.ntmps135
   go_wp2
   go_loop [4,9] (fun p i=>∃(q:Int) (k:Nat),1≤k∧k≤4∧p=.int .i64 q∧i=.int .i64 k) (fun _ i=>4-(intOf i).toNat)
   case atStart=>exact⟨_,1,by omega,by omega,rfl,rfl⟩
   case round=>
    obtain⟨q,k,hk1,hk2,rfl,rfl⟩:=hrel
    by_cases hlt:k≤3
    ·go_wp2
     all_goals first
      | (go_ret2;exact⟨_,0,rfl,by omega,by omega,rfl⟩)
      | (go_round
         case rel=>exact⟨_,k+1,by omega,by omega,rfl,by go_num⟩
         case measure=>simp [intOf];omega)
    ·go_wp2
     all_goals first
      | (go_ret2;exact⟨_,0,rfl,by omega,by omega,rfl⟩)
      | (go_ret2;exact⟨_,4,rfl,by omega,by omega,rfl⟩)
 ·have g128:decide (c<(128:Int))=false:=by simp;omega
  have e192:decide ((192:Int)≤c)=true:=by simp;omega
  have g224:decide (c<(224:Int))=false:=by simp;omega
  have e224:decide ((224:Int)≤c)=true:=by simp;omega
  have g240:decide (c<(240:Int))=false:=by simp;omega
  have e240:decide ((240:Int)≤c)=true:=by simp;omega
  have g248:decide (c<(248:Int))=false:=by simp;omega
  go_enter Tryz.func135,Tryz.ntmps135
  go_wp2
  go_ret2
  exact⟨_,0,rfl,by omega,by omega,rfl⟩
set_option maxRecDepth 100000 in
set_option maxHeartbeats 1000000 in
theorem plain_any(s:ByteArray)(w:World)(hs:s.size≤maxLen):
  Calls Tryz.prog 98 #[.string s] w (SomeBool (fun _=>True) w):=by
 have hs':=hs
 unfold maxLen at hs'
 go_enter Tryz.func98,Tryz.ntmps98
 go_wp2
 go_loop [3] (fun i=>∃k:Nat,k≤s.size∧i=.int .i64 k) (fun i=>s.size-(intOf i).toNat)
 case atStart=>exact⟨0,Nat.zero_le _,rfl⟩
 case round=>
  obtain⟨k,hk,rfl⟩:=hrel
  by_cases hlt:k<s.size
  ·go_wp2_with fail
   refine(point_any s k w hs hlt).mono ?_
   rintro e w' ⟨q,n,rfl,hn4,hn,rfl⟩
   by_cases h0:n=0
   ·have g0:((n:Int)==0)=true:=by simp [h0]
    have H0:=Lib.hid h0
    clear h0
    go_wp2
    go_ret
    exact⟨_,trivial,rfl,rfl⟩
   ·have g0:((n:Int)==0)=false:=by simp;omega
    by_cases h1:q=0
    ·have g1:(q==0)=true:=by simp [h1]
     have H1:=Lib.hid h1
     clear h1
     go_wp2
     go_ret
     exact⟨_,trivial,rfl,rfl⟩
    ·have g1:(q==0)=false:=by simp [h1]
     go_wp2
     go_round
     case rel=>exact⟨k+n,by omega,by go_num⟩
     case measure=>simp [intOf];omega
  ·go_wp2
   go_ret
   exact⟨_,trivial,rfl,rfl⟩
end Go.Proofs.YtkdomegcacgpnaaGreat
