/- Parts of a proof: WrapPure. -/
import Derived.Test.YtkdomegcacgpnaaGreatG14
set_option linter.unusedVariables false
set_option linter.unusedSimpArgs false
namespace Go.Proofs.YtkdomegcacgpnaaGreat
def elK(lab:Nat→NodeD)(G:Wd)(k:Nat):List Nat:=(G.kids k).filter fun y=>decide ((lab y).kind=3)
inductive Inm (lab:Nat→NodeD) (G:Wd):Nat→Option Nat→Prop
 | stop {k:Nat} (h:elK lab G k=[]):Inm lab G k (some k)
 | many {k:Nat} (h:2≤(elK lab G k).length):Inm lab G k none
 | down {k y:Nat} {o:Option Nat} (h:elK lab G k=[y]) (h2:Inm lab G y o):Inm lab G k o
theorem Inm.det{lab:Nat→NodeD}{G:Wd}{k:Nat}{o:Option Nat}(h:Inm lab G k o):∀{o'},Inm lab G k o'→o=o':=by
 induction h with
 | stop h=>
  intro o' h'
  cases h' with
  | stop _=>rfl
  | many h2=>rw [h]at h2;simp at h2
  | down h2 _=>rw [h]at h2;cases h2
 | many h=>
  intro o' h'
  cases h' with
  | stop h2=>rw [h2]at h;simp at h
  | many _=>rfl
  | down h2 _=>rw [h2]at h;simp at h
 | down h _ ih=>
  intro o' h'
  cases h' with
  | stop h2=>rw [h]at h2;cases h2
  | many h2=>rw [h]at h2;simp at h2
  | down h2 h3=>
   rw [h]at h2
   cases h2
   exact ih h3
theorem elK_mem{lab:Nat→NodeD}{G:Wd}{k y:Nat}(h:y∈elK lab G k):y∈G.kids k:=(List.mem_filter.1 h).1
theorem Inm.mem{lab:Nat→NodeD}{G:Wd}{L:List Nat}(hs:∀x∈L,∀y∈G.kids x,y∈L){k:Nat}{o:Option Nat}(h:Inm lab G k o):k∈L→∀z,o=some z→z∈L:=by
 induction h with
 | stop h=>intro hk z hz;cases hz;exact hk
 | many h=>intro hk z hz;cases hz
 | down h _ ih=>intro hk;exact ih (hs _ hk _ (elK_mem (by rw [h];simp)))
theorem elK_congr{lab lab':Nat→NodeD}{G G':Wd}{k:Nat}(hk:G'.kids k=G.kids k)(hl:∀y∈G.kids k,lab' y=lab y):elK lab' G' k=elK lab G k:=by
 unfold elK
 rw [hk]
 exact List.filter_congr (fun y hy=>by rw [hl y hy])
theorem Inm.congr{lab lab':Nat→NodeD}{G G':Wd}{L:List Nat}(hs:∀x∈L,∀y∈G.kids x,y∈L)(hk:∀x∈L,G'.kids x=G.kids x)(hl:∀x∈L,lab' x=lab x){k:Nat}{o:Option Nat}(h:Inm lab G k o):k∈L→Inm lab' G' k o:=by
 have he:∀x∈L,elK lab' G' x=elK lab G x:=fun x hx=>elK_congr (hk x hx) (fun y hy=>hl y (hs x hx y hy))
 induction h with
 | stop h=>intro hk2;exact .stop (by rw [he _ hk2];exact h)
 | many h=>intro hk2;exact .many (by rw [he _ hk2];exact h)
 | down h _ ih=>intro hk2;exact .down (by rw [he _ hk2];exact h) (ih (hs _ hk2 _ (elK_mem (by rw [h];simp))))
theorem Inm.copy{lab lab':Nat→NodeD}{G:Wd}{m:Nat}{L ws:List Nat}(hc:CpOk m G L ws)(hl:∀i,i<L.length→lab' (m+i)=lab (L.getD i 0)){k:Nat}{o:Option Nat}(h:Inm lab G k o):k∈L→Inm lab' (cpW G m L ws) (m+ix L k) (o.map fun z=>m+ix L z):=by
 have he:∀x∈L,elK lab' (cpW G m L ws) (m+ix L x)=(elK lab G x).map fun y=>m+ix L y:=fun x hx=>by
  unfold elK
  rw [(cp_new hx).1,List.filter_map]
  congr 1
  refine List.filter_congr (fun y hy=>?_)
  have hyL:=(hc.sub x hx y hy).1
  simp only [Function.comp]
  rw [hl _ (ix_lt hyL),ix_get hyL]
 induction h with
 | stop h=>intro hk2;exact .stop (by rw [he _ hk2,h];rfl)
 | many h=>intro hk2;exact .many (by rw [he _ hk2,List.length_map];exact h)
 | down h _ ih=>intro hk2;exact .down (by rw [he _ hk2,h];rfl) (ih (hc.sub _ hk2 _ (elK_mem (by rw [h];simp))).1)
def wrap1(G:Wd)(m:Nat)(L:List Nat)(w p:Nat)(A:List Nat)(x z:Nat):Wd:=(((cpW G m L [w]).put p A.length m).cut x).put (m+ix L z) (G.kids z).length x
structure WrapOk (G:Wd) (m:Nat) (L:List Nat) (w p:Nat) (A:List Nat) (x:Nat) (B:List Nat) (z:Nat):Prop where
 ok1:WOk (m+L.length) (cpW G m L [w])
 root:(cpW G m L [w]).up m=none
 kp:(cpW G m L [w]).kids p=A++x::B
 ok2:WOk (m+L.length) ((cpW G m L [w]).put p A.length m)
 up2:((cpW G m L [w]).put p A.length m).up x=some p
 kp2:((cpW G m L [w]).put p A.length m).kids p=A++m::x::B
 kz2:((cpW G m L [w]).put p A.length m).kids (m+ix L z)=(G.kids z).map fun y=>m+ix L y
 ok3:WOk (m+L.length) (((cpW G m L [w]).put p A.length m).cut x)
 up3:(((cpW G m L [w]).put p A.length m).cut x).up x=none
 kz3:(((cpW G m L [w]).put p A.length m).cut x).kids (m+ix L z)=(G.kids z).map fun y=>m+ix L y
 ne:x≠m+ix L z
 pos:0<L.length
 to:m+ix L z<m+L.length
 anc:¬Anc (((cpW G m L [w]).put p A.length m).cut x) x (m+ix L z)
 ok4:WOk (m+L.length) (wrap1 G m L w p A x z)
theorem wrapOk{G:Wd}{m:Nat}{L:List Nat}{w p x z:Nat}{A B:List Nat}(hG:WOk m G)(hc:CpOk m G L [w])(hw:L.head?=some w)(hu:G.up x=some p)(hk:G.kids p=A++x::B)(hz:z∈L)(hxL:x∉L)(hpL:p∉L):WrapOk G m L w p A x B z:=by
 obtain⟨hpm,hxm⟩:=hG.lt p x ((hG.iff p x).2 hu)
 have hwL:=hc.ws w (by simp)
 have hw0:ix L w=0:=by
  cases L with
  | nil=>cases hw
  | cons a r=>simp at hw;simp [ix,hw]
 have hpos:0<L.length:=by
  have :=ix_lt hwL
  omega
 have hzl:=ix_lt hz
 have ok1:=cp_ok hG hc
 have root:=cp_root (F:=G) (n:=m) (L:=L) (ws:=[w]) (x:=w) (by simp) hwL
 rw [hw0,Nat.add_zero]at root
 have o1:∀q,q<m→(cpW G m L [w]).kids q=G.kids q∧(cpW G m L [w]).up q=G.up q:=fun q hq=>cp_old L [w] hq
 have kp:(cpW G m L [w]).kids p=A++x::B:=(o1 p hpm).1.trans hk
 have hlow:∀q,q<m→∀c,Anc (cpW G m L [w]) c q→c<m:=fun q hq c hcq=>by
  induction hcq with
  | refl=>exact hq
  | @step a b hab _ ih=>
   refine ih ?_
   rw [(o1 a hq).2]at hab
   exact(hG.lt b a ((hG.iff b a).2 hab)).1
 have ok2:=ok1.put A.length (p:=p) (x:=m) (by omega) (by omega) root (fun ha=>by have :=hlow p hpm m ha;omega)
 have up2:((cpW G m L [w]).put p A.length m).up x=some p:=by
  simp only [Wd.put]
  rw [if_neg (by omega),(o1 x hxm).2]
  exact hu
 have kp2:((cpW G m L [w]).put p A.length m).kids p=A++m::x::B:=by
  simp only [Wd.put,if_true]
  rw [kp,List.take_left',List.drop_left'] <;> rfl
 have hzp:m+ix L z≠p:=by omega
 have kz2:((cpW G m L [w]).put p A.length m).kids (m+ix L z)=(G.kids z).map fun y=>m+ix L y:=by
  simp only [Wd.put]
  rw [if_neg hzp]
  exact(cp_new hz).1
 have ok3:=ok2.cut x
 have up3:(((cpW G m L [w]).put p A.length m).cut x).up x=none:=by simp [Wd.cut]
 have kz3:(((cpW G m L [w]).put p A.length m).cut x).kids (m+ix L z)=(G.kids z).map fun y=>m+ix L y:=by
  show(((cpW G m L [w]).put p A.length m).kids (m+ix L z)).filter _=_
  rw [kz2]
  exact filter_none (fun hm=>by
   obtain⟨y,_,e⟩:=List.mem_map.1 hm
   omega)
 have hanc:¬Anc (((cpW G m L [w]).put p A.length m).cut x) x (m+ix L z):=fun ha=>by
  have key:∀t,(m≤t∨Anc G t p)→∀c,Anc (((cpW G m L [w]).put p A.length m).cut x) c t→(m≤c∨Anc G c p):=fun t ht c hct=>by
   induction hct with
   | refl=>exact ht
   | @step a b hab _ ih=>
    refine ih ?_
    simp only [Wd.cut]at hab
    split at hab
    ·cases hab
    ·simp only [Wd.put]at hab
     split at hab
     ·cases hab;exact .inr .refl
     ·by_cases e:a<m
      ·rw [(o1 a e).2]at hab
       rcases ht with h | h
       ·omega
       ·exact .inr (Anc.trans (.step hab .refl) h)
      ·by_cases e2:a<m+L.length
       ·obtain⟨y,hy,rfl⟩:=cp_num hc.nd (by omega) e2
        rw [(cp_new hy).2]at hab
        split at hab
        ·cases hab
        ·obtain⟨q,_,hq⟩:=Option.map_eq_some_iff.1 hab
         exact .inl (by omega)
       ·rw [(cp_far hG (by omega)).2]at hab
        cases hab
  rcases key _ (.inl (Nat.le_add_right m (ix L z))) x ha with h | h
  ·omega
  ·exact hG.not_up hu h
 exact⟨ok1,root,kp,ok2,up2,kp2,kz2,ok3,up3,kz3,by omega,hpos,by omega,hanc,ok3.put _ (by omega) (by omega) up3 hanc⟩
inductive Wraps (w:Nat) (L:List Nat) (n2:Nat) (lab2:Nat→NodeD) (G2:Wd):List Nat→Nat→(Nat→NodeD)→Wd→Prop
 | nil {m:Nat} {lab:Nat→NodeD} {G:Wd} (hm:n2=m) (hl:∀i,i<m→lab2 i=lab i) (hG:G2=G):Wraps w L n2 lab2 G2 [] m lab G
 | cons {x p z m:Nat} {xs:List Nat} {lab lab':Nat→NodeD} {G:Wd} {A B:List Nat} (hu:G.up x=some p) (hk:G.kids p=A++x::B) (hz:Inm lab G w (some z)) (h1:∀i,i<m→lab' i=lab i) (h2:∀i,i<L.length→lab' (m+i)=lab (L.getD i 0))
   (h3:Wraps w L n2 lab2 G2 xs (m+L.length) lab' (wrap1 G m L w p A x z)):Wraps w L n2 lab2 G2 (x::xs) m lab G
structure WrMid (n:Nat) (F:Wd) (lab0:Nat→NodeD) (L rest:List Nat) (m:Nat) (lab:Nat→NodeD) (G:Wd):Prop where
 ok:WOk m G
 le:n≤m
 up:∀y,y<n→(y∈rest∨y∈L)→G.up y=F.up y
 tree:∀y∈L,G.kids y=F.kids y
 lab:∀y,y<n→lab y=lab0 y
structure WrSide (n:Nat) (F:Wd) (w:Nat) (L:List Nat) (xs:List Nat):Prop where
 ok:WOk n F
 cp:CpOk n F L [w]
 head:L.head?=some w
 nd:xs.Nodup
 xin:∀x∈xs,x<n∧x∉L∧∃p,F.up x=some p∧p∉L
theorem WrMid.cp{n:Nat}{F:Wd}{lab0:Nat→NodeD}{w:Nat}{L rest:List Nat}{m:Nat}{lab:Nat→NodeD}{G:Wd}(h:WrMid n F lab0 L rest m lab G)(hc:CpOk n F L [w]):CpOk m G L [w]:=
 ⟨hc.nd,fun y hy=>Nat.lt_of_lt_of_le (hc.lt y hy) h.le,fun x hx y hy=>hc.sub x hx y (by rwa [h.tree x hx]at hy),fun y hy hn=>by rw [h.up y (hc.lt y hy) (.inr hy)];exact hc.up y hy hn,hc.ws⟩
theorem WrMid.step{n:Nat}{F:Wd}{lab0:Nat→NodeD}{w:Nat}{L xs:List Nat}{x:Nat}{m:Nat}{lab lab':Nat→NodeD}{G:Wd}(h:WrMid n F lab0 L (x::xs) m lab G)(hs:WrSide n F w L (x::xs)){p z:Nat}{A B:List Nat}(hu:G.up x=some p)(hk:G.kids p=A++x::B)(hz:z∈L)(h1:∀i,i<m→lab' i=lab i):
  WrapOk G m L w p A x B z∧WrMid n F lab0 L xs (m+L.length) lab' (wrap1 G m L w p A x z)∧WrSide n F w L xs:=by
 obtain⟨hxn,hxL,q,hq,hqL⟩:=hs.xin x (by simp)
 have hle:=h.le
 have hpq:p=q:=by
  have :=h.up x hxn (.inl (by simp))
  rw [hu,hq]at this
  exact Option.some.inj this
 have hpL:p∉L:=by rw [hpq];exact hqL
 have hw:=wrapOk h.ok (h.cp hs.cp) hs.head hu hk hz hxL hpL
 obtain⟨hpm,hxm⟩:=h.ok.lt p x ((h.ok.iff p x).2 hu)
 have hnd:=hs.nd
 rw [List.nodup_cons]at hnd
 refine⟨hw,⟨hw.ok4,by omega,fun y hy hyr=>?_,fun y hy=>?_,fun y hy=>by rw [h1 y (by omega)];exact h.lab y hy⟩,⟨hs.ok,hs.cp,hs.head,hnd.2,fun y hy=>hs.xin y (List.mem_cons_of_mem _ hy)⟩⟩
 ·have hyx:y≠x:=fun e=>by
   subst e
   rcases hyr with h5 | h5
   ·exact hnd.1 h5
   ·exact hxL h5
  simp only [wrap1,Wd.put,Wd.cut]
  rw [if_neg hyx,if_neg hyx,if_neg (by omega),(cp_old L [w] (by omega)).2]
  exact h.up y hy (by
   rcases hyr with h5 | h5
   ·exact .inl (List.mem_cons_of_mem _ h5)
   ·exact .inr h5)
 ·have hym:=Nat.lt_of_lt_of_le (hs.cp.lt y hy) hle
  have hyp:y≠p:=fun e=>hpL (e▸hy)
  simp only [wrap1,Wd.put,Wd.cut]
  rw [if_neg (by omega),if_neg hyp,(cp_old L [w] hym).1]
  rw [filter_none (fun hm=>by
   have :=(h.ok.iff y x).1 hm
   rw [hu]at this
   exact hyp (Option.some.inj this).symm)]
  exact h.tree y hy
theorem Wraps.ok{n:Nat}{F:Wd}{lab0:Nat→NodeD}{w:Nat}{L:List Nat}{n2:Nat}{lab2:Nat→NodeD}{G2:Wd}{xs:List Nat}{m:Nat}{lab:Nat→NodeD}{G:Wd}(h:Wraps w L n2 lab2 G2 xs m lab G):WrSide n F w L xs→WrMid n F lab0 L xs m lab G→
  WOk n2 G2∧m≤n2∧(∀i,i<m→lab2 i=lab i)∧∀P:NodeD→Prop,(∀i,i<m→P (lab i))→∀i,i<n2→P (lab2 i):=by
 induction h with
 | nil hm hl hG=>
  intro hs hmid
  subst hm hG
  exact⟨hmid.ok,Nat.le_refl _,hl,fun P hP i hi=>by rw [hl i hi];exact hP i hi⟩
 | @cons x p z m xs lab lab' G A B hu hk hz g1 g2 g3 ih=>
  intro hs hmid
  have hc:=hmid.cp hs.cp
  have hzL:=hz.mem (fun a ha b hb=>(hc.sub a ha b hb).1) (hc.ws w (by simp)) z rfl
  obtain⟨h1,h2,h3⟩:=hmid.step hs hu hk hzL g1
  obtain⟨i1,i2,i3,i4⟩:=ih h3 h2
  refine⟨i1,by omega,fun i hi=>by rw [i3 i (by omega)];exact g1 i hi,fun P hP=>i4 P (fun i hi=>?_)⟩
  by_cases e:i<m
  ·rw [g1 i e];exact hP i e
  ·have :=g2 (i-m) (by omega)
   rw [show m+(i-m)=i by omega]at this
   rw [this]
   exact hP _ (hc.lt _ (getD_mem' (by omega)))
theorem app_uniq{x:Nat}:∀{a b a' b':List Nat},a++x::b=a'++x::b'→x∉a→x∉a'→a=a'∧b=b'
 | [],b,[],b',h,_,_=>by simp at h;exact⟨rfl,h⟩
 | [],b,c::r,b',h,_,h2=>by simp at h;exact absurd (by simp [h.1]) h2
 | c::r,b,[],b',h,h1,_=>by simp at h;exact absurd (by simp [h.1]) h1
 | c::r,b,c'::r',b',h,h1,h2=>by
  simp only [List.cons_append,List.cons.injEq]at h
  have :=app_uniq h.2 (fun hm=>h1 (List.mem_cons_of_mem _ hm)) (fun hm=>h2 (List.mem_cons_of_mem _ hm))
  exact⟨by rw [h.1,this.1],this.2⟩
theorem Wraps.det{n:Nat}{F:Wd}{lab0:Nat→NodeD}{w:Nat}{L:List Nat}{n2:Nat}{lab2:Nat→NodeD}{G2:Wd}{xs:List Nat}{m:Nat}{lab:Nat→NodeD}{G:Wd}(h:Wraps w L n2 lab2 G2 xs m lab G):WrSide n F w L xs→WrMid n F lab0 L xs m lab G→
  ∀{n3:Nat} {lab3:Nat→NodeD} {G3:Wd} {lab':Nat→NodeD},(∀i,i<m→lab' i=lab i)→Wraps w L n3 lab3 G3 xs m lab' G→n2=n3∧G2=G3∧∀i,i<n2→lab2 i=lab3 i:=by
 induction h with
 | nil hm hl hG=>
  intro hs hmid n3 lab3 G3 lab' hlab h'
  cases h' with
  | nil hm' hl' hG'=>
   refine⟨hm.trans hm'.symm,hG.trans hG'.symm,fun i hi=>?_⟩
   rw [hm]at hi
   rw [hl i hi,hl' i hi,hlab i hi]
 | @cons x p z m xs lab lab1 G A B hu hk hz g1 g2 g3 ih=>
  intro hs hmid n3 lab3 G3 lab' hlab h'
  cases h' with
  | @cons _ p' z' _ _ _ lab4 _ A' B' hu' hk' hz' f1 f2 f3=>
   have hc:=hmid.cp hs.cp
   have hsub:∀a∈L,∀b∈G.kids a,b∈L:=fun a ha b hb=>(hc.sub a ha b hb).1
   have hwL:=hc.ws w (by simp)
   have hz2:=hz'.congr (lab':=lab) (G':=G) hsub (fun _ _=>rfl) (fun a ha=>(hlab a (hc.lt a ha)).symm) hwL
   have ez:z=z':=Option.some.inj (hz.det hz2)
   have ep:p=p':=by rw [hu]at hu';exact Option.some.inj hu'
   subst ez ep
   have hnd:=hmid.ok.nd p
   rw [hk]at hnd
   have hnd':=hmid.ok.nd p
   rw [hk']at hnd'
   rw [hk]at hk'
   obtain⟨rfl,rfl⟩:=app_uniq hk' (nd_parts hnd).1 (nd_parts hnd').1
   have hzL:=hz.mem hsub hwL z rfl
   obtain⟨h1,h2,h3⟩:=hmid.step hs hu hk hzL g1
   refine ih h3 h2 (fun i hi=>?_) f3
   by_cases e:i<m
   ·rw [g1 i e,f1 i e];exact hlab i e
   ·have a1:=g2 (i-m) (by omega)
    have a2:=f2 (i-m) (by omega)
    rw [show m+(i-m)=i by omega]at a1 a2
    rw [a1,a2]
    exact hlab _ (hc.lt _ (getD_mem' (by omega)))
end Go.Proofs.YtkdomegcacgpnaaGreat
