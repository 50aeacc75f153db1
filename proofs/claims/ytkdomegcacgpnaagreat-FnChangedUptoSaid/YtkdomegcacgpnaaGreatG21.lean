/- Parts of a proof: WrapsG, DomApart. -/
import Derived.Test.YtkdomegcacgpnaaGreatG15
import Derived.Test.YtkdomegcacgpnaaGreatG20
import Derived.Test.YtkdomegcacgpnaaGreatG06
import Derived.Test.YtkdomegcacgpnaaGreatG17
set_option linter.unusedVariables false
set_option linter.unusedSimpArgs false
namespace Go.Proofs.YtkdomegcacgpnaaGreat
def hull(G:Wd)(m:Nat)(L:List Nat)(w p:Nat)(A:List Nat):Wd:=(cpW G m L [w]).put p A.length m
def wrapG(G:Wd)(m:Nat)(L:List Nat)(w p:Nat)(A:List Nat)(z:Nat)(T:List Nat):Wd:=mv (hull G m L w p A) (m+ix L z) ((G.kids z).map fun y=>m+ix L y) [] T
inductive WrapsG (w:Nat) (L:List Nat) (n2:Nat) (lab2:Nat→NodeD) (G2:Wd):List (List Nat)→Nat→(Nat→NodeD)→Wd→Prop
 | nil {m:Nat} {lab:Nat→NodeD} {G:Wd} (hm:n2=m) (hl:∀i,i<m→lab2 i=lab i) (hG:G2=G):WrapsG w L n2 lab2 G2 [] m lab G
 | cons {x p z m:Nat} {r:List Nat} {gs:List (List Nat)} {lab lab':Nat→NodeD} {G:Wd} {A B:List Nat} (hu:G.up x=some p) (hk:G.kids p=A++x::B) (hz:Inm lab G w (some z)) (hap:∀a∈x::r,∀b∈x::r,a≠b→¬Anc G a b)
   (h1:∀i,i<m→lab' i=lab i) (h2:∀i,i<L.length→lab' (m+i)=lab (L.getD i 0)) (h3:WrapsG w L n2 lab2 G2 gs (m+L.length) lab' (wrapG G m L w p A z (x::r))):WrapsG w L n2 lab2 G2 ((x::r)::gs) m lab G
structure WgMid (n:Nat) (F:Wd) (lab0:Nat→NodeD) (L:List Nat) (rest:List (List Nat)) (m:Nat) (lab:Nat→NodeD) (G:Wd):Prop where
 ok:WOk m G
 le:n≤m
 up:∀y,y<n→(y∈rest.flatten∨y∈L)→G.up y=F.up y
 tree:∀y∈L,G.kids y=F.kids y
 lab:∀y,y<n→lab y=lab0 y
structure WgSide (n:Nat) (F:Wd) (w:Nat) (L:List Nat) (gs:List (List Nat)):Prop where
 ok:WOk n F
 cp:CpOk n F L [w]
 head:L.head?=some w
 nd:gs.flatten.Nodup
 yin:∀y∈gs.flatten,y<n∧y∉L∧∃p,F.up y=some p∧p∉L
theorem WgMid.cp{n:Nat}{F:Wd}{lab0:Nat→NodeD}{w:Nat}{L:List Nat}{rest:List (List Nat)}{m:Nat}{lab:Nat→NodeD}{G:Wd}(h:WgMid n F lab0 L rest m lab G)(hc:CpOk n F L [w]):CpOk m G L [w]:=
 ⟨hc.nd,fun y hy=>Nat.lt_of_lt_of_le (hc.lt y hy) h.le,fun x hx y hy=>hc.sub x hx y (by rwa [h.tree x hx]at hy),fun y hy hn=>by rw [h.up y (hc.lt y hy) (.inr hy)];exact hc.up y hy hn,hc.ws⟩
theorem hull_anc{G:Wd}{m:Nat}{L:List Nat}{w p:Nat}{A:List Nat}(hG:WOk m G)(hc:CpOk m G L [w])(hw:L.head?=some w)(hp:p<m){y q:Nat}(hy:y<m)(h:Anc (hull G m L w p A) y q):q<m+L.length→(m≤q→Anc G y p)∧(q<m→Anc G y q):=by
 induction h with
 | refl=>intro _;exact⟨fun h=>by omega,fun _=>.refl⟩
 | @step a b hab _ ih=>
  intro ha
  by_cases e:a=m
  ·subst e
   have hb:b=p:=by
    unfold hull at hab
    simp only [Wd.put,if_pos]at hab
    exact(Option.some.inj hab).symm
   subst hb
   have h1:=ih (by omega)
   exact⟨fun _=>h1.2 hp,fun h=>by omega⟩
  ·have hab2:(cpW G m L [w]).up a=some b:=by
    unfold hull at hab
    simpa only [Wd.put,if_neg e]using hab
   by_cases ham:a<m
   ·rw [(cp_old L [w] ham).2]at hab2
    have hb:=(hG.lt b a ((hG.iff b a).2 hab2)).1
    have h1:=ih (by omega)
    exact⟨fun h=>by omega,fun _=>.step hab2 (h1.2 hb)⟩
   ·obtain⟨c,hcL,rfl⟩:=cp_num hc.nd (by omega) ha
    rw [(cp_new hcL).2]at hab2
    split at hab2
    ·cases hab2
    ·rename_i hcw
     obtain⟨d,hd,hdu⟩:=hc.up c hcL hcw
     rw [hdu]at hab2
     simp only [Option.map_some,Option.some.injEq]at hab2
     have :=ix_lt hd
     have h1:=ih (by omega)
     exact⟨fun _=>h1.1 (by omega),fun h=>by omega⟩
structure WgOk (G:Wd) (m:Nat) (L:List Nat) (w p:Nat) (A:List Nat) (x:Nat) (B:List Nat) (z:Nat) (g:List Nat):Prop where
 one:WrapOk G m L w p A x B z
 kz:(hull G m L w p A).kids (m+ix L z)=((G.kids z).map fun y=>m+ix L y)++[]
 anc:∀y∈g,¬Anc (hull G m L w p A) y (m+ix L z)
 lt:∀y∈g,y<m
 old:∀T,(∀y∈T,y<m)→offL T ((G.kids z).map fun y=>m+ix L y)=(G.kids z).map fun y=>m+ix L y
 ok:WOk (m+L.length) (wrapG G m L w p A z g)
theorem wgOk{G:Wd}{m:Nat}{L:List Nat}{w p x z:Nat}{A B r:List Nat}(hG:WOk m G)(hc:CpOk m G L [w])(hw:L.head?=some w)(hu:G.up x=some p)(hk:G.kids p=A++x::B)(hz:z∈L)(hpL:p∉L)(hnd:(x::r).Nodup)(hin:∀y∈x::r,y<m∧y∉L)(hap:∀a∈x::r,∀b∈x::r,a≠b→¬Anc G a b):WgOk G m L w p A x B z (x::r):=by
 have one:=wrapOk hG hc hw hu hk hz (hin x (by simp)).2 hpL
 obtain⟨hpm,hxm⟩:=hG.lt p x ((hG.iff p x).2 hu)
 have kz:(hull G m L w p A).kids (m+ix L z)=((G.kids z).map fun y=>m+ix L y)++[]:=by rw [List.append_nil];exact one.kz2
 have anc:∀y∈x::r,¬Anc (hull G m L w p A) y (m+ix L z):=fun y hy ha=>by
  have h1:=(hull_anc hG hc hw hpm (hin y hy).1 ha one.to).1 (by omega)
  by_cases e:y=x
  ·subst e
   exact hG.not_up hu h1
  ·exact hap y hy x (by simp) e (.step hu h1)
 have lt:∀y∈x::r,y<m:=fun y hy=>(hin y hy).1
 refine⟨one,kz,anc,lt,fun T hT=>?_,mv_all one.ok2 one.to kz anc hnd (fun y hy=>by have :=lt y hy;omega)⟩
 refine List.filter_eq_self.2 (fun q hq=>?_)
 obtain⟨c,_,rfl⟩:=List.mem_map.1 hq
 simp only [Bool.not_eq_true',List.contains_eq_mem,decide_eq_false_iff_not]
 exact fun hm=>by have :=hT _ hm;omega
theorem WgMid.step{n:Nat}{F:Wd}{lab0:Nat→NodeD}{w:Nat}{L:List Nat}{gs:List (List Nat)}{x:Nat}{r:List Nat}{m:Nat}{lab lab':Nat→NodeD}{G:Wd}(h:WgMid n F lab0 L ((x::r)::gs) m lab G)(hs:WgSide n F w L ((x::r)::gs)){p z:Nat}{A B:List Nat}(hu:G.up x=some p)(hk:G.kids p=A++x::B)(hz:z∈L)(hap:∀a∈x::r,∀b∈x::r,a≠b→¬Anc G a b)(h1:∀i,i<m→lab' i=lab i):
  WgOk G m L w p A x B z (x::r)∧WgMid n F lab0 L gs (m+L.length) lab' (wrapG G m L w p A z (x::r))∧WgSide n F w L gs:=by
 have hle:=h.le
 have hnd:=hs.nd
 rw [List.flatten_cons,List.nodup_append]at hnd
 have hyin:∀y∈x::r,y<n∧y∉L∧∃p,F.up y=some p∧p∉L:=fun y hy=>hs.yin y (by rw [List.flatten_cons];exact List.mem_append_left _ hy)
 obtain⟨hxn,hxL,p2,hp2,hpL⟩:=hyin x (by simp)
 have hpe:p=p2:=by
  have e:=h.up x hxn (.inl (by rw [List.flatten_cons];simp))
  rw [hu,hp2]at e
  exact Option.some.inj e
 subst hpe
 have hw:=wgOk h.ok (h.cp hs.cp) hs.head hu hk hz hpL hnd.1 (fun y hy=>⟨by have :=(hyin y hy).1;omega,(hyin y hy).2.1⟩) hap
 have hpm:=(h.ok.lt p x ((h.ok.iff p x).2 hu)).1
 have hzl:=ix_lt hz
 refine⟨hw,⟨hw.ok,by omega,fun y hy hd=>?_,fun y hy=>?_,fun y hy=>by rw [h1 y (by omega)];exact h.lab y hy⟩,hs.ok,hs.cp,hs.head,hnd.2.1,fun y hy=>hs.yin y (by rw [List.flatten_cons];exact List.mem_append_right _ hy)⟩
 ·have hyg:y∉x::r:=fun hm=>by
   rcases hd with hd | hd
   ·exact hnd.2.2 y hm y hd rfl
   ·exact(hyin y hm).2.1 hd
  unfold wrapG
  rw [mv_up,if_neg hyg]
  unfold hull
  simp only [Wd.put]
  rw [if_neg (by omega),(cp_old L [w] (by omega)).2]
  exact h.up y hy (hd.elim (fun hd=>.inl (by rw [List.flatten_cons];exact List.mem_append_right _ hd)) .inr)
 ·have hyn:=hs.cp.lt y hy
  have hyp:y≠p:=fun e=>hpL (e▸hy)
  unfold wrapG mv
  simp only [Wd.ins,Wd.off]
  rw [if_neg (by omega)]
  unfold hull
  simp only [Wd.put]
  rw [if_neg hyp,(cp_old L [w] (by omega)).1,h.tree y hy]
  refine List.filter_eq_self.2 (fun q hq=>?_)
  simp only [Bool.not_eq_true',List.contains_eq_mem,decide_eq_false_iff_not]
  exact fun hm=>(hyin q hm).2.1 (hs.cp.sub y hy q hq).1
theorem WrapsG.ok{n:Nat}{F:Wd}{lab0:Nat→NodeD}{w:Nat}{L:List Nat}{n2:Nat}{lab2:Nat→NodeD}{G2:Wd}{gs:List (List Nat)}{m:Nat}{lab:Nat→NodeD}{G:Wd}(h:WrapsG w L n2 lab2 G2 gs m lab G):WgSide n F w L gs→WgMid n F lab0 L gs m lab G→WOk n2 G2∧m≤n2:=by
 induction h with
 | nil hm hl hG=>intro _ hmid;subst hm hG;exact⟨hmid.ok,Nat.le_refl _⟩
 | @cons x p z m r gs lab lab' G A B hu hk hz hap h1 h2 _ ih=>
  intro hs hmid
  have hzL:=hz.mem (fun a ha b hb=>(hmid.cp hs.cp).sub a ha b hb |>.1) (hs.cp.ws w (by simp)) z rfl
  obtain⟨_,a1,a2⟩:=hmid.step hs hu hk hzL hap h1
  obtain⟨b1,b2⟩:=ih a2 a1
  exact⟨b1,by omega⟩
theorem Inm.turn{lab lb:Nat→NodeD}{G:Wd}{L:List Nat}(hs:∀x∈L,∀y∈G.kids x,y∈L)(he:∀x∈L,elK lb G x=elK lab G x){k:Nat}{o:Option Nat}(h:Inm lab G k o):k∈L→Inm lb G k o:=by
 induction h with
 | stop h=>intro hk2;exact .stop (by rw [he _ hk2];exact h)
 | many h=>intro hk2;exact .many (by rw [he _ hk2];exact h)
 | down h _ ih=>intro hk2;exact .down (by rw [he _ hk2];exact h) (ih (hs _ hk2 _ (elK_mem (by rw [h];simp))))
theorem WrapsG.relab{n:Nat}{F:Wd}{lab0:Nat→NodeD}{w:Nat}{L:List Nat}{n2:Nat}{lab2:Nat→NodeD}{G2:Wd}{gs:List (List Nat)}{m:Nat}{lab:Nat→NodeD}{G:Wd}(h:WrapsG w L n2 lab2 G2 gs m lab G):WgSide n F w L gs→WgMid n F lab0 L gs m lab G→∀{lb:Nat→NodeD},(∀i,i<m→(lb i).kind=(lab i).kind)→
  ∃(lb2:Nat→NodeD) (src:Nat→Nat),WrapsG w L n2 lb2 G2 gs m lb G∧(∀i,i<n2→src i<m∧lab2 i=lab (src i)∧lb2 i=lb (src i))∧∀i,i<m→src i=i:=by
 induction h with
 | nil hm hl hG=>intro _ _ lb hk;subst hm;exact⟨lb,id,.nil rfl (fun _ _=>rfl) hG,fun i hi=>⟨hi,hl i hi,rfl⟩,fun _ _=>rfl⟩
 | @cons x p z m r gs lab lab' G A B hu hk hz hap h1 h2 h3 ih=>
  intro hs hmid lb hkd
  have hcp:=hmid.cp hs.cp
  have hsub:∀a∈L,∀b∈G.kids a,b∈L:=fun a ha b hb=>(hcp.sub a ha b hb).1
  have hwL:=hs.cp.ws w (by simp)
  have hzL:=hz.mem hsub hwL z rfl
  obtain⟨_,a1,a2⟩:=hmid.step hs hu hk hzL hap h1
  have hz2:Inm lb G w (some z):=by
   have he:∀a∈L,elK lb G a=elK lab G a:=fun a ha=>by
    unfold elK
    exact List.filter_congr (fun y hy=>by rw [hkd y (hcp.lt y (hsub a ha y hy))])
   exact Inm.turn hsub he hz hwL
  obtain⟨lb2,src,b1,b2,b3⟩:=ih a2 a1 (lb:=fun i=>if i<m then lb i else lb (L.getD (i-m) 0)) (fun i hi=>by
   by_cases e:i<m
   ·rw [if_pos e,h1 i e];exact hkd i e
   ·have h5:=h2 (i-m) (by omega)
    rw [show m+(i-m)=i by omega]at h5
    rw [if_neg e,h5]
    exact hkd _ (hcp.lt _ (getD_mem' (by omega))))
  refine⟨lb2,fun i=>if src i<m then src i else L.getD (src i-m) 0,.cons hu hk hz2 hap (fun i hi=>by rw [if_pos hi]) (fun i hi=>by rw [if_neg (by omega),show m+i-m=i by omega]) b1,fun i hi=>?_,fun i hi=>?_⟩
  ·obtain⟨c1,c2,c3⟩:=b2 i hi
   by_cases e:src i<m
   ·simp only [if_pos e]at c3 ⊢
    exact⟨e,by rw [c2,h1 _ e],c3⟩
   ·have h5:=h2 (src i-m) (by omega)
    rw [show m+(src i-m)=src i by omega]at h5
    simp only [if_neg e]at c3 ⊢
    exact⟨hcp.lt _ (getD_mem' (by omega)),by rw [c2,h5],c3⟩
  ·have :=b3 i (by omega)
   simp only [this,if_pos hi]
end Go.Proofs.YtkdomegcacgpnaaGreat
namespace Go.Proofs.YtkdomegcacgpnaaGreat
open Go.RowKit
theorem DomAt.apart{B B1 n:Nat}{w w':World}{nb:Nat→Nat}{v:Nat→Value}{lab:Nat→NodeD}{F:Wd}(h:DomAt B w n nb v lab F){u:Value}{N:Nat}{xs:List Value}(hr:w.ownsRow B1 75 1 u N xs)(hk:∀k,k<w.heap.size→some k≠u.ownBlock→w'.heap[k]? =w.heap[k]?):DomAt B w' n nb v lab F:=by
 refine⟨fun i hi=>?_,fun i hi=>?_,h.base,h.inj,h.sep⟩
 ·have h1:=h.node i hi
  have hlt:=World.nodeAt.lt h1
  unfold World.nodeAt at *
  rw [hk _ hlt (fun e=>?_)]
  ·exact h1
  ·obtain⟨cur,hc⟩:=ownsRow_type hr e.symm
   rw [hc]at h1
   simp [NRec.obj]at h1
 ·refine ownsRow_kept (h.own i hi) (fun k hq=>hk k (World.ownsRow.lt (h.own i hi) k hq).2 (fun e=>?_))
  obtain⟨cur,hc⟩:=ownsRow_type hr e.symm
  obtain⟨cur2,hc2⟩:=ownsRow_type (h.own i hi) hq
  rw [hc]at hc2
  simp at hc2
theorem sel_ne{B n:Nat}{w:World}{nb:Nat→Nat}{v:Nat→Value}{lab:Nat→NodeD}{F:Wd}(h:DomAt B w n nb v lab F){s:Nat}{a:Option Addr}{L cap:Nat}(hc:w.cell? ⟨s,0,none⟩=some (.slice a L cap)):∀i,i<n→s≠nb i:=fun i hi e=>by
 have h1:=(h.node i hi).par
 rw [←e,hc]at h1
 cases hq:(linkR F nb (lab i) (v i) i).par <;> rw [hq]at h1 <;> simp [lk]at h1
theorem row_ne{B B1 n:Nat}{w:World}{nb:Nat→Nat}{v:Nat→Value}{lab:Nat→NodeD}{F:Wd}(h:DomAt B w n nb v lab F){g L cap N:Nat}{xs:List Value}(hr:w.ownsRow B1 75 1 (.slice (some ⟨g,0,none⟩) L cap) N xs):∀i,i<n→g≠nb i:=fun i hi e=>by
 obtain⟨cur,hc⟩:=ownsRow_type hr (show(Value.slice (some ⟨g,0,none⟩) L cap).ownBlock=some g from rfl)
 have h1:=h.node i hi
 unfold World.nodeAt at h1
 rw [←e,hc]at h1
 simp [NRec.obj]at h1
end Go.Proofs.YtkdomegcacgpnaaGreat
