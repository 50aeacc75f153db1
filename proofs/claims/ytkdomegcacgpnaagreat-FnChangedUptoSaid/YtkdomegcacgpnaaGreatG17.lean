/- Parts of a proof: DomAll. -/
import Derived.Test.YtkdomegcacgpnaaGreatG07
import Derived.Test.YtkdomegcacgpnaaGreatG05
import Derived.Test.YtkdomegcacgpnaaGreatG16
set_option linter.unusedVariables false
set_option linter.unusedSimpArgs false
namespace Go.Proofs.YtkdomegcacgpnaaGreat
open Go.RowKit
def linkR(F:Wd)(nb:Nat→Nat)(n:NodeD)(v:Value)(x:Nat):NRec:=
 {par:=(F.up x).map nb,fst:=(F.kids x).head?.map nb,lst:=(F.kids x).getLast?.map nb,prv:=((F.up x).bind fun p=>prvIn (F.kids p) x).map nb,nxt:=((F.up x).bind fun p=>nxtIn (F.kids p) x).map nb,ty:=tyOf n.kind,atom:=0,data:=dataOf n,ns:=ByteArray.empty,attr:=v}
structure DomAt (B:Nat) (w:World) (n:Nat) (nb:Nat→Nat) (v:Nat→Value) (lab:Nat→NodeD) (F:Wd):Prop where
 node:∀i,i<n→World.nodeAt w (nb i) (linkR F nb (lab i) (v i) i)
 own:∀i,i<n→w.ownsRow B 119 3 (v i) (lab i).attrs.length (attrCells (lab i).attrs)
 base:∀i,i<n→B≤nb i
 inj:∀i j,i<n→j<n→nb i=nb j→i=j
 sep:∀i j,i<n→j<n→i≠j→∀b,(v i).ownBlock=some b→(v j).ownBlock≠some b
structure OnlyN (n:Nat) (nb:Nat→Nat) (w w':World):Prop where
 size:w'.heap.size=w.heap.size
 block:∀k,(∀i,i<n→k≠nb i)→w'.heap[k]? =w.heap[k]?
 below:∀B,(∀i,i<n→B≤nb i)→Below B w w'
theorem OnlyN.refl(n:Nat)(nb:Nat→Nat)(w:World):OnlyN n nb w w:=⟨rfl,fun _ _=>rfl,fun _ _=>Below.refl _ _⟩
theorem OnlyN.trans{n:Nat}{nb:Nat→Nat}{a b c:World}(h:OnlyN n nb a b)(h':OnlyN n nb b c):OnlyN n nb a c:=
 ⟨h'.size.trans h.size,fun k hk=>(h'.block k hk).trans (h.block k hk),fun B hB=>(h.below B hB).trans (h'.below B hB)⟩
theorem OnlyN.put{n:Nat}{nb:Nat→Nat}{a w:World}(h:OnlyN n nb a w){i:Nat}(hi:i<n)(r:NRec):OnlyN n nb a (World.putN w (nb i) r):=
 ⟨(World.size_putN _ _ _).trans h.size,fun k hk=>(World.heap_putN_other r (hk i hi)).trans (h.block k hk),fun B hB=>below_putN (h.below B hB) (hB i hi) r⟩
theorem wd0_up{z:Nat→Nat}{n i:Nat}(hi:i<n):(wd0 z n).up i=par z i:=by simp [wd0,hi]
theorem wd0_kidsOf{z:Nat→Nat}{n i:Nat}(hi:i<n):(wd0 z n).kids i=kids z i:=by simp [wd0,hi]
theorem nodeR_link{z:Nat→Nat}{n:Nat}(hz:Nest z n)(hr:z 0=n){nb:Nat→Nat}{m:NodeD}{v:Value}{i:Nat}(hi:i<n):nodeR (fun i=>i+z i) 0 nb m v i=linkR (wd0 z n) nb m v i:=by
 unfold nodeR linkR
 rw [up_par,kids_fst hz hi,kids_lst hz hi,wd0_up hi,wd0_kidsOf hi]
 rcases Nat.eq_zero_or_pos i with rfl | h0
 ·have e1:par z 0=none:=rfl
  have e2:prvK (fun i=>i+z i) 0 0=none:=rfl
  have e3:nxtK (fun i=>i+z i) 0 0=none:=by unfold nxtK;rw [up_par,e1]
  rw [e1,e2,e3]
  rfl
 ·obtain⟨p,hp⟩:=par_is hr hi h0
  have hpn:p<n:=by have :=(par_some hp).1;omega
  rw [kids_nxt hz hi hp,kids_prv hz hi hp,hp]
  simp only [Option.bind_some,wd0_kidsOf hpn]
theorem Forest.dom{B:Nat}{w:World}{bl len:Nat}{nb:Nat→Nat}{v:Nat→Value}{ts:List NodeD}(h:Forest B w bl len nb v ts)(hR:RightT ts len):DomAt B w len nb v (fun i=>ts.getD i default) (wd0 (sz ts) len):=by
 refine⟨fun i hi=>?_,fun i hi=>h.seg.own i (Nat.zero_le _) hi,fun i hi=>h.seg.base i (Nat.zero_le _) hi,fun i j hi hj=>h.seg.inj i j (Nat.zero_le _) hi (Nat.zero_le _) hj,fun i j hi hj=>h.seg.sep i j (Nat.zero_le _) hi (Nat.zero_le _) hj⟩
 rw [←nodeR_link hR.nest hR.root hi]
 exact h.node hi
theorem DomAt.below{B:Nat}{w w':World}{n:Nat}{nb:Nat→Nat}{v:Nat→Value}{lab:Nat→NodeD}{F:Wd}(h:DomAt B w n nb v lab F)(hb:Below w.heap.size w w'):DomAt B w' n nb v lab F:=by
 refine⟨fun i hi=>?_,fun i hi=>?_,h.base,h.inj,h.sep⟩
 ·have :=h.node i hi
  unfold World.nodeAt at *
  rw [hb.block _ (World.nodeAt.lt (h.node i hi))];exact this
 ·exact ownsRow_kept (h.own i hi) (fun k hk=>hb.block k (World.ownsRow.lt (h.own i hi) k hk).2)
theorem DomAt.turn{B:Nat}{w w':World}{n:Nat}{nb:Nat→Nat}{v:Nat→Value}{lab:Nat→NodeD}{F F':Wd}(h:DomAt B w n nb v lab F)(ho:OnlyN n nb w w')(hn:∀i,i<n→World.nodeAt w' (nb i) (linkR F' nb (lab i) (v i) i)):DomAt B w' n nb v lab F':=by
 refine⟨hn,fun i hi=>?_,h.base,h.inj,h.sep⟩
 exact ownsRow_kept (h.own i hi) (fun k hk=>ho.block k (fun j hj e=>node_ne_own (h.node j hj) (h.own i hi) (by rw [hk,e])))
theorem DomAt.ne{B:Nat}{w:World}{n:Nat}{nb:Nat→Nat}{v:Nat→Value}{lab:Nat→NodeD}{F:Wd}(h:DomAt B w n nb v lab F){i j:Nat}(hi:i<n)(hj:j<n)(e:i≠j):nb i≠nb j:=fun he=>e (h.inj i j hi hj he)
end Go.Proofs.YtkdomegcacgpnaaGreat
namespace Go.Proofs.YtkdomegcacgpnaaGreat
open Go.RowKit
theorem WOk.irr{n:Nat}{F:Wd}(h:WOk n F){x p:Nat}(hu:F.up x=some p):x≠p:=fun e=>by
 obtain⟨d,M,h1,h2⟩:=h.deep
 have :=h2 p x hu
 subst e
 omega
theorem WOk.ltUp{n:Nat}{F:Wd}(h:WOk n F){x p:Nat}(hu:F.up x=some p):x<n∧p<n:=by
 have :=h.lt p x ((h.iff p x).2 hu)
 exact⟨this.2,this.1⟩
theorem cut_rec{n:Nat}{F:Wd}(hF:WOk n F){x p:Nat}(hu:F.up x=some p){a b:List Nat}(hl:F.kids p=a++x::b){nb:Nat→Nat}{m:NodeD}{v:Value}{i:Nat}(hix:i≠x):
  linkR (F.cut x) nb m v i={linkR F nb m v i with fst:=if i=p then(a++b).head?.map nb else(linkR F nb m v i).fst,lst:=if i=p then(a++b).getLast?.map nb else(linkR F nb m v i).lst,prv:=if b.head?=some i then a.getLast?.map nb else(linkR F nb m v i).prv,nxt:=if a.getLast?=some i then b.head?.map nb else(linkR F nb m v i).nxt}:=by
 have hnd:=hF.nd p
 rw [hl]at hnd
 have hk:∀g,g≠p→(F.kids g).filter (fun y=>y !=x)=F.kids g:=fun g hg=>filter_none (fun hm=>by
  rw [hF.iff,hu]at hm
  exact hg (Option.some.inj hm).symm)
 have hkp:(F.kids p).filter (fun y=>y !=x)=a++b:=by rw [hl];exact filter_ne hnd
 have hb:b.head?=some i→F.up i=some p:=fun h=>(hF.iff p i).1 (by rw [hl];exact List.mem_append_right _ (List.mem_cons_of_mem _ (List.mem_of_head? h)))
 have ha:a.getLast?=some i→F.up i=some p:=fun h=>(hF.iff p i).1 (by rw [hl];exact List.mem_append_left _ (List.mem_of_getLast? h))
 unfold linkR Wd.cut
 simp only [if_neg hix,NRec.mk.injEq,true_and,and_true]
 refine⟨?_,?_,?_,?_⟩
 ·by_cases e:i=p
  ·subst e;rw [hkp,if_pos rfl]
  ·rw [hk i e,if_neg e]
 ·by_cases e:i=p
  ·subst e;rw [hkp,if_pos rfl]
  ·rw [hk i e,if_neg e]
 ·cases hui:F.up i with
  | none=>
   rw [if_neg (fun h=>by rw [hb h]at hui;cases hui)]
   rfl
  | some g=>
   simp only [Option.bind_some]
   by_cases e:g=p
   ·subst e
    rw [hkp,prv_between hnd hix,hl]
    split <;> rfl
   ·rw [hk g e,if_neg (fun h=>by rw [hb h]at hui;exact e (Option.some.inj hui).symm)]
 ·cases hui:F.up i with
  | none=>
   rw [if_neg (fun h=>by rw [ha h]at hui;cases hui)]
   rfl
  | some g=>
   simp only [Option.bind_some]
   by_cases e:g=p
   ·subst e
    rw [hkp,nxt_between hnd hix,hl]
    split <;> rfl
   ·rw [hk g e,if_neg (fun h=>by rw [ha h]at hui;exact e (Option.some.inj hui).symm)]
theorem cut_self{n:Nat}{F:Wd}(hF:WOk n F){x p:Nat}(hu:F.up x=some p){nb:Nat→Nat}{m:NodeD}{v:Value}:
  linkR (F.cut x) nb m v x={linkR F nb m v x with par:=none,prv:=none,nxt:=none}:=by
 have hk:(F.kids x).filter (fun y=>y !=x)=F.kids x:=filter_none (fun hm=>hF.irr ((hF.iff x x).1 hm) rfl)
 unfold linkR Wd.cut
 simp only [if_true,hk]
 rfl
theorem link_in{n:Nat}{F:Wd}(hF:WOk n F){x p:Nat}{a b:List Nat}(hl:F.kids p=a++x::b){nb:Nat→Nat}{m:NodeD}{v:Value}:
  (linkR F nb m v x).par=some (nb p)∧(linkR F nb m v x).prv=a.getLast?.map nb∧(linkR F nb m v x).nxt=b.head?.map nb:=by
 have hu:F.up x=some p:=(hF.iff p x).1 (by rw [hl];exact List.mem_append_right _ (List.mem_cons_self ..))
 have hnd:=hF.nd p
 rw [hl]at hnd
 obtain⟨h1,h2,_⟩:=nd_parts hnd
 unfold linkR
 simp only [hu,Option.map_some,Option.bind_some,hl,prvIn_app h2 a h1,nxtIn_app a h1]
 exact⟨trivial,trivial,trivial⟩
theorem put_rec{n:Nat}{F:Wd}(hF:WOk n F){x p:Nat}(hu:F.up x=none){a b:List Nat}(hl:F.kids p=a++b){nb:Nat→Nat}{m:NodeD}{v:Value}{i:Nat}(hix:i≠x):
  linkR (F.put p a.length x) nb m v i={linkR F nb m v i with fst:=if i=p then(a++x::b).head?.map nb else(linkR F nb m v i).fst,lst:=if i=p then(a++x::b).getLast?.map nb else(linkR F nb m v i).lst,prv:=if b.head?=some i then some (nb x)else(linkR F nb m v i).prv,nxt:=if a.getLast?=some i then some (nb x)else(linkR F nb m v i).nxt}:=by
 have hxk:x∉a++b:=fun hm=>by rw [←hl,hF.iff,hu]at hm;cases hm
 have hnd:(a++x::b).Nodup:=by
  have :=nodup_put (hF.nd p) a.length (x:=x) (by rw [hl];exact hxk)
  rw [hl]at this
  simpa using this
 have hkp:(F.kids p).take a.length++x::(F.kids p).drop a.length=a++x::b:=by rw [hl];simp
 have hb:b.head?=some i→F.up i=some p:=fun h=>(hF.iff p i).1 (by rw [hl];exact List.mem_append_right _ (List.mem_of_head? h))
 have ha:a.getLast?=some i→F.up i=some p:=fun h=>(hF.iff p i).1 (by rw [hl];exact List.mem_append_left _ (List.mem_of_getLast? h))
 obtain⟨n1,n2,n3,n4,n5,n6⟩:=nd_parts hnd
 unfold linkR Wd.put
 simp only [if_neg hix,NRec.mk.injEq,true_and,and_true]
 refine⟨?_,?_,?_,?_⟩
 ·by_cases e:i=p
  ·subst e;rw [if_pos rfl,if_pos rfl,hkp]
  ·rw [if_neg e,if_neg e]
 ·by_cases e:i=p
  ·subst e;rw [if_pos rfl,if_pos rfl,hkp]
  ·rw [if_neg e,if_neg e]
 ·cases hui:F.up i with
  | none=>
   rw [if_neg (fun h=>by rw [hb h]at hui;cases hui)]
   rfl
  | some g=>
   simp only [Option.bind_some]
   by_cases e:g=p
   ·subst e
    rw [if_pos rfl,hkp,hl]
    by_cases e2:b.head?=some i
    ·rw [if_pos e2]
     obtain⟨t,rfl⟩:∃t,b=i::t:=by
      cases b with
      | nil=>cases e2
      | cons y t=>simp at e2;subst e2;exact⟨t,rfl⟩
     have e3:a++x::i::t=(a++[x])++i::t:=by simp
     have hia:i∉a:=fun hm=>n6 i hm (List.mem_cons_self ..)
     rw [e3,prvIn_app (List.nodup_cons.1 n5).1 _ (by rw [List.mem_append,List.mem_singleton,not_or];exact⟨hia,hix⟩)]
     simp
    ·rw [if_neg e2]
     have :=prv_between hnd hix
     rw [if_neg e2]at this
     rw [this]
   ·rw [if_neg e,if_neg (fun h=>by rw [hb h]at hui;exact e (Option.some.inj hui).symm)]
 ·cases hui:F.up i with
  | none=>
   rw [if_neg (fun h=>by rw [ha h]at hui;cases hui)]
   rfl
  | some g=>
   simp only [Option.bind_some]
   by_cases e:g=p
   ·subst e
    rw [if_pos rfl,hkp,hl]
    by_cases e2:a.getLast?=some i
    ·rw [if_pos e2]
     obtain⟨s,hs⟩:∃s,a=s++[i]:=by
      rcases nil_or_snoc a with rfl | ⟨s,y,rfl⟩
      ·cases e2
      ·simp at e2;subst e2;exact⟨s,rfl⟩
     subst hs
     have e3:(s++[i])++x::b=s++i::(x::b):=by simp
     rw [e3,nxtIn_app s (nd_parts n4).1]
     rfl
    ·rw [if_neg e2]
     have :=nxt_between hnd hix
     rw [if_neg e2]at this
     rw [this]
   ·rw [if_neg e,if_neg (fun h=>by rw [ha h]at hui;exact e (Option.some.inj hui).symm)]
theorem put_self{n:Nat}{F:Wd}(hF:WOk n F){x p:Nat}(hp:x≠p)(hu:F.up x=none){a b:List Nat}(hl:F.kids p=a++b){nb:Nat→Nat}{m:NodeD}{v:Value}:
  linkR (F.put p a.length x) nb m v x={linkR F nb m v x with par:=some (nb p),prv:=a.getLast?.map nb,nxt:=b.head?.map nb}:=by
 have hxk:x∉a++b:=fun hm=>by rw [←hl,hF.iff,hu]at hm;cases hm
 have hkp:(F.kids p).take a.length++x::(F.kids p).drop a.length=a++x::b:=by rw [hl];simp
 rw [List.mem_append,not_or]at hxk
 unfold linkR Wd.put
 simp only [if_true,if_neg hp,Option.bind_some,Option.map_some,hkp,prvIn_app hxk.2 a hxk.1,nxtIn_app a hxk.1]
end Go.Proofs.YtkdomegcacgpnaaGreat
namespace Go.Proofs.YtkdomegcacgpnaaGreat
open Go.RowKit
theorem take_len(a b:List Nat):(a++b).take a.length=a:=by simp
theorem drop_len(a b:List Nat):(a++b).drop a.length=b:=by simp
theorem at_same{w0 w1:World}{b:Nat}{r r':NRec}(h:World.nodeAt w0 b r)(hW:World.putN w0 b r'=w1):World.nodeAt w1 b r':=by rw [←hW];exact h.put _
theorem at_sameD{w0 w1:World}{b:Nat}{r r':NRec}(h:World.nodeAt w0 b r)(hW:(World.putN w0 b r').drew=w1):World.nodeAt w1 b r':=by rw [←hW];exact h.put _
theorem at_other{w0 w1:World}{b k:Nat}{r r':NRec}(h:World.nodeAt w0 k r)(hk:k≠b)(hW:World.putN w0 b r'=w1):World.nodeAt w1 k r:=by rw [←hW];exact h.other _ hk
theorem at_otherD{w0 w1:World}{b k:Nat}{r r':NRec}(h:World.nodeAt w0 k r)(hk:k≠b)(hW:(World.putN w0 b r').drew=w1):World.nodeAt w1 k r:=by rw [←hW];exact h.other _ hk
theorem only_put{n:Nat}{nb:Nat→Nat}{a w0 w1:World}(h:OnlyN n nb a w0){i:Nat}(hi:i<n){r:NRec}(hW:World.putN w0 (nb i) r=w1):OnlyN n nb a w1:=by rw [←hW];exact h.put hi r
theorem only_putD{n:Nat}{nb:Nat→Nat}{a w0 w1:World}(h:OnlyN n nb a w0){i:Nat}(hi:i<n){r:NRec}(hW:(World.putN w0 (nb i) r).drew=w1):OnlyN n nb a w1:=by
 rw [←hW]
 have h2:=h.put hi r
 exact⟨h2.size,h2.block,fun B hB=>(h2.below B hB).drew⟩
def TurnPost(B n:Nat)(nb:Nat→Nat)(v:Nat→Value)(lab:Nat→NodeD)(F:Wd)(w:World)(e:Ending)(w':World):Prop:=e=.returned (.tuple #[])∧Hid (DomAt B w' n nb v lab F)∧Hid (OnlyN n nb w w')
set_option maxRecDepth 100000 in
set_option maxHeartbeats 1000000 in
theorem cut_nn{B n:Nat}{w:World}{nb:Nat→Nat}{v:Nat→Value}{lab:Nat→NodeD}{F:Wd}(h:DomAt B w n nb v lab F)(hF:WOk n F){x p:Nat}(hl:F.kids p=[]++x::[]):
  Calls Tryz.prog 87 #[.pointer (some ⟨nb p,0,none⟩),.pointer (some ⟨nb x,0,none⟩)] w (TurnPost B n nb v lab (F.cut x) w):=by
 have hu:F.up x=some p:=(hF.iff p x).1 (by rw [hl];simp)
 obtain⟨hx,hp⟩:=hF.ltUp hu
 have hxp:x≠p:=hF.irr hu
 have hnd:=hF.nd p
 rw [hl]at hnd
 obtain⟨n1,n2,n3,n4,n5,n6⟩:=nd_parts hnd
 obtain⟨e0,e3,e4⟩:=link_in hF hl (nb:=nb) (m:=lab x) (v:=v x)
 have ef:(linkR F nb (lab p) (v p) p).fst=(F.kids p).head?.map nb:=rfl
 have el:(linkR F nb (lab p) (v p) p).lst=(F.kids p).getLast?.map nb:=rfl
 rw [hl]at ef el
 simp only [List.getLast?_append,List.getLast?_cons,List.getLast?_nil,List.head?_append,List.head?_cons,List.head?_nil,List.getLast?_singleton,Option.map_some,Option.map_none,Option.or_some,Option.some_or,Option.none_or,Option.getD_some,Option.getD_none]at e3 e4 ef el
 refine(removeChild_nn (nb p) (nb x) _ _ w (h.node p hp) (h.node x hx) (h.ne hp hx (Ne.symm hxp)) ef el e0 e3 e4).mono ?_
 rintro e w' ⟨he,w1,hw0,hw1⟩
 have hon:OnlyN n nb w w':=(only_put (only_put (OnlyN.refl n nb w) hp hw0) hx hw1)
 refine⟨he,Lib.hid (h.turn hon (fun i hi=>?_)),Lib.hid hon⟩
 by_cases ep:i=p
 ·rw [ep]
  rw [cut_rec hF hu hl (Ne.symm hxp)]
  have hh:=(at_other (at_same (h.node p hp) hw0) (h.ne hp hx (Ne.symm hxp)) hw1)
  first
   | simpa [List.getLast?_concat,List.head?_cons,List.getLast?_nil,List.head?_nil]using hh
   | (refine Eq.mp (congrArg _ ?_) hh;simp [List.getLast?_concat,List.head?_cons,List.getLast?_nil,List.head?_nil,linkR,hl])
 by_cases ex:i=x
 ·rw [ex]
  rw [cut_self hF hu]
  have hh:=(at_same (at_other (h.node x hx) (h.ne hp hx (Ne.symm hxp)).symm hw0) hw1)
  simpa using hh
 rw [cut_rec hF hu hl ex]
 have hh:=(at_other (at_other (h.node i hi) (h.ne hi hp ep) hw0) (h.ne hi hx ex) hw1)
 simpa [List.getLast?_concat,List.head?_cons,List.getLast?_nil,List.head?_nil,ep]using hh
set_option maxRecDepth 100000 in
set_option maxHeartbeats 1000000 in
theorem cut_ns{B n:Nat}{w:World}{nb:Nat→Nat}{v:Nat→Value}{lab:Nat→NodeD}{F:Wd}(h:DomAt B w n nb v lab F)(hF:WOk n F){x p:Nat}(b':List Nat)(r:Nat)(hl:F.kids p=[]++x::(r::b')):
  Calls Tryz.prog 87 #[.pointer (some ⟨nb p,0,none⟩),.pointer (some ⟨nb x,0,none⟩)] w (TurnPost B n nb v lab (F.cut x) w):=by
 have hu:F.up x=some p:=(hF.iff p x).1 (by rw [hl];simp)
 obtain⟨hx,hp⟩:=hF.ltUp hu
 have hxp:x≠p:=hF.irr hu
 have hnd:=hF.nd p
 rw [hl]at hnd
 obtain⟨n1,n2,n3,n4,n5,n6⟩:=nd_parts hnd
 have hur:F.up r=some p:=(hF.iff p r).1 (by rw [hl];simp)
 have hr:=(hF.ltUp hur).1
 have hrp:r≠p:=hF.irr hur
 have hrx:r≠x:=fun e=>n2 (by rw [←e];simp)
 obtain⟨e0,e3,e4⟩:=link_in hF hl (nb:=nb) (m:=lab x) (v:=v x)
 have ef:(linkR F nb (lab p) (v p) p).fst=(F.kids p).head?.map nb:=rfl
 have el:(linkR F nb (lab p) (v p) p).lst=(F.kids p).getLast?.map nb:=rfl
 rw [hl]at ef el
 simp only [List.getLast?_append,List.getLast?_cons,List.getLast?_nil,List.head?_append,List.head?_cons,List.head?_nil,List.getLast?_singleton,Option.map_some,Option.map_none,Option.or_some,Option.some_or,Option.none_or,Option.getD_some,Option.getD_none]at e3 e4 ef el
 obtain⟨l,hlm,el'⟩:∃l,l∈r::b'∧(linkR F nb (lab p) (v p) p).lst=some (nb l):=by
  have hlast:∃l,(r::b').getLast? =some l:=by
   cases hh:(r::b').getLast? with
   | none=>simp at hh
   | some l=>exact⟨l,rfl⟩
  obtain⟨l,hlast⟩:=hlast
  refine⟨l,List.mem_of_getLast? hlast,?_⟩
  show(F.kids p).getLast?.map nb=some (nb l)
  rw [hl]
  simp [hlast,List.getLast?_append]
 have hlu:F.up l=some p:=(hF.iff p l).1 (by rw [hl];exact List.mem_append_right _ (List.mem_cons_of_mem _ hlm))
 have hln:=(hF.ltUp hlu).1
 have hlx:l≠x:=fun e=>n2 (by rw [←e];exact hlm)
 refine(removeChild_ns (nb p) (nb x) (nb r) _ _ _ w (h.node p hp) (h.node x hx) (h.node r hr) (h.ne hp hx (Ne.symm hxp)) (h.ne hp hr (Ne.symm hrp)) (h.ne hx hr (Ne.symm hrx)) ef (nb l) (h.node l hln).alive (h.ne hln hx hlx) el' e0 e3 e4).mono ?_
 rintro e w' ⟨he,w1,hw0,w2,hw1,hw2⟩
 have hon:OnlyN n nb w w':=(only_put (only_putD (only_put (OnlyN.refl n nb w) hp hw0) hr hw1) hx hw2)
 refine⟨he,Lib.hid (h.turn hon (fun i hi=>?_)),Lib.hid hon⟩
 by_cases ep:i=p
 ·rw [ep]
  rw [cut_rec hF hu hl (Ne.symm hxp)]
  have hh:=(at_other (at_otherD (at_same (h.node p hp) hw0) (h.ne hp hr (Ne.symm hrp)) hw1) (h.ne hp hx (Ne.symm hxp)) hw2)
  first
   | simpa [List.getLast?_concat,List.head?_cons,List.getLast?_nil,List.head?_nil,hrp]using hh
   | (refine Eq.mp (congrArg _ ?_) hh;simp [List.getLast?_concat,List.head?_cons,List.getLast?_nil,List.head?_nil,hrp,linkR,hl])
 by_cases ex:i=x
 ·rw [ex]
  rw [cut_self hF hu]
  have hh:=(at_same (at_otherD (at_other (h.node x hx) (h.ne hp hx (Ne.symm hxp)).symm hw0) (h.ne hx hr (Ne.symm hrx)) hw1) hw2)
  simpa using hh
 by_cases er:i=r
 ·rw [er]
  rw [cut_rec hF hu hl hrx]
  have hh:=(at_other (at_sameD (at_other (h.node r hr) (h.ne hp hr (Ne.symm hrp)).symm hw0) hw1) (h.ne hx hr (Ne.symm hrx)).symm hw2)
  first
   | simpa [List.getLast?_concat,List.head?_cons,List.getLast?_nil,List.head?_nil,hrp]using hh
   | (refine Eq.mp (congrArg _ ?_) hh;simp [List.getLast?_concat,List.head?_cons,List.getLast?_nil,List.head?_nil,hrp,linkR,hl])
 rw [cut_rec hF hu hl ex]
 have hh:=(at_other (at_otherD (at_other (h.node i hi) (h.ne hi hp ep) hw0) (h.ne hi hr er) hw1) (h.ne hi hx ex) hw2)
 simpa [List.getLast?_concat,List.head?_cons,List.getLast?_nil,List.head?_nil,ep,Ne.symm er,er]using hh
set_option maxRecDepth 100000 in
set_option maxHeartbeats 1000000 in
theorem cut_sn{B n:Nat}{w:World}{nb:Nat→Nat}{v:Nat→Value}{lab:Nat→NodeD}{F:Wd}(h:DomAt B w n nb v lab F)(hF:WOk n F){x p:Nat}(a':List Nat)(q:Nat)(hl:F.kids p=(a'++[q])++x::[]):
  Calls Tryz.prog 87 #[.pointer (some ⟨nb p,0,none⟩),.pointer (some ⟨nb x,0,none⟩)] w (TurnPost B n nb v lab (F.cut x) w):=by
 have hu:F.up x=some p:=(hF.iff p x).1 (by rw [hl];simp)
 obtain⟨hx,hp⟩:=hF.ltUp hu
 have hxp:x≠p:=hF.irr hu
 have hnd:=hF.nd p
 rw [hl]at hnd
 obtain⟨n1,n2,n3,n4,n5,n6⟩:=nd_parts hnd
 have huq:F.up q=some p:=(hF.iff p q).1 (by rw [hl];simp)
 have hq:=(hF.ltUp huq).1
 have hqp:q≠p:=hF.irr huq
 have hqx:q≠x:=fun e=>n1 (by rw [←e];simp)
 obtain⟨e0,e3,e4⟩:=link_in hF hl (nb:=nb) (m:=lab x) (v:=v x)
 have ef:(linkR F nb (lab p) (v p) p).fst=(F.kids p).head?.map nb:=rfl
 have el:(linkR F nb (lab p) (v p) p).lst=(F.kids p).getLast?.map nb:=rfl
 rw [hl]at ef el
 simp only [List.getLast?_append,List.getLast?_cons,List.getLast?_nil,List.head?_append,List.head?_cons,List.head?_nil,List.getLast?_singleton,Option.map_some,Option.map_none,Option.or_some,Option.some_or,Option.none_or,Option.getD_some,Option.getD_none]at e3 e4 ef el
 obtain⟨f,hf⟩:∃f,f∈a'++[q]∧(linkR F nb (lab p) (v p) p).fst=some (nb f):=by
  cases a' with
  | nil=>exact⟨q,by simp,by rw [ef];rfl⟩
  | cons y t=>exact⟨y,by simp,by rw [ef];rfl⟩
 obtain⟨hfm,ef'⟩:=hf
 have hfu:F.up f=some p:=(hF.iff p f).1 (by rw [hl];exact List.mem_append_left _ hfm)
 have hfn:=(hF.ltUp hfu).1
 have hfx:f≠x:=fun e=>n1 (by rw [←e];exact hfm)
 refine(removeChild_sn (nb p) (nb x) (nb q) _ _ _ w (h.node p hp) (h.node x hx) (h.node q hq) (h.ne hp hx (Ne.symm hxp)) (h.ne hp hq (Ne.symm hqp)) (h.ne hx hq (Ne.symm hqx)) (nb f) (h.node f hfn).alive (h.ne hfn hx hfx) ef' el e0 e3 e4).mono ?_
 rintro e w' ⟨he,w1,hw0,w2,hw1,hw2⟩
 have hon:OnlyN n nb w w':=(only_put (only_putD (only_put (OnlyN.refl n nb w) hp hw0) hq hw1) hx hw2)
 refine⟨he,Lib.hid (h.turn hon (fun i hi=>?_)),Lib.hid hon⟩
 by_cases ep:i=p
 ·rw [ep]
  rw [cut_rec hF hu hl (Ne.symm hxp)]
  have hh:=(at_other (at_otherD (at_same (h.node p hp) hw0) (h.ne hp hq (Ne.symm hqp)) hw1) (h.ne hp hx (Ne.symm hxp)) hw2)
  first
   | simpa [List.getLast?_concat,List.head?_cons,List.getLast?_nil,List.head?_nil,hqp]using hh
   | (refine Eq.mp (congrArg _ ?_) hh;simp [List.getLast?_concat,List.head?_cons,List.getLast?_nil,List.head?_nil,hqp,linkR,hl])
 by_cases ex:i=x
 ·rw [ex]
  rw [cut_self hF hu]
  have hh:=(at_same (at_otherD (at_other (h.node x hx) (h.ne hp hx (Ne.symm hxp)).symm hw0) (h.ne hx hq (Ne.symm hqx)) hw1) hw2)
  simpa using hh
 by_cases eq:i=q
 ·rw [eq]
  rw [cut_rec hF hu hl hqx]
  have hh:=(at_other (at_sameD (at_other (h.node q hq) (h.ne hp hq (Ne.symm hqp)).symm hw0) hw1) (h.ne hx hq (Ne.symm hqx)).symm hw2)
  first
   | simpa [List.getLast?_concat,List.head?_cons,List.getLast?_nil,List.head?_nil,hqp]using hh
   | (refine Eq.mp (congrArg _ ?_) hh;simp [List.getLast?_concat,List.head?_cons,List.getLast?_nil,List.head?_nil,hqp,linkR,hl])
 rw [cut_rec hF hu hl ex]
 have hh:=(at_other (at_otherD (at_other (h.node i hi) (h.ne hi hp ep) hw0) (h.ne hi hq eq) hw1) (h.ne hi hx ex) hw2)
 simpa [List.getLast?_concat,List.head?_cons,List.getLast?_nil,List.head?_nil,ep,Ne.symm eq,eq]using hh
set_option maxRecDepth 100000 in
set_option maxHeartbeats 1000000 in
theorem cut_ss{B n:Nat}{w:World}{nb:Nat→Nat}{v:Nat→Value}{lab:Nat→NodeD}{F:Wd}(h:DomAt B w n nb v lab F)(hF:WOk n F){x p:Nat}(a':List Nat)(q:Nat)(b':List Nat)(r:Nat)(hl:F.kids p=(a'++[q])++x::(r::b')):
  Calls Tryz.prog 87 #[.pointer (some ⟨nb p,0,none⟩),.pointer (some ⟨nb x,0,none⟩)] w (TurnPost B n nb v lab (F.cut x) w):=by
 have hu:F.up x=some p:=(hF.iff p x).1 (by rw [hl];simp)
 obtain⟨hx,hp⟩:=hF.ltUp hu
 have hxp:x≠p:=hF.irr hu
 have hnd:=hF.nd p
 rw [hl]at hnd
 obtain⟨n1,n2,n3,n4,n5,n6⟩:=nd_parts hnd
 have huq:F.up q=some p:=(hF.iff p q).1 (by rw [hl];simp)
 have hq:=(hF.ltUp huq).1
 have hqp:q≠p:=hF.irr huq
 have hqx:q≠x:=fun e=>n1 (by rw [←e];simp)
 have hur:F.up r=some p:=(hF.iff p r).1 (by rw [hl];simp)
 have hr:=(hF.ltUp hur).1
 have hrp:r≠p:=hF.irr hur
 have hrx:r≠x:=fun e=>n2 (by rw [←e];simp)
 have hqr:q≠r:=fun e=>n6 q (by simp) (by rw [e];simp)
 obtain⟨e0,e3,e4⟩:=link_in hF hl (nb:=nb) (m:=lab x) (v:=v x)
 have ef:(linkR F nb (lab p) (v p) p).fst=(F.kids p).head?.map nb:=rfl
 have el:(linkR F nb (lab p) (v p) p).lst=(F.kids p).getLast?.map nb:=rfl
 rw [hl]at ef el
 simp only [List.getLast?_append,List.getLast?_cons,List.getLast?_nil,List.head?_append,List.head?_cons,List.head?_nil,List.getLast?_singleton,Option.map_some,Option.map_none,Option.or_some,Option.some_or,Option.none_or,Option.getD_some,Option.getD_none]at e3 e4 ef el
 obtain⟨f,hf⟩:∃f,f∈a'++[q]∧(linkR F nb (lab p) (v p) p).fst=some (nb f):=by
  cases a' with
  | nil=>exact⟨q,by simp,by rw [ef];rfl⟩
  | cons y t=>exact⟨y,by simp,by rw [ef];rfl⟩
 obtain⟨hfm,ef'⟩:=hf
 have hfu:F.up f=some p:=(hF.iff p f).1 (by rw [hl];exact List.mem_append_left _ hfm)
 have hfn:=(hF.ltUp hfu).1
 have hfx:f≠x:=fun e=>n1 (by rw [←e];exact hfm)
 obtain⟨l,hlm,el'⟩:∃l,l∈r::b'∧(linkR F nb (lab p) (v p) p).lst=some (nb l):=by
  have hlast:∃l,(r::b').getLast? =some l:=by
   cases hh:(r::b').getLast? with
   | none=>simp at hh
   | some l=>exact⟨l,rfl⟩
  obtain⟨l,hlast⟩:=hlast
  refine⟨l,List.mem_of_getLast? hlast,?_⟩
  show(F.kids p).getLast?.map nb=some (nb l)
  rw [hl]
  simp [hlast,List.getLast?_append]
 have hlu:F.up l=some p:=(hF.iff p l).1 (by rw [hl];exact List.mem_append_right _ (List.mem_cons_of_mem _ hlm))
 have hln:=(hF.ltUp hlu).1
 have hlx:l≠x:=fun e=>n2 (by rw [←e];exact hlm)
 refine(removeChild_ss (nb p) (nb x) (nb q) (nb r) _ _ _ _ w (h.node p hp) (h.node x hx) (h.node q hq) (h.node r hr) (h.ne hp hx (Ne.symm hxp)) (h.ne hp hq (Ne.symm hqp)) (h.ne hp hr (Ne.symm hrp)) (h.ne hx hq (Ne.symm hqx)) (h.ne hx hr (Ne.symm hrx)) (h.ne hq hr hqr) (nb f) (h.node f hfn).alive (h.ne hfn hx hfx) ef' (nb l) (h.node l hln).alive (h.ne hln hx hlx) el' e0 e3 e4).mono ?_
 rintro e w' ⟨he,w1,hw0,w2,hw1,hw2⟩
 have hon:OnlyN n nb w w':=(only_put (only_putD (only_putD (OnlyN.refl n nb w) hr hw0) hq hw1) hx hw2)
 refine⟨he,Lib.hid (h.turn hon (fun i hi=>?_)),Lib.hid hon⟩
 by_cases ep:i=p
 ·rw [ep]
  rw [cut_rec hF hu hl (Ne.symm hxp)]
  have hh:=(at_other (at_otherD (at_otherD (h.node p hp) (h.ne hp hr (Ne.symm hrp)) hw0) (h.ne hp hq (Ne.symm hqp)) hw1) (h.ne hp hx (Ne.symm hxp)) hw2)
  first
   | simpa [List.getLast?_concat,List.head?_cons,List.getLast?_nil,List.head?_nil,hqp,hrp]using hh
   | (refine Eq.mp (congrArg _ ?_) hh;simp [List.getLast?_concat,List.head?_cons,List.getLast?_nil,List.head?_nil,hqp,hrp,linkR,hl])
 by_cases ex:i=x
 ·rw [ex]
  rw [cut_self hF hu]
  have hh:=(at_same (at_otherD (at_otherD (h.node x hx) (h.ne hx hr (Ne.symm hrx)) hw0) (h.ne hx hq (Ne.symm hqx)) hw1) hw2)
  simpa using hh
 by_cases eq:i=q
 ·rw [eq]
  rw [cut_rec hF hu hl hqx]
  have hh:=(at_other (at_sameD (at_otherD (h.node q hq) (h.ne hq hr hqr) hw0) hw1) (h.ne hx hq (Ne.symm hqx)).symm hw2)
  first
   | simpa [List.getLast?_concat,List.head?_cons,List.getLast?_nil,List.head?_nil,hqp,Ne.symm hqr]using hh
   | (refine Eq.mp (congrArg _ ?_) hh;simp [List.getLast?_concat,List.head?_cons,List.getLast?_nil,List.head?_nil,hqp,Ne.symm hqr,linkR,hl])
 by_cases er:i=r
 ·rw [er]
  rw [cut_rec hF hu hl hrx]
  have hh:=(at_other (at_otherD (at_sameD (h.node r hr) hw0) (h.ne hq hr hqr).symm hw1) (h.ne hx hr (Ne.symm hrx)).symm hw2)
  first
   | simpa [List.getLast?_concat,List.head?_cons,List.getLast?_nil,List.head?_nil,hrp,hqr,Ne.symm hqr]using hh
   | (refine Eq.mp (congrArg _ ?_) hh;simp [List.getLast?_concat,List.head?_cons,List.getLast?_nil,List.head?_nil,hrp,hqr,Ne.symm hqr,linkR,hl])
 rw [cut_rec hF hu hl ex]
 have hh:=(at_other (at_otherD (at_otherD (h.node i hi) (h.ne hi hr er) hw0) (h.ne hi hq eq) hw1) (h.ne hi hx ex) hw2)
 simpa [List.getLast?_concat,List.head?_cons,List.getLast?_nil,List.head?_nil,ep,Ne.symm eq,eq,Ne.symm er,er]using hh
set_option maxRecDepth 100000 in
set_option maxHeartbeats 1000000 in
theorem put_nn{B n:Nat}{w:World}{nb:Nat→Nat}{v:Nat→Value}{lab:Nat→NodeD}{F:Wd}(h:DomAt B w n nb v lab F)(hF:WOk n F){x p:Nat}(hp:p<n)(hx:x<n)(hxp:x≠p)(hu:F.up x=none)(hl:F.kids p=[]++[]):
  Calls Tryz.prog 84 #[.pointer (some ⟨nb p,0,none⟩),.pointer (some ⟨nb x,0,none⟩),.pointer (none)] w (TurnPost B n nb v lab (F.put p ([]:List Nat).length x) w):=by
 have hxk:∀g,x∉F.kids g:=fun g hm=>by rw [hF.iff,hu]at hm;cases hm
 have hnd:(([]:List Nat)++x::([]:List Nat)).Nodup:=by
  have :=nodup_put (hF.nd p) ([]:List Nat).length (x:=x) (hxk p)
  rw [hl,take_len,drop_len]at this
  exact this
 obtain⟨n1,n2,n3,n4,n5,n6⟩:=nd_parts hnd
 have e0:(linkR F nb (lab x) (v x) x).par=none:=by unfold linkR;rw [hu];rfl
 have e3:(linkR F nb (lab x) (v x) x).prv=none:=by unfold linkR;rw [hu];rfl
 have e4:(linkR F nb (lab x) (v x) x).nxt=none:=by unfold linkR;rw [hu];rfl
 have e5:(linkR F nb (lab p) (v p) p).lst=([]:List Nat).getLast?.map nb:=by
  show(F.kids p).getLast?.map nb=_
  rw [hl,List.append_nil]
 refine(insertBefore_nn (nb p) (nb x) _ _ w (h.node p hp) (h.node x hx) (h.ne hp hx (Ne.symm hxp)) e0 e3 e4 e5).mono ?_
 rintro e w' ⟨he,w1,hw0,hw1⟩
 have hon:OnlyN n nb w w':=(only_put (only_put (OnlyN.refl n nb w) hp hw0) hx hw1)
 refine⟨he,Lib.hid (h.turn hon (fun i hi=>?_)),Lib.hid hon⟩
 by_cases ep:i=p
 ·rw [ep]
  rw [put_rec (a:=([]:List Nat)) (b:=([]:List Nat)) hF hu hl (Ne.symm hxp)]
  have hh:=(at_other (at_same (h.node p hp) hw0) (h.ne hp hx (Ne.symm hxp)) hw1)
  first
   | simpa [List.getLast?_concat,List.head?_cons,List.getLast?_nil,List.head?_nil]using hh
   | (refine Eq.mp (congrArg _ ?_) hh;simp [List.getLast?_concat,List.head?_cons,List.getLast?_nil,List.head?_nil,linkR,hl])
 by_cases ex:i=x
 ·rw [ex]
  rw [put_self (a:=([]:List Nat)) (b:=([]:List Nat)) hF hxp hu hl]
  have hh:=(at_same (at_other (h.node x hx) (h.ne hp hx (Ne.symm hxp)).symm hw0) hw1)
  simpa using hh
 rw [put_rec (a:=([]:List Nat)) (b:=([]:List Nat)) hF hu hl ex]
 have hh:=(at_other (at_other (h.node i hi) (h.ne hi hp ep) hw0) (h.ne hi hx ex) hw1)
 simpa [List.getLast?_concat,List.head?_cons,List.getLast?_nil,List.head?_nil,ep]using hh
set_option maxRecDepth 100000 in
set_option maxHeartbeats 1000000 in
theorem put_ns{B n:Nat}{w:World}{nb:Nat→Nat}{v:Nat→Value}{lab:Nat→NodeD}{F:Wd}(h:DomAt B w n nb v lab F)(hF:WOk n F){x p:Nat}(hp:p<n)(hx:x<n)(hxp:x≠p)(hu:F.up x=none)(b':List Nat)(r:Nat)(hl:F.kids p=[]++(r::b')):
  Calls Tryz.prog 84 #[.pointer (some ⟨nb p,0,none⟩),.pointer (some ⟨nb x,0,none⟩),.pointer (some ⟨nb r,0,none⟩)] w (TurnPost B n nb v lab (F.put p ([]:List Nat).length x) w):=by
 have hxk:∀g,x∉F.kids g:=fun g hm=>by rw [hF.iff,hu]at hm;cases hm
 have hnd:(([]:List Nat)++x::(r::b')).Nodup:=by
  have :=nodup_put (hF.nd p) ([]:List Nat).length (x:=x) (hxk p)
  rw [hl,take_len,drop_len]at this
  exact this
 obtain⟨n1,n2,n3,n4,n5,n6⟩:=nd_parts hnd
 have hur:F.up r=some p:=(hF.iff p r).1 (by rw [hl];simp)
 have hr:=(hF.ltUp hur).1
 have hrp:r≠p:=hF.irr hur
 have hrx:r≠x:=fun e=>n2 (by rw [←e];simp)
 have e0:(linkR F nb (lab x) (v x) x).par=none:=by unfold linkR;rw [hu];rfl
 have e3:(linkR F nb (lab x) (v x) x).prv=none:=by unfold linkR;rw [hu];rfl
 have e4:(linkR F nb (lab x) (v x) x).nxt=none:=by unfold linkR;rw [hu];rfl
 have e5:(linkR F nb (lab r) (v r) r).prv=([]:List Nat).getLast?.map nb:=(link_in hF hl).2.1
 refine(insertBefore_ns (nb p) (nb x) (nb r) _ _ _ w (h.node p hp) (h.node x hx) (h.node r hr) (h.ne hp hx (Ne.symm hxp)) (h.ne hp hr (Ne.symm hrp)) (h.ne hx hr (Ne.symm hrx)) e0 e3 e4 e5).mono ?_
 rintro e w' ⟨he,w1,hw0,w2,hw1,hw2⟩
 have hon:OnlyN n nb w w':=(only_put (only_put (only_put (OnlyN.refl n nb w) hp hw0) hr hw1) hx hw2)
 refine⟨he,Lib.hid (h.turn hon (fun i hi=>?_)),Lib.hid hon⟩
 by_cases ep:i=p
 ·rw [ep]
  rw [put_rec (a:=([]:List Nat)) (b:=(r::b')) hF hu hl (Ne.symm hxp)]
  have hh:=(at_other (at_other (at_same (h.node p hp) hw0) (h.ne hp hr (Ne.symm hrp)) hw1) (h.ne hp hx (Ne.symm hxp)) hw2)
  first
   | simpa [List.getLast?_concat,List.head?_cons,List.getLast?_nil,List.head?_nil,hrp]using hh
   | (refine Eq.mp (congrArg _ ?_) hh;simp [List.getLast?_concat,List.head?_cons,List.getLast?_nil,List.head?_nil,hrp,linkR,hl])
 by_cases ex:i=x
 ·rw [ex]
  rw [put_self (a:=([]:List Nat)) (b:=(r::b')) hF hxp hu hl]
  have hh:=(at_same (at_other (at_other (h.node x hx) (h.ne hp hx (Ne.symm hxp)).symm hw0) (h.ne hx hr (Ne.symm hrx)) hw1) hw2)
  simpa using hh
 by_cases er:i=r
 ·rw [er]
  rw [put_rec (a:=([]:List Nat)) (b:=(r::b')) hF hu hl hrx]
  have hh:=(at_other (at_same (at_other (h.node r hr) (h.ne hp hr (Ne.symm hrp)).symm hw0) hw1) (h.ne hx hr (Ne.symm hrx)).symm hw2)
  first
   | simpa [List.getLast?_concat,List.head?_cons,List.getLast?_nil,List.head?_nil,hrp]using hh
   | (refine Eq.mp (congrArg _ ?_) hh;simp [List.getLast?_concat,List.head?_cons,List.getLast?_nil,List.head?_nil,hrp,linkR,hl])
 rw [put_rec (a:=([]:List Nat)) (b:=(r::b')) hF hu hl ex]
 have hh:=(at_other (at_other (at_other (h.node i hi) (h.ne hi hp ep) hw0) (h.ne hi hr er) hw1) (h.ne hi hx ex) hw2)
 simpa [List.getLast?_concat,List.head?_cons,List.getLast?_nil,List.head?_nil,ep,Ne.symm er,er]using hh
set_option maxRecDepth 100000 in
set_option maxHeartbeats 1000000 in
theorem put_sn{B n:Nat}{w:World}{nb:Nat→Nat}{v:Nat→Value}{lab:Nat→NodeD}{F:Wd}(h:DomAt B w n nb v lab F)(hF:WOk n F){x p:Nat}(hp:p<n)(hx:x<n)(hxp:x≠p)(hu:F.up x=none)(a':List Nat)(q:Nat)(hl:F.kids p=(a'++[q])++[]):
  Calls Tryz.prog 84 #[.pointer (some ⟨nb p,0,none⟩),.pointer (some ⟨nb x,0,none⟩),.pointer (none)] w (TurnPost B n nb v lab (F.put p (a'++[q]).length x) w):=by
 have hxk:∀g,x∉F.kids g:=fun g hm=>by rw [hF.iff,hu]at hm;cases hm
 have hnd:((a'++[q])++x::([]:List Nat)).Nodup:=by
  have :=nodup_put (hF.nd p) (a'++[q]).length (x:=x) (hxk p)
  rw [hl,take_len,drop_len]at this
  exact this
 obtain⟨n1,n2,n3,n4,n5,n6⟩:=nd_parts hnd
 have huq:F.up q=some p:=(hF.iff p q).1 (by rw [hl];simp)
 have hq:=(hF.ltUp huq).1
 have hqp:q≠p:=hF.irr huq
 have hqx:q≠x:=fun e=>n1 (by rw [←e];simp)
 have e0:(linkR F nb (lab x) (v x) x).par=none:=by unfold linkR;rw [hu];rfl
 have e3:(linkR F nb (lab x) (v x) x).prv=none:=by unfold linkR;rw [hu];rfl
 have e4:(linkR F nb (lab x) (v x) x).nxt=none:=by unfold linkR;rw [hu];rfl
 have e5:(linkR F nb (lab p) (v p) p).lst=(a'++[q]).getLast?.map nb:=by
  show(F.kids p).getLast?.map nb=_
  rw [hl,List.append_nil]
 rw [List.getLast?_concat]at e5
 refine(insertBefore_sn (nb p) (nb x) (nb q) _ _ _ w (h.node p hp) (h.node x hx) (h.node q hq) (h.ne hp hx (Ne.symm hxp)) (h.ne hp hq (Ne.symm hqp)) (h.ne hx hq (Ne.symm hqx)) e0 e3 e4 e5).mono ?_
 rintro e w' ⟨he,w1,hw0,w2,hw1,hw2⟩
 have hon:OnlyN n nb w w':=(only_put (only_put (only_put (OnlyN.refl n nb w) hq hw0) hp hw1) hx hw2)
 refine⟨he,Lib.hid (h.turn hon (fun i hi=>?_)),Lib.hid hon⟩
 by_cases ep:i=p
 ·rw [ep]
  rw [put_rec (a:=(a'++[q])) (b:=([]:List Nat)) hF hu hl (Ne.symm hxp)]
  have hh:=(at_other (at_same (at_other (h.node p hp) (h.ne hp hq (Ne.symm hqp)) hw0) hw1) (h.ne hp hx (Ne.symm hxp)) hw2)
  first
   | simpa [List.getLast?_concat,List.head?_cons,List.getLast?_nil,List.head?_nil,hqp]using hh
   | (refine Eq.mp (congrArg _ ?_) hh;simp [List.getLast?_concat,List.head?_cons,List.getLast?_nil,List.head?_nil,hqp,linkR,hl])
 by_cases ex:i=x
 ·rw [ex]
  rw [put_self (a:=(a'++[q])) (b:=([]:List Nat)) hF hxp hu hl]
  have hh:=(at_same (at_other (at_other (h.node x hx) (h.ne hx hq (Ne.symm hqx)) hw0) (h.ne hp hx (Ne.symm hxp)).symm hw1) hw2)
  simpa using hh
 by_cases eq:i=q
 ·rw [eq]
  rw [put_rec (a:=(a'++[q])) (b:=([]:List Nat)) hF hu hl hqx]
  have hh:=(at_other (at_other (at_same (h.node q hq) hw0) (h.ne hp hq (Ne.symm hqp)).symm hw1) (h.ne hx hq (Ne.symm hqx)).symm hw2)
  first
   | simpa [List.getLast?_concat,List.head?_cons,List.getLast?_nil,List.head?_nil,hqp]using hh
   | (refine Eq.mp (congrArg _ ?_) hh;simp [List.getLast?_concat,List.head?_cons,List.getLast?_nil,List.head?_nil,hqp,linkR,hl])
 rw [put_rec (a:=(a'++[q])) (b:=([]:List Nat)) hF hu hl ex]
 have hh:=(at_other (at_other (at_other (h.node i hi) (h.ne hi hq eq) hw0) (h.ne hi hp ep) hw1) (h.ne hi hx ex) hw2)
 simpa [List.getLast?_concat,List.head?_cons,List.getLast?_nil,List.head?_nil,ep,Ne.symm eq,eq]using hh
set_option maxRecDepth 100000 in
set_option maxHeartbeats 1000000 in
theorem put_ss{B n:Nat}{w:World}{nb:Nat→Nat}{v:Nat→Value}{lab:Nat→NodeD}{F:Wd}(h:DomAt B w n nb v lab F)(hF:WOk n F){x p:Nat}(hp:p<n)(hx:x<n)(hxp:x≠p)(hu:F.up x=none)(a':List Nat)(q:Nat)(b':List Nat)(r:Nat)(hl:F.kids p=(a'++[q])++(r::b')):
  Calls Tryz.prog 84 #[.pointer (some ⟨nb p,0,none⟩),.pointer (some ⟨nb x,0,none⟩),.pointer (some ⟨nb r,0,none⟩)] w (TurnPost B n nb v lab (F.put p (a'++[q]).length x) w):=by
 have hxk:∀g,x∉F.kids g:=fun g hm=>by rw [hF.iff,hu]at hm;cases hm
 have hnd:((a'++[q])++x::(r::b')).Nodup:=by
  have :=nodup_put (hF.nd p) (a'++[q]).length (x:=x) (hxk p)
  rw [hl,take_len,drop_len]at this
  exact this
 obtain⟨n1,n2,n3,n4,n5,n6⟩:=nd_parts hnd
 have huq:F.up q=some p:=(hF.iff p q).1 (by rw [hl];simp)
 have hq:=(hF.ltUp huq).1
 have hqp:q≠p:=hF.irr huq
 have hqx:q≠x:=fun e=>n1 (by rw [←e];simp)
 have hur:F.up r=some p:=(hF.iff p r).1 (by rw [hl];simp)
 have hr:=(hF.ltUp hur).1
 have hrp:r≠p:=hF.irr hur
 have hrx:r≠x:=fun e=>n2 (by rw [←e];simp)
 have hqr:q≠r:=fun e=>n6 q (by simp) (by rw [e];simp)
 have e0:(linkR F nb (lab x) (v x) x).par=none:=by unfold linkR;rw [hu];rfl
 have e3:(linkR F nb (lab x) (v x) x).prv=none:=by unfold linkR;rw [hu];rfl
 have e4:(linkR F nb (lab x) (v x) x).nxt=none:=by unfold linkR;rw [hu];rfl
 have e5:(linkR F nb (lab r) (v r) r).prv=(a'++[q]).getLast?.map nb:=(link_in hF hl).2.1
 rw [List.getLast?_concat]at e5
 refine(insertBefore_ss (nb p) (nb x) (nb q) (nb r) _ _ _ _ w (h.node p hp) (h.node x hx) (h.node q hq) (h.node r hr) (h.ne hp hx (Ne.symm hxp)) (h.ne hp hq (Ne.symm hqp)) (h.ne hp hr (Ne.symm hrp)) (h.ne hx hq (Ne.symm hqx)) (h.ne hx hr (Ne.symm hrx)) (h.ne hq hr hqr) e0 e3 e4 e5).mono ?_
 rintro e w' ⟨he,w1,hw0,w2,hw1,hw2⟩
 have hon:OnlyN n nb w w':=(only_put (only_put (only_put (OnlyN.refl n nb w) hq hw0) hr hw1) hx hw2)
 refine⟨he,Lib.hid (h.turn hon (fun i hi=>?_)),Lib.hid hon⟩
 by_cases ep:i=p
 ·rw [ep]
  rw [put_rec (a:=(a'++[q])) (b:=(r::b')) hF hu hl (Ne.symm hxp)]
  have hh:=(at_other (at_other (at_other (h.node p hp) (h.ne hp hq (Ne.symm hqp)) hw0) (h.ne hp hr (Ne.symm hrp)) hw1) (h.ne hp hx (Ne.symm hxp)) hw2)
  first
   | simpa [List.getLast?_concat,List.head?_cons,List.getLast?_nil,List.head?_nil,hqp,hrp]using hh
   | (refine Eq.mp (congrArg _ ?_) hh;simp [List.getLast?_concat,List.head?_cons,List.getLast?_nil,List.head?_nil,hqp,hrp,linkR,hl])
 by_cases ex:i=x
 ·rw [ex]
  rw [put_self (a:=(a'++[q])) (b:=(r::b')) hF hxp hu hl]
  have hh:=(at_same (at_other (at_other (h.node x hx) (h.ne hx hq (Ne.symm hqx)) hw0) (h.ne hx hr (Ne.symm hrx)) hw1) hw2)
  simpa using hh
 by_cases eq:i=q
 ·rw [eq]
  rw [put_rec (a:=(a'++[q])) (b:=(r::b')) hF hu hl hqx]
  have hh:=(at_other (at_other (at_same (h.node q hq) hw0) (h.ne hq hr hqr) hw1) (h.ne hx hq (Ne.symm hqx)).symm hw2)
  first
   | simpa [List.getLast?_concat,List.head?_cons,List.getLast?_nil,List.head?_nil,hqp,Ne.symm hqr]using hh
   | (refine Eq.mp (congrArg _ ?_) hh;simp [List.getLast?_concat,List.head?_cons,List.getLast?_nil,List.head?_nil,hqp,Ne.symm hqr,linkR,hl])
 by_cases er:i=r
 ·rw [er]
  rw [put_rec (a:=(a'++[q])) (b:=(r::b')) hF hu hl hrx]
  have hh:=(at_other (at_same (at_other (h.node r hr) (h.ne hq hr hqr).symm hw0) hw1) (h.ne hx hr (Ne.symm hrx)).symm hw2)
  first
   | simpa [List.getLast?_concat,List.head?_cons,List.getLast?_nil,List.head?_nil,hrp,hqr,Ne.symm hqr]using hh
   | (refine Eq.mp (congrArg _ ?_) hh;simp [List.getLast?_concat,List.head?_cons,List.getLast?_nil,List.head?_nil,hrp,hqr,Ne.symm hqr,linkR,hl])
 rw [put_rec (a:=(a'++[q])) (b:=(r::b')) hF hu hl ex]
 have hh:=(at_other (at_other (at_other (h.node i hi) (h.ne hi hq eq) hw0) (h.ne hi hr er) hw1) (h.ne hi hx ex) hw2)
 simpa [List.getLast?_concat,List.head?_cons,List.getLast?_nil,List.head?_nil,ep,Ne.symm eq,eq,Ne.symm er,er]using hh
theorem removeChild_any{B n:Nat}{w:World}{nb:Nat→Nat}{v:Nat→Value}{lab:Nat→NodeD}{F:Wd}(h:DomAt B w n nb v lab F)(hF:WOk n F){x p:Nat}(hu:F.up x=some p):
  Calls Tryz.prog 87 #[.pointer (some ⟨nb p,0,none⟩),.pointer (some ⟨nb x,0,none⟩)] w (TurnPost B n nb v lab (F.cut x) w):=by
 obtain⟨a,b,hl⟩:=List.append_of_mem ((hF.iff p x).2 hu)
 rcases nil_or_snoc a with rfl | ⟨a',q,rfl⟩
 ·cases b with
  | nil=>exact cut_nn h hF hl
  | cons r b'=>exact cut_ns h hF b' r hl
 ·cases b with
  | nil=>exact cut_sn h hF a' q hl
  | cons r b'=>exact cut_ss h hF a' q b' r hl
theorem insertBefore_any{B n:Nat}{w:World}{nb:Nat→Nat}{v:Nat→Value}{lab:Nat→NodeD}{F:Wd}(h:DomAt B w n nb v lab F)(hF:WOk n F){x p:Nat}(hp:p<n)(hx:x<n)(hxp:x≠p)(hu:F.up x=none)(a b:List Nat)(hl:F.kids p=a++b):
  Calls Tryz.prog 84 #[.pointer (some ⟨nb p,0,none⟩),.pointer (some ⟨nb x,0,none⟩),.pointer (b.head?.map fun r=>⟨nb r,0,none⟩)] w (TurnPost B n nb v lab (F.put p a.length x) w):=by
 rcases nil_or_snoc a with rfl | ⟨a',q,rfl⟩
 ·cases b with
  | nil=>exact put_nn h hF hp hx hxp hu hl
  | cons r b'=>exact put_ns h hF hp hx hxp hu b' r hl
 ·cases b with
  | nil=>exact put_sn h hF hp hx hxp hu a' q hl
  | cons r b'=>exact put_ss h hF hp hx hxp hu a' q b' r hl
end Go.Proofs.YtkdomegcacgpnaaGreat
