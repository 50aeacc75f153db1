/- Parts of a proof: RemoveG, MovesG, WrapAll, Inmost, PutMore, WrapK, StepWrap. -/
import Derived.Test.YtkdomegcacgpnaaGreatG06
import Derived.Test.YtkdomegcacgpnaaGreatG17
import Derived.Test.YtkdomegcacgpnaaGreatG07
import Derived.Test.YtkdomegcacgpnaaGreatG08
import Derived.Test.YtkdomegcacgpnaaGreatG21
import Derived.Test.YtkdomegcacgpnaaGreatG22
import Derived.Test.YtkdomegcacgpnaaGreatG20
import Derived.Test.YtkdomegcacgpnaaGreatG19
import Derived.Test.YtkdomegcacgpnaaGreatG15
import Derived.Test.YtkdomegcacgpnaaGreatG12
import Derived.Test.YtkdomegcacgpnaaGreatG11
import Derived.Test.YtkdomegcacgpnaaGreatG14
import Derived.Test.YtkdomegcacgpnaaGreatG13
import Derived.Deep.RegionWith
import Derived.BigRegion
import Derived.RegionTactic
import Derived.StillTailTactics
set_option linter.unusedVariables false
set_option linter.unusedSimpArgs false
namespace Go.Proofs.YtkdomegcacgpnaaGreat
open Go.RowKit
set_option maxRecDepth 100000 in
set_option maxHeartbeats 1000000 in
theorem removeG_any{B n:Nat}{w:World}{nb:Nat→Nat}{v:Nat→Value}{lab:Nat→NodeD}{F:Wd}(h:DomAt B w n nb v lab F)(hF:WOk n F)(s:Nat){a:Option Addr}{cap g:Nat}(l:List Nat)(c0:w.cell? ⟨s,0,none⟩=some (.slice a l.length cap))(ha:0<l.length→a=some ⟨g,0,none⟩)(hc:∀i,i<l.length→w.cell? ⟨g,i,none⟩=some (.pointer (some ⟨nb (l.getD i 0),0,none⟩)))(hg:0<l.length→∀i,i<n→g≠nb i)(hl:∀i∈l,i<n)(hn:l.length≤200):
  Calls Tryz.prog 46 #[.pointer (some ⟨s,0,none⟩)] w (fun e w'=>e=.returned (.pointer (some ⟨s,0,none⟩))∧Hid (DomAt B w' n nb v lab (cutsW F l))∧Hid (OnlyN n nb w w')):=by
 have hll:(l.length:Int)≤200:=by omega
 have HA:=Lib.hid ha
 have HC:=Lib.hid hc
 have HD:=Lib.hid h
 have HF:=Lib.hid hF
 have HL:=Lib.hid hl
 have HS:=Lib.hid hg
 clear h hF hl ha hc hg
 go_enter Tryz.func46,Tryz.ntmps46
 go_wp2
 go_loopw [10] (fun i wr=>∃k:Nat,k≤l.length∧i=.int .i64 (k:Int)∧Hid (DomAt B wr n nb v lab (cutsW F (l.take k)))∧Hid (OnlyN n nb w wr)) (fun i _=>l.length-(intOf i).toNat)
 case atStart=>exact⟨0,by omega,by go_num,HD,Lib.hid (OnlyN.refl _ _ _)⟩
 case round=>
  obtain⟨k,hk,rfl,HDk,HO⟩:=hrel
  by_cases hlt:k<l.length
  ·obtain rfl:=HA.out (by omega)
   have hkI:(k:Int)<(l.length:Int):=by omega
   have ck:wr.cell? ⟨g,k,none⟩=some (.pointer (some ⟨nb (l.getD k 0),0,none⟩)):=(World.cell?_of_block (HO.out.block g (fun i hi=>HS.out (by omega) i hi))).trans (HC.out k hlt)
   have hx:=HL.out _ (getD_mem' (d:=0) hlt)
   have htk:=cuts_take (F:=F) hlt
   obtain⟨x,hxx⟩:∃x,l.getD k 0=x:=⟨_,rfl⟩
   rw [hxx]at ck hx htk
   have hFk:=HF.out.cuts (l.take k)
   have cp:=(HDk.out.node x hx).par
   cases hu:(cutsW F (l.take k)).up x with
   | none=>
    have cp0:wr.cell? ⟨nb x,0,none⟩=some (.pointer none):=by
     have :(linkR (cutsW F (l.take k)) nb (lab x) (v x) x).par=none:=by simp [linkR,hu]
     rw [this]at cp
     exact cp
    have HN:=Lib.hid (show DomAt B wr n nb v lab (cutsW F (l.take (k+1))) by rw [htk,hFk.cut_none hu];exact HDk.out)
    clear cp htk hFk hxx hu
    go_wp2
    go_roundw
    case rel=>exact⟨k+1,by omega,by go_num,HN,HO⟩
    case measure=>simp [intOf];omega
   | some p=>
    have cp0:wr.cell? ⟨nb x,0,none⟩=some (.pointer (some ⟨nb p,0,none⟩)):=by
     have :(linkR (cutsW F (l.take k)) nb (lab x) (v x) x).par=some (nb p):=by simp [linkR,hu]
     rw [this]at cp
     exact cp
    have hrc:=removeChild_any HDk.out hFk hu
    rw [←htk]at hrc
    have HRC:=Lib.hid hrc
    clear cp htk hFk hxx hu hrc
    go_wp2_with fail
    refine HRC.out.mono ?_
    rintro e w2 ⟨rfl,hd2,ho2⟩
    have HO2:=Lib.hid (HO.out.trans ho2.out)
    clear ho2
    go_wp2
    refine⟨?rel,?measure⟩
    case rel=>exact⟨k+1,by omega,by go_num,hd2,HO2⟩
    case measure=>simp [intOf];omega
  ·obtain rfl:k=l.length:=by omega
   have hd:=HDk.out
   rw [List.take_length]at hd
   have HD9:=Lib.hid hd
   clear hd
   go_wp2
   go_ret
   exact⟨rfl,HD9,HO⟩
set_option maxRecDepth 100000 in
set_option maxHeartbeats 1000000 in
theorem putAppend{X:Ending→World→Prop}(s:Nat)(nv:Value)(w:World)(h:Calls Tryz.prog 80 #[.pointer (some ⟨s,0,none⟩),nv,.bool false,.func (.func 81) #[] #[]] w (fun e w'=>e=.returned (.pointer (some ⟨s,0,none⟩))∧X e w')):
  Calls Tryz.prog 41 #[.pointer (some ⟨s,0,none⟩),nv] w (fun e w'=>e=.returned (.pointer (some ⟨s,0,none⟩))∧X e w'):=by
 have H:=Lib.hid h
 clear h
 go_enter Tryz.func41,Tryz.ntmps41
 go_wp2_with fail
 refine H.out.mono ?_
 rintro e w1 ⟨rfl,hx⟩
 go_wp2
 go_ret
 exact⟨rfl,hx⟩
set_option maxRecDepth 100000 in
set_option maxHeartbeats 1000000 in
theorem putPrepend{X:Ending→World→Prop}(s:Nat)(nv:Value)(w:World)(h:Calls Tryz.prog 80 #[.pointer (some ⟨s,0,none⟩),nv,.bool true,.func (.func 83) #[] #[]] w (fun e w'=>e=.returned (.pointer (some ⟨s,0,none⟩))∧X e w')):
  Calls Tryz.prog 42 #[.pointer (some ⟨s,0,none⟩),nv] w (fun e w'=>e=.returned (.pointer (some ⟨s,0,none⟩))∧X e w'):=by
 have H:=Lib.hid h
 clear h
 go_enter Tryz.func42,Tryz.ntmps42
 go_wp2_with fail
 refine H.out.mono ?_
 rintro e w1 ⟨rfl,hx⟩
 go_wp2
 go_ret
 exact⟨rfl,hx⟩
set_option maxRecDepth 100000 in
set_option maxHeartbeats 1000000 in
theorem putAfter{X:Ending→World→Prop}(s:Nat)(nv:Value)(w:World)(h:Calls Tryz.prog 80 #[.pointer (some ⟨s,0,none⟩),nv,.bool true,.func (.func 85) #[] #[]] w (fun e w'=>e=.returned (.pointer (some ⟨s,0,none⟩))∧X e w')):
  Calls Tryz.prog 43 #[.pointer (some ⟨s,0,none⟩),nv] w (fun e w'=>e=.returned (.pointer (some ⟨s,0,none⟩))∧X e w'):=by
 have H:=Lib.hid h
 clear h
 go_enter Tryz.func43,Tryz.ntmps43
 go_wp2_with fail
 refine H.out.mono ?_
 rintro e w1 ⟨rfl,hx⟩
 go_wp2
 go_ret
 exact⟨rfl,hx⟩
set_option maxRecDepth 100000 in
set_option maxHeartbeats 1000000 in
theorem putBefore{X:Ending→World→Prop}(s:Nat)(nv:Value)(w:World)(h:Calls Tryz.prog 80 #[.pointer (some ⟨s,0,none⟩),nv,.bool false,.func (.func 86) #[] #[]] w (fun e w'=>e=.returned (.pointer (some ⟨s,0,none⟩))∧X e w')):
  Calls Tryz.prog 44 #[.pointer (some ⟨s,0,none⟩),nv] w (fun e w'=>e=.returned (.pointer (some ⟨s,0,none⟩))∧X e w'):=by
 have H:=Lib.hid h
 clear h
 go_enter Tryz.func44,Tryz.ntmps44
 go_wp2_with fail
 refine H.out.mono ?_
 rintro e w1 ⟨rfl,hx⟩
 go_wp2
 go_ret
 exact⟨rfl,hx⟩
theorem Target.relab{op:Int}{lab lb:Nat→NodeD}{F:Wd}{x p:Nat}{A B:List Nat}(h:Target op lab F x p A B)(hk:(lb x).kind=(lab x).kind):Target op lb F x p A B:=by
 obtain⟨h1,h2⟩:=h
 refine⟨h1,?_⟩
 rw [hk]
 exact h2
theorem Many.relab{op:Int}{n:Nat}{F:Wd}{ws L:List Nat}{n2:Nat}{lab2:Nat→NodeD}{G2:Wd}{xs:List Nat}{m:Nat}{lab:Nat→NodeD}{G:Wd}(h:Many op ws L n2 lab2 G2 xs m lab G):SideW n F xs ws L→MidW n F L m G→∀{lb:Nat→NodeD},(∀i,i<m→(lb i).kind=(lab i).kind)→
  ∃(lb2:Nat→NodeD) (src:Nat→Nat),Many op ws L n2 lb2 G2 xs m lb G∧(∀i,i<n2→src i<m∧lab2 i=lab (src i)∧lb2 i=lb (src i))∧∀i,i<m→src i=i:=by
 induction h with
 | @last x p m lab G A B ht hm hl hG=>
  intro hs hmid lb hk
  subst hm
  have hle:=hmid.le
  exact⟨lb,id,.last (ht.relab (hk x (by have :=(hs.xin x (by simp)).1;omega))) rfl (fun _ _=>rfl) hG,fun i hi=>⟨hi,hl i hi,rfl⟩,fun _ _=>rfl⟩
 | @more x y p m xs lab lab' G A B ht g1 g2 g3 ih=>
  intro hs hmid lb hk
  obtain⟨hx,hxa⟩:=hs.xin x (by simp)
  obtain⟨h1,h2,h3⟩:=ht.parent hs.ok hmid.up hx hs.flat hxa
  have hc:=cpOk_of hs.ok hs.flat hs.lone hs.win
  have hle:=hmid.le
  have hLm:∀i,i<L.length→L.getD i 0<m:=fun i hi=>Nat.lt_of_lt_of_le (hc.lt _ (getD_mem' hi)) hle
  obtain⟨lb2,src,b1,b2,b3⟩:=ih ⟨hs.ok,hs.flat,hs.lone,hs.win,fun z hz=>hs.xin z (List.mem_cons_of_mem _ hz)⟩ (hmid.step hs.ok hc hs.lone.1 h1 h2 ht.1) (lb:=fun i=>if i<m then lb i else lb (L.getD (i-m) 0)) (fun i hi=>by
   by_cases e:i<m
   ·rw [if_pos e,g1 i e];exact hk i e
   ·have h5:=g2 (i-m) (by omega)
    rw [show m+(i-m)=i by omega]at h5
    rw [if_neg e,h5]
    exact hk _ (hLm _ (by omega)))
  refine⟨lb2,fun i=>if src i<m then src i else L.getD (src i-m) 0,.more (ht.relab (hk x (by omega))) (fun i hi=>by rw [if_pos hi]) (fun i hi=>by rw [if_neg (by omega),show m+i-m=i by omega]) b1,fun i hi=>?_,fun i hi=>?_⟩
  ·obtain⟨c1,c2,c3⟩:=b2 i hi
   by_cases e:src i<m
   ·simp only [if_pos e]at c3 ⊢
    exact⟨e,by rw [c2,g1 _ e],c3⟩
   ·have h5:=g2 (src i-m) (by omega)
    rw [show m+(src i-m)=src i by omega]at h5
    simp only [if_neg e]at c3 ⊢
    exact⟨hLm _ (by omega),by rw [c2,h5],c3⟩
  ·have :=b3 i (by omega)
   simp only [this,if_pos hi]
def MoveP(u:Option Nat)(B n:Nat)(nb:Nat→Nat)(n2:Nat)(lab2:Nat→NodeD)(G2:Wd)(w w':World):Prop:=
 ∃nb2 v2,Hid (DomAt B w' n2 nb2 v2 lab2 G2)∧Hid (WOk n2 G2)∧Hid ((∀i,i<n→nb2 i=nb i)∧∀i,n≤i→i<n2→w.heap.size≤nb2 i)∧Hid (n≤n2)∧∃wm,Hid (OnlyRow u w wm)∧Hid (OnlyG n nb wm w')
theorem SelAt.stands{w wm w':World}{s S:Nat}{sv:Value}{ks:List Nat}{u:Option Nat}{n:Nat}{nb:Nat→Nat}{B:Nat}{v:Nat→Value}{lab:Nat→NodeD}{F:Wd}(hD:DomAt B w n nb v lab F)(h:SelAt w s sv ks S)(hsep:∀g,u=some g→g≠s∧sv.ownBlock≠some g)(hr:OnlyRow u w wm)(ho:OnlyG n nb wm w'):SelAt w' s sv ks S:=by
 have hk:∀k,k<w.heap.size→(∀i,i<n→k≠nb i)→some k≠u→w'.heap[k]? =w.heap[k]? :=fun k h2 h1 h3=>(ho.block k (by rw [hr.size];exact h2) h1).trans (hr.block k h2 h3)
 have hs:some s≠u:=fun e=>(hsep s e.symm).1 rfl
 have hss:=World.block_lt_of_cell? w _ h.nodes
 obtain⟨d,hd⟩:=h.doc
 have hsn:∀i,i<n→s≠nb i:=by
  have h1:=h.own
  unfold OwnPtrs at h1
  obtain⟨sa,scap,rfl⟩:=ownsRow_slice h1
  exact sel_ne hD h.nodes
 refine⟨(World.cell?_of_block (hk s hss hsn hs)).trans h.nodes,⟨d,(World.cell?_of_block (hk s hss hsn hs)).trans hd⟩,?_,h.base⟩
 refine ownsRow_kept h.own (fun q hq=>hk q (World.ownsRow.lt h.own q hq).2 (fun i hi e=>?_) (fun e=>(hsep q e.symm).2 hq))
 obtain⟨cur,hc⟩:=ownsRow_type h.own hq
 have h1:=hD.node i hi
 unfold World.nodeAt at h1
 rw [←e,hc]at h1
 simp [NRec.obj]at h1
set_option maxRecDepth 100000 in
set_option maxHeartbeats 1000000 in
theorem replG_any{B n:Nat}{w:World}{nb:Nat→Nat}{v:Nat→Value}{lab:Nat→NodeD}{F:Wd}(s:Nat)(sv:Value){xs:List Nat}(S:Nat)(hD:DomAt B w n nb v lab F)(hs:SelAt w s sv (xs.map nb) S)(hxs:∀x∈xs,x<n)(hxl:xs.length≤200)(nv:Value)(hsep:∀g,nv.ownBlock=some g→g≠s∧sv.ownBlock≠some g){n2:Nat}{lab2:Nat→NodeD}{G2:Wd}
  (hm:Calls Tryz.prog 43 #[.pointer (some ⟨s,0,none⟩),nv] w (fun e w'=>e=.returned (.pointer (some ⟨s,0,none⟩))∧MoveP (rvU true nv) B n nb n2 lab2 G2 w w')):
  Calls Tryz.prog 45 #[.pointer (some ⟨s,0,none⟩),nv] w (fun e w'=>e=.returned (.pointer (some ⟨s,0,none⟩))∧MoveP (rvU true nv) B n nb n2 lab2 (cutsW G2 xs) w w'):=by
 have HN:=Lib.hid hm
 have H:=Lib.hid (And.intro hs (And.intro hD (And.intro hxs hsep)))
 clear hm hs hD hxs hsep
 go_enter Tryz.func45,Tryz.ntmps45
 go_wp2_with fail
 refine HN.out.mono ?_
 rintro e w1 ⟨rfl,nb2,v2,hd,hw2,hnb,hle,wm,hr,ho⟩
 have hs1:=SelAt.stands H.out.2.1 H.out.1 H.out.2.2.2 hr.out ho.out
 have hl2:=hle.out
 have hmap:xs.map nb=xs.map nb2:=List.map_congr_left (fun x hx=>(hnb.out.1 x (H.out.2.2.1 x hx)).symm)
 rw [hmap]at hs1
 have hown:w1.ownsRow S 75 1 sv xs.length (xs.map fun y=>ptrV (nb2 y)):=by
  have h1:=hs1.own
  unfold OwnPtrs at h1
  rw [List.length_map,List.map_map]at h1
  exact h1
 have c0:=hs1.nodes
 obtain⟨sa,scap,rfl⟩:=ownsRow_slice hown
 obtain⟨sg,hsg⟩:∃sg,0<xs.length→sa=some ⟨sg,0,none⟩:=by
  rcases hown.2 with ⟨_,h2⟩ | ⟨g0,c0_,cur,hv_,_⟩
  ·exact⟨0,fun h=>by omega⟩
  ·simp at hv_;exact⟨g0,fun _=>hv_.1⟩
 have hrm:=removeG_any hd.out hw2.out s (a:=sa) (cap:=scap) (g:=sg) xs c0 hsg (fun i hi=>by
  obtain rfl:=hsg (by omega)
  exact own_nodes hown i hi) (fun h0=>by
  obtain rfl:=hsg h0
  exact row_ne hd.out hown) (fun i hi=>by have :=H.out.2.2.1 i hi;omega) hxl
 have HRM:=Lib.hid hrm
 have HX:=Lib.hid (And.intro (hw2.out.cuts xs) (And.intro hnb.out (And.intro hl2 (And.intro hr.out ho.out))))
 have HNEW:=Lib.hid (show ∀w9,OnlyN n2 nb2 w1 w9→OnlyG n nb wm w9 from fun w9 h9=>ho.out.turn h9 hnb.out.1 (fun i h1 h2=>by have :=hnb.out.2 i h1 h2;have :=hr.out.size;omega))
 clear hrm hs1 hown hsg c0 hd hw2 hnb hr ho HN
 go_wp2_with fail
 refine HRM.out.mono ?_
 rintro e w2 ⟨rfl,hd2,ho2⟩
 have HO:=Lib.hid (HNEW.out w2 ho2.out)
 clear HRM ho2
 go_wp2
 go_ret
 exact⟨rfl,nb2,v2,hd2,Lib.hid HX.out.1,Lib.hid HX.out.2.1,Lib.hid HX.out.2.2.1,wm,Lib.hid HX.out.2.2.2.1,HO⟩
def InmPost(lab:Nat→NodeD)(F:Wd)(kn:Nat→Nat)(k:Nat)(w:World)(e:Ending)(w':World):Prop:=∃o,Inm lab F k o∧e=.returned (lk (o.map kn))∧w=w'
def elT(lab:Nat→NodeD)(l:List Nat)(i:Nat):List Nat:=(l.take i).filter fun y=>decide ((lab y).kind=3)
theorem elT_succ{lab:Nat→NodeD}{l:List Nat}{i:Nat}(h:i<l.length):elT lab l (i+1)=elT lab l i++(if(lab (l.getD i 0)).kind=3 then [l.getD i 0]else []):=by
 unfold elT
 rw [take_snoc h,List.filter_append]
 congr 1
 generalize l.getD i 0=q
 by_cases e:(lab q).kind=3
 ·rw [if_pos e];simp [e]
 ·rw [if_neg e];simp [e]
theorem elT_le{lab:Nat→NodeD}{l:List Nat}(i:Nat):(elT lab l i).length≤(l.filter fun y=>decide ((lab y).kind=3)).length:=by
 have h:(l.filter fun y=>decide ((lab y).kind=3))=elT lab l i++((l.drop i).filter fun y=>decide ((lab y).kind=3)):=by
  unfold elT
  rw [←List.filter_append,List.take_append_drop]
 rw [h,List.length_append]
 omega
set_option maxRecDepth 100000 in
set_option maxHeartbeats 4000000 in
theorem inmost_any{B:Nat}{w:World}{n:Nat}{kn:Nat→Nat}{kv av:Nat→Value}{pl:Nat→Int}{lab:Nat→NodeD}{F:Wd}(h:Knots B w n kn kv av pl lab F)(hF:WOk n F)(hn:n≤900000){k:Nat}(hk:k<n):
  Calls Tryz.prog 109 #[.pointer (some ⟨kn k,0,none⟩)] w (InmPost lab F kn k w):=by
 obtain⟨d,M,hM,hd⟩:=hF.deep
 have HK:=Lib.hid h
 have HF:=Lib.hid hF
 have HD:=Lib.hid (And.intro hM hd)
 have HKN:=Lib.hid hk
 clear h hF hM hd hk
 go_enter Tryz.func109,Tryz.ntmps109
 go_wp2
 go_loopg [0] (M-d k) (fun gk kv0 wr=>Hid (w=wr)∧∃y,Hid (y<n)∧gk=M-d y∧kv0=.pointer (some ⟨kn y,0,none⟩)∧Hid (∀o,Inm lab F y o→Inm lab F k o))
 case atStart=>exact⟨Lib.hid rfl,k,HKN,rfl,rfl,Lib.hid (fun _ h=>h)⟩
 case round=>
  obtain⟨HW,y,HY,rfl,rfl,HI⟩:=hrel
  obtain rfl:=HW.out
  have hyn:=HY.out
  have c7:=(HK.out.cells hyn).2.2
  have hrow:=HK.out.row y hyn
  obtain⟨sa,cap,g,hv,_,_,hs,hc,_,_⟩:=own_open hrow
  rw [hv]at c7
  obtain⟨l,hl⟩:∃l,F.kids y=l:=⟨_,rfl⟩
  have hfew:=HF.out.few y
  rw [hl]at c7 hs hc hfew
  have HL:=Lib.hid (And.intro hl (And.intro hs hc))
  obtain⟨LL,hLL⟩:∃LL,l.length=LL:=⟨_,rfl⟩
  rw [hLL]at c7 hfew
  have HLL:=Lib.hid hLL
  have hLI:LL≤900000:=by omega
  clear hl hs hc hrow hv hLL hfew hyn
  go_wp2
  go_loopw [3,4] (fun nv iv wr=>∃i:Nat,i≤LL∧iv=.int .i64 (i:Int)∧Hid (w=wr)∧nv=lk ((elT lab l i).head?.map kn)∧Hid ((elT lab l i).length≤1)) (fun _ iv _=>LL-(intOf iv).toNat)
  case atStart=>exact⟨0,by omega,by go_num,Lib.hid rfl,rfl,Lib.hid (Nat.zero_le _)⟩
  case round=>
   obtain⟨i,hi,rfl,HW2,rfl,HE⟩:=hrel
   obtain rfl:=HW2.out
   by_cases hlt:i<LL
   ·have hiI:(i:Int)<(LL:Int):=by omega
    have hil:i<l.length:=by rw [HLL.out];exact hlt
    obtain rfl:=HL.out.2.1 (by omega)
    have hci:=HL.out.2.2 i hil
    have hel:=elT_succ (lab:=lab) hil
    obtain⟨q,hq⟩:∃q,l.getD i 0=q:=⟨_,rfl⟩
    rw [hq]at hci hel
    have hqn:q<n:=(HF.out.lt y q (by rw [HL.out.1,←hq];exact getD_mem' hil)).2
    have ck:=(HK.out.node q hqn).cell (i:=1) (v:=.int .i64 (lab q).kind) rfl
    obtain⟨kd,hkd⟩:∃kd,(lab q).kind=kd:=⟨_,rfl⟩
    rw [hkd]at ck hel
    by_cases hk3:kd=3
    ·rw [if_pos hk3]at hel
     subst hk3
     cases hh:elT lab l i with
     | nil=>
      rw [hh]at hel
      have HEL:=Lib.hid hel
      simp only [List.head?_nil,Option.map_none,lk_none]
      clear hel hq hkd hh
      go_wp2
      go_roundw
      case rel=>exact⟨i+1,by omega,by go_num,Lib.hid (by trivial),by rw [HEL.out];rfl,Lib.hid (by rw [HEL.out];simp)⟩
      case measure=>simp [intOf];omega
     | cons a r=>
      have hmany:2≤(elK lab F y).length:=by
       have h1:=elT_le (lab:=lab) (l:=l) (i+1)
       rw [hel,hh]at h1
       unfold elK
       rw [HL.out.1]
       simp only [List.length_append,List.length_cons,List.length_nil]at h1
       omega
      have HR:=Lib.hid (HI.out none (.many hmany))
      simp only [List.head?_cons,Option.map_some,lk_some]
      clear hel hq hkd hh hmany
      go_wp2
      go_ret
      exact⟨none,HR.out,rfl,rfl⟩
    ·rw [if_neg hk3,List.append_nil]at hel
     have HEL:=Lib.hid hel
     have hk4:(kd==3)=false:=by simp [hk3]
     clear hel hq hkd
     go_wp2
     go_roundw
     case rel=>exact⟨i+1,by omega,by go_num,Lib.hid (by trivial),by rw [HEL.out],Lib.hid (by rw [HEL.out];exact HE.out)⟩
     case measure=>simp [intOf];omega
   ·obtain rfl:i=LL:=by omega
    have hall:elT lab l i=elK lab F y:=by
     unfold elT elK
     rw [List.take_of_length_le (by rw [HLL.out];exact Nat.le_refl _),HL.out.1]
    cases hh:elT lab l i with
    | nil=>
     have HR:=Lib.hid (HI.out (some y) (.stop (by rw [←hall];exact hh)))
     simp only [List.head?_nil,Option.map_none,lk_none]
     clear hall hh
     go_wp2
     go_ret
     exact⟨some y,HR.out,rfl,rfl⟩
    | cons a r=>
     have hr:r=[]:=by
      have :=HE.out
      rw [hh,List.length_cons]at this
      exact List.eq_nil_of_length_eq_zero (by omega)
     subst hr
     have hel:elK lab F y=[a]:=by rw [←hall];exact hh
     have hay:a∈F.kids y:=elK_mem (lab:=lab) (by rw [hel];simp)
     have han:=(HF.out.lt y a hay).2
     have hda:=HD.out.2 y a ((HF.out.iff y a).1 hay)
     have hma:=HD.out.1 a
     have HI2:Hid (∀o,Inm lab F a o→Inm lab F k o):=Lib.hid (fun o ho=>HI.out o (.down hel ho))
     simp only [List.head?_cons,Option.map_some,lk_some]
     clear hall hh hel hay
     go_wp2
     go_roundg (M-d a)
     case measure=>omega
     case rel=>exact⟨Lib.hid rfl,a,Lib.hid han,rfl,rfl,HI2⟩
structure PartsK (w:World) (kn:Nat→Nat) (p:Nat) (a b:List Nat) (s0 sA sB:Option Addr) (m L cap capA capB:Nat):Prop where
 c7:w.cell? ⟨kn p,7,none⟩=some (.slice s0 L cap)
 hm:a.length=m
 hr:b.length=L-m
 hmL:m≤L
 hs1:∀w,(Instr.sliceAt 66 (.slice s0 L cap) none (some (.int .i64 (m:Int))) none).run Tryz.prog w=.ok (.slice sA m capA) w∧(Instr.slice 66 (.slice s0 L cap) none (some (.int .i64 (m:Int))) none).run Tryz.prog w=.ok (.slice sA m capA) w
 hs2:∀w,(Instr.sliceAt 66 (.slice s0 L cap) (some (.int .i64 (m:Int))) none none).run Tryz.prog w=.ok (.slice sB (L-m) capB) w∧(Instr.slice 66 (.slice s0 L cap) (some (.int .i64 (m:Int))) none none).run Tryz.prog w=.ok (.slice sB (L-m) capB) w
 hra:Row w sA m (a.map fun y=>ptrV (kn y))
 hrb:Row w sB (L-m) (b.map fun y=>ptrV (kn y))
theorem partsK{B:Nat}{w:World}{n:Nat}{kn:Nat→Nat}{kv av:Nat→Value}{pl:Nat→Int}{lab:Nat→NodeD}{F:Wd}(h:Knots B w n kn kv av pl lab F){p:Nat}(hp:p<n)(a b:List Nat)(hl:F.kids p=a++b):∃s0 sA sB cap capA capB,PartsK w kn p a b s0 sA sB a.length (F.kids p).length cap capA capB:=by
 have hrow:=h.row p hp
 obtain⟨s,cap,g,hv,hcap,hcm,hs,hc,hsg,hs0⟩:=own_open hrow
 have c7:=(h.cells hp).2.2
 rw [hv]at c7
 have hL:(F.kids p).length=a.length+b.length:=by rw [hl];simp
 have hr1:∀A,(0<a.length→A=some ⟨g,0,none⟩)→Row w A a.length (a.map fun y=>ptrV (kn y)):=fun A hA=>by
  refine⟨by simp,by unfold maxLen;omega,fun h0=>⟨g,0,hA h0,fun i hi=>?_⟩⟩
  rw [Nat.zero_add,hc i (by omega),hl]
  simp [List.getD,hi,List.getElem?_append_left hi,ptrV]
 have hr2:∀A,(0<b.length→A=some ⟨g,a.length,none⟩)→Row w A ((F.kids p).length- a.length) (b.map fun y=>ptrV (kn y)):=fun A hA=>by
  have e:(F.kids p).length- a.length=b.length:=by omega
  rw [e]
  refine⟨by simp,by unfold maxLen;omega,fun h0=>⟨g,a.length,hA h0,fun i hi=>?_⟩⟩
  rw [hc (a.length+i) (by omega),hl]
  have :(a++b).getD (a.length+i) 0=b.getD i 0:=by
   rw [List.getD_eq_getElem?_getD,List.getElem?_append_right (by omega),show a.length+i-a.length=i by omega,List.getD_eq_getElem?_getD]
  rw [this]
  simp [List.getD,hi,ptrV]
 rcases hsg with rfl | rfl
 ·have h0:=hs0 rfl
  have ha:a.length=0:=by omega
  have hb:b.length=0:=by omega
  obtain rfl:a=[]:=List.eq_nil_of_length_eq_zero ha
  obtain rfl:b=[]:=List.eq_nil_of_length_eq_zero hb
  have e0:(F.kids p).length=0:=by omega
  subst h0
  rw [e0]at c7 ⊢
  exact⟨none,none,none,0,0,0,c7,rfl,rfl,Nat.le_refl _,fun w=>(slice_nilK w).1,fun w=>(slice_nilK w).2,⟨rfl,Nat.zero_le _,fun h=>by omega⟩,⟨rfl,Nat.zero_le _,fun h=>by omega⟩⟩
 ·obtain⟨A,hA1,hA2⟩:=slice_lo (g:=g) (L:=(F.kids p).length) (cap:=cap) (m:=a.length) (by omega) (a.length:Int) rfl
  exact⟨some ⟨g,0,none⟩,some ⟨g,0,none⟩,A,cap,cap,cap-a.length,c7,rfl,by omega,by omega,fun w=>slice_hi (by omega) w,hA1,hr1 _ (fun _=>rfl),hr2 _ (fun h0=>by
   rcases hA2 with h | ⟨h,_⟩
   ·exact h
   ·omega)⟩
set_option maxRecDepth 100000 in
set_option maxHeartbeats 4000000 in
theorem putK_more{B:Nat}{w0:World}{n:Nat}{kn:Nat→Nat}{kv0 av:Nat→Value}{pl:Nat→Int}{lab:Nat→NodeD}{F0:Wd}(h0:Knots B w0 n kn kv0 av pl lab F0)(hF0:WOk n F0)(hn:n≤900000){x p q:Nat}(hp:p<n)(hx:x<n)(hxp:x≠p)(hu:F0.up x=some q)(a b:List Nat)(hl:(F0.cut x).kids p=a++b){m:Nat}(hm:a.length=m):
  Calls Tryz.prog 108 #[.pointer (some ⟨kn p,0,none⟩),.int .i64 (m:Int),.pointer (some ⟨kn x,0,none⟩)] w0 (TurnKPost B n kn av pl lab ((F0.cut x).put p m x) w0):=by
 obtain⟨i0,hi,hz0,hz1,hz2⟩:=info_parts Tryz.infoKnotP
 obtain⟨a1,b1,hab⟩:=List.append_of_mem ((hF0.iff q x).2 hu)
 have hcn:=cutK_fresh h0 hF0 (by omega) hab
 have hfew:=hF0.cut x |>.few p
 have HCN:=Lib.hid hcn
 have HX:=Lib.hid (And.intro hp (And.intro hx hxp))
 have HLL:=Lib.hid (And.intro hl (And.intro hm hfew))
 clear hcn h0 hp hx hxp hl hu hF0 hab hm hfew
 go_enter Tryz.func108,Tryz.ntmps108
 go_wp2_with fail
 refine HCN.out.mono ?_
 rintro e w ⟨kv,rfl,hk1,ho1,_⟩
 obtain⟨F,hF⟩:∃F,F0.cut x=F:=⟨_,rfl⟩
 have hll:=HLL.out
 have hkk:=hk1.out
 rw [hF]at hll hkk
 have HFE:=Lib.hid hF
 have HO1:=ho1
 have H:=Lib.hid hkk
 obtain⟨s0,sA,sB,cap,capA,capB,hpt⟩:=partsK hkk HX.out.1 a b hll.1
 rw [hll.2.1]at hpt
 obtain⟨L,hLe⟩:∃L,(F.kids p).length=L:=⟨_,rfl⟩
 have hL9:=hll.2.2
 rw [hLe]at hpt hL9
 have hL:L≤1000000:=by omega
 have HL:=Lib.hid (And.intro hll.1 (And.intro hpt.hm hpt.hr))
 have HRA:=Lib.hid hpt.hra
 have HRB:=Lib.hid hpt.hrb
 have t1:=fun w=>(hpt.hs1 w).1
 have t1':=fun w=>(hpt.hs1 w).2
 have t2:=fun w=>(hpt.hs2 w).1
 have t2':=fun w=>(hpt.hs2 w).2
 have c7:=hpt.c7
 have hmL:=hpt.hmL
 have lp:=World.block_lt_of_cell? w _ c7
 clear hpt hll hkk hLe hL9 HLL HCN hF ho1 hk1
 have c7a:(w.alloc (.cells #[] 69)).cell? ⟨kn p,7,none⟩=some (.slice s0 L cap):=cell_alloc_old c7 _
 go_wp2_with (at_builtin;refine wpList_append_reads rfl _ _ 66 rfl w.heap.size 69 i0 (.pointer none) 8 Tryz.underlying66 hi hz0 hz1 hz2 rfl (some ⟨w.heap.size,0,none⟩) 0 0 [] rfl (owns_empty w w.heap.size (Nat.le_refl _) _) sA m capA (a.map fun y=>ptrV (kn y)) rfl (HRA.out.below ((Below.refl _ _).alloc (Nat.le_refl _) _)) ptrK_one (by unfold maxLen;omega) (by omega) (by simp) ?_)
 intro b2 c2 w2 hown2 hgrow2
 (try rw [Nat.zero_add,List.nil_append]at hown2)
 (try rw [Nat.zero_add])
 have hbel2:Below w.heap.size w w2:=((Below.refl _ _).alloc (Nat.le_refl _) _).grown hgrow2 (by simp) (fun q hq=>by simp [Value.ownBlock]at hq;omega)
 have hs2z:=hbel2.size
 have hownA:=World.ownsRow.alloc hown2 (.cells #[.pointer (some ⟨kn x,0,none⟩)] 69)
 have hnews:∀j u,[Value.pointer (some ⟨kn x,0,none⟩)][j]? =some u→(w2.alloc (.cells #[.pointer (some ⟨kn x,0,none⟩)] 69)).cell? ((⟨w2.heap.size,0,none⟩:Addr).add j)=some u:=
  World.news_of_block (cs:= #[.pointer (some ⟨kn x,0,none⟩)]) (t:=69) (fr:=(0,0)) (heap_alloc_new w2 _)
 have HOA:=Lib.hid hownA
 have HNEWS:=Lib.hid hnews
 have HB2:=Lib.hid (And.intro hbel2 hown2)
 clear hownA hnews hbel2 hown2 hgrow2 c7a
 go_wp2_with (at_builtin;refine wpList_append_lies _ rfl _ _ 66 rfl w.heap.size 69 i0 (.pointer none) 1 8 Tryz.underlying66 hi hz0 hz1 hz2 rfl (by decide) (.slice b2 m c2) m (a.map fun y=>ptrV (kn y)) rfl HOA.out ⟨w2.heap.size,0,none⟩ 1 1 [.pointer (some ⟨kn x,0,none⟩)] rfl rfl HNEWS.out (by simp [Value.oneCell']) (by omega) (by unfold maxLen;omega) (by omega) (by simp;omega) _ rfl ?_)
 intro g3 c3 w3 hown3 hgrow3 hat3 hlt3
 have hbel3:Below w.heap.size w w3:=(HB2.out.1.alloc hs2z _).grown hgrow3 (by simp;omega) (fun q hq=>(World.ownsRow.lt HOA.out q hq).1)
 have hs3z:=hbel3.size
 have c7b:=cell_below hbel3 c7
 have hrb3:=HRB.out.below hbel3
 have HO3:=Lib.hid (And.intro hown3 (And.intro hbel3 hrb3))
 clear hown3 hgrow3 hat3 hlt3 hbel3 hrb3 HOA HNEWS HB2 HRA HRB
 go_wp2_with (at_builtin;refine wpList_append_reads rfl _ _ 66 rfl w.heap.size 69 i0 (.pointer none) 8 Tryz.underlying66 hi hz0 hz1 hz2 rfl (some ⟨g3,0,none⟩) (m+1) c3 _ rfl HO3.out.1 sB (L-m) capB (b.map fun y=>ptrV (kn y)) rfl HO3.out.2.2 ptrK_one (by unfold maxLen;omega) (by omega) hs3z ?_)
 intro b4 c4 w4 hown4 hgrow4
 have hbel4:Below w.heap.size w w4:=HO3.out.2.1.grown hgrow4 hs3z (fun q hq=>(World.ownsRow.lt HO3.out.1 q hq).1)
 have hl:=HL.out
 have hE:=putK_end H.out HX.out.1 HX.out.2.1 hl.1 hbel4 hown4 (by rw [List.length_append,List.length_cons,hl.2.1,hl.2.2];omega) (by simp [ptrV])
 rw [hl.2.1]at hE
 have h4:=H.out.below hbel4
 have k7:=(h4.node p HX.out.1).free 7
 have k7c:=(h4.cells HX.out.1).2.2
 have hop:=h4.node p HX.out.1
 have hne:=H.out.ne HX.out.2.1 HX.out.1 HX.out.2.2
 have k6c:∀u,(w4.setCell ⟨kn p,7,none⟩ u).cell? ⟨kn x,6,none⟩=w4.cell? ⟨kn x,6,none⟩:=fun u=>cell_setCell_far hop 7 u hne
 have k6c':=fun u=>(k6c u).trans (h4.cells HX.out.2.1).2.1
 have k6:∀u,(w4.setCell ⟨kn p,7,none⟩ u).frozen? ⟨kn x,6,none⟩=false:=fun u=>by
  have h5:=h4.node x HX.out.2.1
  have h6:World.objAt (w4.setCell ⟨kn p,7,none⟩ u) (kn x) (knotCells (pl x) (lab x) (av x) ((F.up x).map kn) (kv x)) 97:=by
   unfold World.objAt at h5 ⊢
   rw [setCell_block hop 7 u hne]
   exact h5
  exact h6.free 6
 have HE:=Lib.hid hE
 clear hE hbel4 hown4 hgrow4 hl h4 hop hne k6c
 go_wp2
 go_end0
 have he:=HE.out.1
 rw [←HFE.out]at he
 exact⟨_,rfl,Lib.hid he,Lib.hid (HO1.out.trans HE.out.2)⟩
theorem ownG_onlyK{B B1:Nat}{w w':World}{n:Nat}{kn:Nat→Nat}{kv av:Nat→Value}{pl:Nat→Int}{lab:Nat→NodeD}{F:Wd}(hK:Knots B w n kn kv av pl lab F){e:TypeId}(hne:97≠e){v:Value}{N:Nat}{xs:List Value}(h:w.ownsRow B1 e 1 v N xs)(ho:OnlyK n kn w w'):w'.ownsRow B1 e 1 v N xs:=
 ownsRow_kept h (fun q hq=>ho.block q (World.ownsRow.lt h q hq).2 (fun i hi e=>objAt_ne_own (hK.node i hi) h hne (by rw [hq,e])))
theorem ownG_keptF{B1:Nat}{w w':World}{f:Nat}{cs:Array Value}(hf:World.objAt w f cs 68){e:TypeId}(hne:68≠e){v:Value}{N:Nat}{xs:List Value}(h:w.ownsRow B1 e 1 v N xs)(hk:KeptF f w w'):w'.ownsRow B1 e 1 v N xs:=
 ownsRow_kept h (fun q hq=>hk.block q (World.ownsRow.lt h q hq).2 (fun e=>objAt_ne_own hf h hne (by rw [hq,e])))
structure GroupsK (w:World) (B0:Nat) (gv:Value) (xs:List Nat) (kn:Nat→Nat) (k:Nat) (gb:Nat→Nat):Prop where
 row:w.ownsRow B0 66 1 gv k ((List.range k).map fun q=>.slice (some ⟨gb q,0,none⟩) 1 1)
 each:∀q,q<k→w.ownsRow B0 69 1 (.slice (some ⟨gb q,0,none⟩) 1 1) 1 [ptrV (kn (xs.getD q 0))]
theorem GroupsK.onlyK{B B0:Nat}{w w':World}{n:Nat}{kn kn0:Nat→Nat}{kv av:Nat→Value}{pl:Nat→Int}{lab:Nat→NodeD}{F:Wd}{gv:Value}{xs:List Nat}{k:Nat}{gb:Nat→Nat}(h:GroupsK w B0 gv xs kn0 k gb)(hK:Knots B w n kn kv av pl lab F)(ho:OnlyK n kn w w'):GroupsK w' B0 gv xs kn0 k gb:=
 ⟨ownG_onlyK hK (by decide) h.row ho,fun q hq=>ownG_onlyK hK (by decide) (h.each q hq) ho⟩
theorem GroupsK.keptF{B0:Nat}{w w':World}{f:Nat}{cs:Array Value}(hf:World.objAt w f cs 68){kn0:Nat→Nat}{gv:Value}{xs:List Nat}{k:Nat}{gb:Nat→Nat}(h:GroupsK w B0 gv xs kn0 k gb)(hk:KeptF f w w'):GroupsK w' B0 gv xs kn0 k gb:=
 ⟨ownG_keptF hf (by decide) h.row hk,fun q hq=>ownG_keptF hf (by decide) (h.each q hq) hk⟩
theorem GroupsK.below{B0:Nat}{w w':World}{kn0:Nat→Nat}{gv:Value}{xs:List Nat}{k:Nat}{gb:Nat→Nat}(h:GroupsK w B0 gv xs kn0 k gb)(hb:Below w.heap.size w w'):GroupsK w' B0 gv xs kn0 k gb:=
 ⟨ownsRow_kept h.row (fun b hb2=>hb.block b (World.ownsRow.lt h.row b hb2).2),fun q hq=>ownsRow_kept (h.each q hq) (fun b hb2=>hb.block b (World.ownsRow.lt (h.each q hq) b hb2).2)⟩
theorem Tryz.infoKnotS:(Tryz.prog.info? 66).map (fun i=>(i.zero,i.size,i.bytes))=some (some (.slice none 0 0),1,24):=by kernel_rfl
theorem put_new{m m2:Nat}{G:Wd}(hG:WOk m2 G)(hm:m<m2)(hold:∀i,i<m→∀q,G.up i=some q→q<m)(hr:G.up m=none){p:Nat}(hp:p<m)(i:Nat):WOk m2 (G.put p i m):=
 hG.put i (by omega) hm hr (fun ha=>by
  have key:∀q,q<m→∀c,Anc G c q→c<m:=fun q hq c hc=>by
   induction hc with
   | refl=>exact hq
   | @step a b hab _ ih=>exact ih (hold a hq b hab)
  have :=key p hp m ha
  omega)
theorem drop_cons{xs:List Nat}{i:Nat}(h:i<xs.length):xs.drop i=xs.getD i 0::xs.drop (i+1):=by
 rw [List.drop_eq_getElem_cons h,List.getD_eq_getElem?_getD,List.getElem?_eq_getElem h]
 rfl
theorem row_at{w:World}{B:Nat}{e:TypeId}{a:Option Addr}{N cap:Nat}{xs:List Value}(h:w.ownsRow B e 1 (.slice a N cap) N xs)(hN:0<N):∃g,a=some ⟨g,0,none⟩∧∀i u,xs[i]? =some u→w.cell? ⟨g,i,none⟩=some u:=by
 rcases h.2 with ⟨_,h2⟩ | ⟨g0,c0_,cur,hv_,_⟩
 ·omega
 ·simp only [Value.slice.injEq]at hv_
  obtain⟨rfl,_⟩:=hv_
  refine⟨g0,rfl,fun i u hu=>?_⟩
  have :=h.cells (g:=g0) rfl i u hu
  rwa [show(⟨g0,0,none⟩:Addr).add i=⟨g0,i,none⟩ by unfold Addr.add;split <;> simp_all]at this
end Go.Proofs.YtkdomegcacgpnaaGreat
