/- Parts of a proof: TakenAll. -/
import Derived.Test.YtkdomegcacgpnaaGreatG06
import Derived.Test.YtkdomegcacgpnaaGreatG11
import Derived.Test.YtkdomegcacgpnaaGreatG07
import Derived.Test.YtkdomegcacgpnaaGreatG09
import Derived.Test.YtkdomegcacgpnaaGreatG08
import Derived.Test.YtkdomegcacgpnaaGreatG37
import Derived.Test.YtkdomegcacgpnaaGreatG00
import Derived.Test.YtkdomegcacgpnaaGreatG03
import Derived.Test.YtkdomegcacgpnaaGreatG17
import Derived.Test.YtkdomegcacgpnaaGreatG27
import Derived.Test.YtkdomegcacgpnaaGreatG10
import Derived.Deep.LoopGhost
set_option linter.unusedVariables false
set_option linter.unusedSimpArgs false
namespace Go.Proofs.YtkdomegcacgpnaaGreat
open Go.RowKit
set_option maxRecDepth 100000 in
set_option maxHeartbeats 1000000 in
theorem placeAt_any(v:Value)(l:List Nat)(p:Nat)(w:World)(h:PtrsOf w v l)(hal:∀i,i<l.length→Alive w (l.getD i 0))(hp:Alive w p):
  Calls Tryz.prog 97 #[v,.pointer (some ⟨p,0,none⟩)] w (IntPost (findI l p) w):=by
 obtain⟨a,cap,b,off,rfl,hm,ha,hc⟩:=ptrs_open h
 have HA:=Lib.hid ha
 have HC:=Lib.hid hc
 have HAL:=Lib.hid hal
 have HP:=Lib.hid hp
 clear h ha hc hal hp
 go_enter Tryz.func97,Tryz.ntmps97
 go_wp2
 go_loop [8] (fun i=>∃k:Nat,k≤l.length∧i=.int .i64 (k:Int)∧findAt l p (l.length-k)=findI l p) (fun i=>l.length-(intOf i).toNat)
 case atStart=>exact⟨0,by omega,by go_num,rfl⟩
 case round=>
  obtain⟨k,hk,rfl,hf⟩:=hrel
  have HF:=Lib.hid hf
  clear hf
  by_cases hlt:k<l.length
  ·have hcur:=HC.out k hlt
   obtain rfl:=HA.out (by omega)
   have hkI:(k:Int)<(l.length:Int):=by omega
   by_cases he:l.getD k 0=p
   ·rw [he]at hcur
    have heq:=eql_same w p
    go_wp2
    go_ret
    have :=HF.out
    rw [findAt_step hlt,if_pos he]at this
    rw [←this]
    exact⟨rfl,rfl⟩
   ·obtain⟨x,hx⟩:∃x,l.getD k 0=x:=⟨_,rfl⟩
    rw [hx]at hcur he
    have heq:=eql_other (by rw [←hx];exact HAL.out k hlt) HP.out he
    have HX:=Lib.hid (And.intro hx he)
    clear hx he
    go_wp2
    go_round
    case rel=>exact⟨k+1,by omega,by go_num,by
      have :=HF.out
      rw [findAt_step hlt,HX.out.1,if_neg HX.out.2]at this
      exact this⟩
    case measure=>simp [intOf];omega
  ·obtain rfl:k=l.length:=by omega
   have hf:=HF.out
   go_wp2
   go_ret
   simp only [Nat.sub_self,findAt]at hf
   rw [←hf]
   exact⟨rfl,rfl⟩
def OwnZ(w:World)(B:Nat)(v:Value)(l:List Int):Prop:=w.ownsRow B 3 1 v l.length (l.map intZ)
def OwnZPost(l:List Int)(w:World)(e:Ending)(w':World):Prop:=∃v,e=.returned v∧Hid (OwnZ w' w.heap.size v l)∧Hid (Below w.heap.size w w')
theorem ownZ_snoc{w1:World}{B:Nat}{v':Value}{done:List Int}{z:Int}(h:w1.ownsRow B 3 1 v' (done.length+1) (List.map intZ done++[.int .i64 z])):OwnZ w1 B v' (done++[z]):=by
 unfold OwnZ
 simpa [intZ]using h
set_option maxRecDepth 100000 in
set_option maxHeartbeats 1000000 in
theorem placesAt_any(vl:Value)(L:List Nat)(v:Value)(l:List Nat)(w:World)(hL:PtrsOf w vl L)(hLa:∀i,i<L.length→Alive w (L.getD i 0))(h:PtrsOf w v l)(hla:∀i,i<l.length→Alive w (l.getD i 0))(hn:l.length≤200):
  Calls Tryz.prog 51 #[vl,v] w (OwnZPost (l.map fun p=>findI L p) w):=by
 obtain⟨a,cap,b,off,rfl,hm,ha,hc⟩:=ptrs_open h
 obtain⟨aL,capL,_,_,hvl,_⟩:=ptrs_open hL
 subst hvl
 have HA:=Lib.hid ha
 have HC:=Lib.hid hc
 have HL:=Lib.hid (And.intro hL (And.intro hLa hla))
 clear h ha hc hL hLa hla
 obtain⟨i0,hi,hz0,hz1,hz2⟩:=info_parts Tryz.infoInt
 go_enter Tryz.func51,Tryz.ntmps51
 go_wp2
 go_loopw [5,10] (fun x i wr=>∃(k:Nat) (done:List Int),i=.int .i64 k∧k≤l.length∧done.length=k∧(l.take k).map (fun p=>findI L p)=done∧OwnZ wr w.heap.size x done∧Below w.heap.size w wr)
  (fun _ i _=>l.length-(intOf i).toNat)
 case atStart=>exact⟨0,[],by go_num,by omega,rfl,rfl,World.ownsRow_nil _ _ _ _,Below.refl _ _⟩
 case round=>
  obtain⟨k,done,rfl,hk,hdl,hdone,hown,hbel⟩:=hrel
  have HDONE:=Lib.hid hdone
  have HOWN:=Lib.hid hown
  have HBEL:=Lib.hid hbel
  clear hdone hown hbel
  by_cases hlt:k<l.length
  ·obtain rfl:=HA.out (by omega)
   have ck:=cell_below HBEL.out (HC.out k hlt)
   have htk:=take_snoc hlt
   have hx:=HL.out.2.2 k hlt
   obtain⟨x,hxx⟩:∃x,l.getD k 0=x:=⟨_,rfl⟩
   rw [hxx]at ck htk hx
   have hpl:=placeAt_any _ L x wr (HL.out.1.below HBEL.out) (fun i hi=>(HL.out.2.1 i hi).below HBEL.out) (hx.below HBEL.out)
   obtain⟨z,hz⟩:∃z,findI L x=z:=⟨_,rfl⟩
   rw [hz]at hpl
   have hown':wr.ownsRow w.heap.size 3 1 u5 done.length (done.map intZ):=HOWN.out
   have HTK:=Lib.hid (And.intro htk hz)
   have HPL:=Lib.hid hpl
   have hkI:(k:Int)<(l.length:Int):=by omega
   clear htk hxx hpl hx hz
   go_wp2_with fail
   refine HPL.out.mono ?_
   rintro e w1 ⟨rfl,rfl⟩
   go_wp2_with (at_builtin;refine wpList_append_own _ rfl _ _ 23 rfl w.heap.size 3 i0 (.int .i64 0) 1 8 Tryz.underlying23 hi hz0 hz1 hz2 rfl (by decide) _ _ _ rfl (hown'.alloc _) ⟨wr.heap.size,0,none⟩ 1 1 [.int .i64 z] rfl rfl ?c1 ?c2 ?c3 ?c4 ?c5 ?_)
   case c1=>
    intro j u hj
    match j,hj with
    | 0,hj=>simp at hj;subst hj;simp [Addr.add]
   case c2=>intro u hu;simp at hu;subst hu;rfl
   case c3=>unfold maxLen;omega
   case c4=>omega
   case c5=>have :=HBEL.out.size;simp;omega
   intro v' w1 hown2 hgrow _
   have hbel2:Below w.heap.size w w1:=(HBEL.out.alloc HBEL.out.size _).grown hgrow (by have :=HBEL.out.size;simp;omega) (fun q hq=>(World.ownsRow.lt hown' q hq).1)
   rw [←hdl]at hown2
   have hsn:=ownZ_snoc (z:=z) hown2
   have H1:=Lib.hid (And.intro hsn hbel2)
   clear hown2 hgrow hbel2 hsn hown' ck HPL
   go_wp2
   go_roundw
   case rel=>
    exact⟨k+1,done++[z],by go_num,by omega,by simp;omega,by rw [HTK.out.1,List.map_append,HDONE.out,←HTK.out.2];rfl,H1.out.1,H1.out.2⟩
   case measure=>simp [intOf];omega
  ·obtain rfl:k=l.length:=by omega
   have hdone:=HDONE.out
   rw [List.take_length]at hdone
   have HO:Hid (OwnZ wr w.heap.size u5 (l.map fun p=>findI L p)):=by rw [hdone];exact HOWN
   clear hdone hlt HDONE
   go_wp2
   go_ret
   exact⟨_,rfl,HO,HBEL⟩
theorem find_pos{nb:Nat→Nat}{n:Nat}(hinj:∀i j,i<n→j<n→nb i=nb j→i=j){L:List Nat}(hd:L.Nodup)(hlt:∀y∈L,y<n){i:Nat}(hi:i<n):findI (L.map nb) (nb i)=posFrom L 0 i:=by
 have key:∀(l:List Nat) (N:Nat),i∈l→∃k,k<l.length∧l.getD k 0=i∧posFrom l N i=((N+k:Nat):Int):=by
  intro l
  induction l with
  | nil=>intro N h;cases h
  | cons y r ih=>
   intro N h
   by_cases e:y=i
   ·exact⟨0,by simp,by simpa using e,by simp [posFrom,e]⟩
   ·obtain⟨k,h1,h2,h3⟩:=ih (N+1) (by
     rcases List.mem_cons.1 h with h | h
     ·exact absurd h.symm e
     ·exact h)
    refine⟨k+1,by simp;omega,by simpa using h2,?_⟩
    simp only [posFrom,if_neg e]
    rw [h3]
    congr 1
    omega
 have hget:∀j,j<L.length→(L.map nb).getD j 0=nb (L.getD j 0):=fun j hj=>by simp [List.getD,hj]
 by_cases hm:i∈L
 ·obtain⟨k,h1,h2,h3⟩:=key L 0 hm
  rw [h3,Nat.zero_add]
  refine findI_some (by simpa using h1) (by rw [hget k h1,h2]) (fun j hj he=>?_)
  have hj':j<L.length:=by simpa using hj
  rw [hget j hj']at he
  have e:=hinj _ _ (hlt _ (getD_mem' hj')) hi he
  rw [←h2]at e
  simp only [List.getD_eq_getElem?_getD,List.getElem?_eq_getElem hj',List.getElem?_eq_getElem h1,Option.getD_some]at e
  exact(List.getElem_inj hd).1 e
 ·rw [posFrom_not _ _ hm]
  refine findI_none (fun h=>?_)
  obtain⟨y,hy,he⟩:=List.mem_map.1 h
  have :=hinj _ _ (hlt y hy) hi he
  subst this
  exact hm hy
end Go.Proofs.YtkdomegcacgpnaaGreat
namespace Go.Proofs.YtkdomegcacgpnaaGreat
open Go.RowKit
def KindOfPost(k:Int)(tag text:ByteArray)(l:KVs)(w:World)(e:Ending)(w':World):Prop:=∃pv,e=.returned (.agg #[.int .i64 k,.string tag,.string text,pv,.int .i64 0])∧Hid (OwnKV w' w.heap.size pv l)∧Hid (Below w.heap.size w w')
structure KindTag (W wr:World) (tag:ByteArray) (l:KVs) (k:Nat) (pv:Value):Prop where
 out:World.objAt wr (W.heap.size+1) #[.int .i64 3,.string tag,.string ⟨#[]⟩,pv,.int .i64 0] 38
 res:World.objAt wr W.heap.size #[.int .i64 0,.string ⟨#[]⟩,.string ⟨#[]⟩,.slice none 0 0,.int .i64 0] 38
 own:wr.ownsRow (W.heap.size+2) 61 2 pv k (kvCells (l.take k))
 bel:Below W.heap.size W wr
set_option maxRecDepth 100000 in
set_option maxHeartbeats 4000000 in
theorem kindOf_tag{B:Nat}(g:Nat)(r:NRec)(tag:ByteArray)(v:Value)(l:KVs)(w:World)(hn:World.nodeAt w g r)(h5:r.ty=3)(h7:r.data=tag)(h9:r.attr=v)(ho:w.ownsRow B 119 3 v l.length (attrCells l))(hl:l.length≤100):
  Calls Tryz.prog 96 #[.pointer (some ⟨g,0,none⟩)] w (KindOfPost 3 tag ⟨#[]⟩ l w):=by
 obtain⟨i0,hi,hz0,hz1,hz2⟩:=info_parts Tryz.infoKV
 obtain⟨a,cap,gr,hv,hm,ha,hc⟩:=attr_open ho
 have k5:=hn.ty
 have k7:=hn.data
 have k9:=hn.attr
 have hgl:=hn.lt
 rw [h5]at k5
 rw [h7]at k7
 rw [h9]at k9
 clear h5 h7 h9
 rw [hv]at k9
 have hb0:Below w.heap.size w ((w.alloc (.cells #[.int .i64 0,.string ⟨#[]⟩,.string ⟨#[]⟩,.slice none 0 0,.int .i64 0] 38)).alloc (.cells #[.int .i64 3,.string tag,.string ⟨#[]⟩,.slice none 0 0,.int .i64 0] 38)):=((Below.refl _ _).alloc (Nat.le_refl _) _).alloc (by simp) _
 have o1:=objAt_alloc_new (w.alloc (.cells #[.int .i64 0,.string ⟨#[]⟩,.string ⟨#[]⟩,.slice none 0 0,.int .i64 0] 38)) #[.int .i64 3,.string tag,.string ⟨#[]⟩,.slice none 0 0,.int .i64 0] 38
 rw [World.size_alloc]at o1
 have o0:=World.objAt.below (B:=w.heap.size+1) (objAt_alloc_new w #[.int .i64 0,.string ⟨#[]⟩,.string ⟨#[]⟩,.slice none 0 0,.int .i64 0] 38) ((Below.refl _ _).alloc (by simp) (.cells #[.int .i64 3,.string tag,.string ⟨#[]⟩,.slice none 0 0,.int .i64 0] 38)) (by omega)
 have H0:=Lib.hid (And.intro hb0 (And.intro o1 o0))
 have HA:=Lib.hid ha
 have HC:=Lib.hid hc
 have HL:=Lib.hid (And.intro hgl hl)
 clear hn ho hv ha hc hb0 o1 o0
 go_enter Tryz.func96,Tryz.ntmps96
 go_wp2
 go_loopw [46] (fun i wr=>∃(k:Nat) (pv:Value),k≤l.length∧i=.int .i64 (k:Int)∧KindTag w wr tag l k pv) (fun i _=>l.length-(intOf i).toNat)
 case atStart=>exact⟨0,.slice none 0 0,by omega,by go_num,H0.out.2.1,H0.out.2.2,World.ownsRow_nil _ _ _ _,H0.out.1⟩
 case round=>
  obtain⟨k,pv,hk,rfl,hK⟩:=hrel
  have HK:=Lib.hid hK
  by_cases hlt:k<l.length
  ·obtain rfl:=HA.out (by omega)
   obtain⟨c0,c1,c2⟩:=HC.out k hlt
   have c0:=cell_below hK.bel c0
   have c1:=cell_below hK.bel c1
   have c2:=cell_below hK.bel c2
   obtain⟨x,hxx⟩:∃x,(l.getD k default).1=x:=⟨_,rfl⟩
   obtain⟨y,hyy⟩:∃y,(l.getD k default).2=y:=⟨_,rfl⟩
   rw [hxx]at c1
   rw [hyy]at c2
   have hsz:=World.objAt.lt hK.out
   obtain⟨wx,hwx⟩:∃wx,wr.alloc (.cells #[.string ByteArray.empty,.string x,.string y] 119)=wx:=⟨_,rfl⟩
   have hbx:Below wr.heap.size wr wx:=by rw [←hwx];exact(Below.refl _ _).alloc (Nat.le_refl _) _
   have e1:wx.cell? ⟨wr.heap.size,1,none⟩=some (.string x):=by rw [←hwx];exact cell_alloc_new' _ _ _ rfl rfl
   have e2:wx.cell? ⟨wr.heap.size,2,none⟩=some (.string y):=by rw [←hwx];exact cell_alloc_new' _ _ _ rfl rfl
   have ox:World.objAt wx (w.heap.size+1) #[.int .i64 3,.string tag,.string ⟨#[]⟩,pv,.int .i64 0] 38:=hK.out.below hbx hsz
   have e3:wx.cell? ⟨w.heap.size+1,3,none⟩=some pv:=World.objAt.cell ox (i:=3) rfl
   have hsx:=World.objAt.lt ox
   have hownX:wx.ownsRow (w.heap.size+2) 61 2 pv k (kvCells (l.take k)):=ownsRow_kept hK.own (fun q hq=>hbx.block q (World.ownsRow.lt hK.own q hq).2)
   have hownW:(wx.alloc (.cells #[.string x,.string y] 61)).ownsRow (w.heap.size+2) 61 2 pv k (kvCells (l.take k)):=World.ownsRow.alloc hownX _
   have hnews:∀j u,[Value.string x,.string y][j]? =some u→(wx.alloc (.cells #[.string x,.string y] 61)).cell? ((⟨wx.heap.size,0,none⟩:Addr).add j)=some u:=
    World.news_of_block (cs:= #[.string x,.string y]) (t:=61) (fr:=(0,0)) (heap_alloc_new wx _)
   have hne:some (w.heap.size+1)≠pv.ownBlock:=fun e=>by have :=(World.ownsRow.lt hownX _ e.symm).1;omega
   have hne0:some w.heap.size≠pv.ownBlock:=fun e=>by have :=(World.ownsRow.lt hownX _ e.symm).1;omega
   have e3a:(wx.alloc (.cells #[.string x,.string y] 61)).cell? ⟨w.heap.size+1,3,none⟩=some pv:=cell_alloc_old e3 _
   have oxa:World.objAt (wx.alloc (.cells #[.string x,.string y] 61)) (w.heap.size+1) #[.int .i64 3,.string tag,.string ⟨#[]⟩,pv,.int .i64 0] 38:=ox.below ((Below.refl _ _).alloc (Nat.le_refl _) _) hsx
   have orx:World.objAt (wx.alloc (.cells #[.string x,.string y] 61)) w.heap.size #[.int .i64 0,.string ⟨#[]⟩,.string ⟨#[]⟩,.slice none 0 0,.int .i64 0] 38:=(hK.res.below hbx (by omega)).below ((Below.refl _ _).alloc (Nat.le_refl _) _) (by omega)
   have hbxa:Below w.heap.size w (wx.alloc (.cells #[.string x,.string y] 61)):=by
    have h1:=hK.bel.trans (hbx.mono hK.bel.size)
    exact h1.alloc h1.size _
   have HX:=Lib.hid (And.intro hxx hyy)
   have HW:=Lib.hid hownW
   have HNEWS:=Lib.hid hnews
   have HNE:=Lib.hid (And.intro hne hne0)
   have HO:=Lib.hid (And.intro oxa (And.intro orx hbxa))
   have HE3:=Lib.hid e3a
   have hsx2:w.heap.size+2≤wx.heap.size+1:=by omega
   have hl100:=HL.out.2
   clear hK hxx hyy hbx ox hownX hownW hnews hne hne0 e3a oxa orx hbxa k5 k7 k9 H0
   go_wp2_with (at_builtin;refine wpList_append_lies _ rfl _ _ 36 rfl (w.heap.size+2) 61 i0 (.agg #[.string ByteArray.empty,.string ByteArray.empty]) 2 32 Tryz.underlying36 hi hz0 hz1 hz2 rfl (by decide) pv k (kvCells (l.take k)) rfl HW.out ⟨wx.heap.size,0,none⟩ 1 1 [.string x,.string y] rfl rfl HNEWS.out (by simp [Value.oneCell']) (by omega) (by unfold maxLen;omega) (by omega) (by simp;omega) _ rfl ?_)
   intro g2 cap2 w2 hown2 hgrow hat hlt2
   have oo:World.objAt w2 (w.heap.size+1) #[.int .i64 3,.string tag,.string ⟨#[]⟩,pv,.int .i64 0] 38:=by
    have h1:=HO.out.1
    unfold World.objAt at h1 ⊢
    rw [hgrow.block (w.heap.size+1) (by simp;omega) HNE.out.1];exact h1
   have or2:World.objAt w2 w.heap.size #[.int .i64 0,.string ⟨#[]⟩,.string ⟨#[]⟩,.slice none 0 0,.int .i64 0] 38:=by
    have h1:=HO.out.2.1
    unfold World.objAt at h1 ⊢
    rw [hgrow.block w.heap.size (by simp;omega) HNE.out.2];exact h1
   have hc3:w2.cell? ⟨w.heap.size+1,3,none⟩=some pv:=World.objAt.cell oo (i:=3) rfl
   have hf3:w2.frozen? ⟨w.heap.size+1,3,none⟩=false:=oo.free 3
   have hb2:Below w.heap.size w w2:=HO.out.2.2.grown hgrow (by have :=HO.out.2.2.size;exact this) (fun q hq=>by have :=(World.ownsRow.lt HW.out q hq).1;omega)
   have hK2:∀nv,nv=.slice (some ⟨g2,0,none⟩) (k+1) cap2→KindTag w (w2.setCell ⟨w.heap.size+1,3,none⟩ nv) tag l (k+1) nv:=fun nv hnv=>by
    refine⟨?_,?_,?_,?_⟩
    ·exact oo.set 3 nv
    ·exact or2.below ((Below.refl (w.heap.size+1) w2).setCell (p:=⟨w.heap.size+1,3,none⟩) (Nat.le_refl _) nv) (by omega)
    ·rw [take_succ_getD _ default hlt,kvCells_snoc,HX.out.1,HX.out.2,hnv]
     exact ownsRow_setCell_below hown2 (by simp) _
    ·exact Below.setCell (p:=⟨w.heap.size+1,3,none⟩) hb2 (by simp) nv
   have HK2:=Lib.hid hK2
   clear oo or2 hb2 hK2 hown2 hgrow hat hlt2
   go_wp2
   go_roundw
   case rel=>exact⟨k+1,_,by omega,by go_num,HK2.out _ rfl⟩
   case measure=>simp [intOf];omega
  ·obtain rfl:k=l.length:=by omega
   obtain⟨pa,pc,rfl⟩:=ownsRow_slice hK.own
   have q0:wr.cell? ⟨w.heap.size+1,0,none⟩=some (.int .i64 3):=hK.out.cell (i:=0) rfl
   have q1:wr.cell? ⟨w.heap.size+1,1,none⟩=some (.string tag):=hK.out.cell (i:=1) rfl
   have q2:wr.cell? ⟨w.heap.size+1,2,none⟩=some (.string ⟨#[]⟩):=hK.out.cell (i:=2) rfl
   have q3:wr.cell? ⟨w.heap.size+1,3,none⟩=some (.slice pa l.length pc):=hK.out.cell (i:=3) rfl
   have q4:wr.cell? ⟨w.heap.size+1,4,none⟩=some (.int .i64 0):=hK.out.cell (i:=4) rfl
   have r0:wr.cell? ⟨w.heap.size,0,none⟩=some (.int .i64 0):=hK.res.cell (i:=0) rfl
   have r1:wr.cell? ⟨w.heap.size,1,none⟩=some (.string ⟨#[]⟩):=hK.res.cell (i:=1) rfl
   have r2:wr.cell? ⟨w.heap.size,2,none⟩=some (.string ⟨#[]⟩):=hK.res.cell (i:=2) rfl
   have r3:wr.cell? ⟨w.heap.size,3,none⟩=some (.slice none 0 0):=hK.res.cell (i:=3) rfl
   have r4:wr.cell? ⟨w.heap.size,4,none⟩=some (.int .i64 0):=hK.res.cell (i:=4) rfl
   have f0:=fun o=>hK.res.free o
   have hwl:=World.objAt.lt hK.res
   clear hK hlt k5 k7 k9 H0
   go_wp2
   refine bodyPost_ret (v:=.agg #[.int .i64 3,.string tag,.string ⟨#[]⟩,.slice pa l.length pc,.int .i64 0]) ?_ rfl ?_
   ·rw [results_cell1 rfl]
    go_simp
    try rfl
   ·have hown:=HK.out.own
    rw [List.take_length]at hown
    have hs:∀{x:World} (h:x.ownsRow (w.heap.size+2) 61 2 (.slice pa l.length pc) l.length (kvCells l)) (o:Nat) (u:Value),(x.setCell ⟨w.heap.size,o,none⟩ u).ownsRow (w.heap.size+2) 61 2 (.slice pa l.length pc) l.length (kvCells l):=fun h o u=>ownsRow_setCell_below h (by simp) u
    have hh:∀{x:World} (h:Below w.heap.size w x) (o:Nat) (u:Value),Below w.heap.size w (x.setCell ⟨w.heap.size,o,none⟩ u):=fun h o u=>Below.setCell h (Nat.le_refl _) u
    exact⟨_,rfl,Lib.hid (ownsRow_base (hs (hs (hs (hs (hs hown _ _) _ _) _ _) _ _) _ _) (by omega)),Lib.hid (hh (hh (hh (hh (hh HK.out.bel _ _) _ _) _ _) _ _) _ _)⟩
set_option maxRecDepth 100000 in
set_option maxHeartbeats 4000000 in
theorem kindOf_doc(g:Nat)(r:NRec)(d:ByteArray)(w:World)(hn:World.nodeAt w g r)(h5:r.ty=2)(h7:r.data=d):
  Calls Tryz.prog 96 #[.pointer (some ⟨g,0,none⟩)] w (KindOfPost 1 ⟨#[]⟩ ⟨#[]⟩ [] w):=by
 have k5:=hn.ty
 rw [h5]at k5
 have k7:=hn.data
 rw [h7]at k7
 have hgl:=hn.lt
 clear hn h5 h7
 go_enter Tryz.func96,Tryz.ntmps96
 go_wp2
 refine bodyPost_ret (v:=.agg #[.int .i64 1,.string ⟨#[]⟩,.string ⟨#[]⟩,.slice none 0 0,.int .i64 0]) ?_ rfl ?_
 ·rw [results_cell1 rfl]
  go_simp
  try rfl
 ·exact⟨_,rfl,Lib.hid (World.ownsRow_nil _ _ _ _),Lib.hid ((Below.refl _ _).alloc (Nat.le_refl _) _)⟩
set_option maxRecDepth 100000 in
set_option maxHeartbeats 4000000 in
theorem kindOf_doctype(g:Nat)(r:NRec)(d:ByteArray)(w:World)(hn:World.nodeAt w g r)(h5:r.ty=5)(h7:r.data=d):
  Calls Tryz.prog 96 #[.pointer (some ⟨g,0,none⟩)] w (KindOfPost 2 ⟨#[]⟩ d [] w):=by
 have k5:=hn.ty
 rw [h5]at k5
 have k7:=hn.data
 rw [h7]at k7
 have hgl:=hn.lt
 clear hn h5 h7
 go_enter Tryz.func96,Tryz.ntmps96
 go_wp2
 refine bodyPost_ret (v:=.agg #[.int .i64 2,.string ⟨#[]⟩,.string d,.slice none 0 0,.int .i64 0]) ?_ rfl ?_
 ·rw [results_cell1 rfl]
  go_simp
  try rfl
 ·exact⟨_,rfl,Lib.hid (World.ownsRow_nil _ _ _ _),Lib.hid ((Below.refl _ _).alloc (Nat.le_refl _) _)⟩
set_option maxRecDepth 100000 in
set_option maxHeartbeats 4000000 in
theorem kindOf_text(g:Nat)(r:NRec)(d:ByteArray)(w:World)(hn:World.nodeAt w g r)(h5:r.ty=1)(h7:r.data=d):
  Calls Tryz.prog 96 #[.pointer (some ⟨g,0,none⟩)] w (KindOfPost 4 ⟨#[]⟩ d [] w):=by
 have k5:=hn.ty
 rw [h5]at k5
 have k7:=hn.data
 rw [h7]at k7
 have hgl:=hn.lt
 clear hn h5 h7
 go_enter Tryz.func96,Tryz.ntmps96
 go_wp2
 refine bodyPost_ret (v:=.agg #[.int .i64 4,.string ⟨#[]⟩,.string d,.slice none 0 0,.int .i64 0]) ?_ rfl ?_
 ·rw [results_cell1 rfl]
  go_simp
  try rfl
 ·exact⟨_,rfl,Lib.hid (World.ownsRow_nil _ _ _ _),Lib.hid ((Below.refl _ _).alloc (Nat.le_refl _) _)⟩
set_option maxRecDepth 100000 in
set_option maxHeartbeats 4000000 in
theorem kindOf_comment(g:Nat)(r:NRec)(d:ByteArray)(w:World)(hn:World.nodeAt w g r)(h5:r.ty=4)(h7:r.data=d):
  Calls Tryz.prog 96 #[.pointer (some ⟨g,0,none⟩)] w (KindOfPost 5 ⟨#[]⟩ d [] w):=by
 have k5:=hn.ty
 rw [h5]at k5
 have k7:=hn.data
 rw [h7]at k7
 have hgl:=hn.lt
 clear hn h5 h7
 go_enter Tryz.func96,Tryz.ntmps96
 go_wp2
 refine bodyPost_ret (v:=.agg #[.int .i64 5,.string ⟨#[]⟩,.string d,.slice none 0 0,.int .i64 0]) ?_ rfl ?_
 ·rw [results_cell1 rfl]
  go_simp
  try rfl
 ·exact⟨_,rfl,Lib.hid (World.ownsRow_nil _ _ _ _),Lib.hid ((Below.refl _ _).alloc (Nat.le_refl _) _)⟩
theorem empty_list{b:ByteArray}(h:b.toList=[]):b=⟨#[]⟩:=by
 rw [ByteArray.toList_eq]at h
 cases b with
 | mk d=>
  have :d= #[]:=by
   have h2:d.toList=[]:=h
   exact Array.toList_inj.1 (by simpa using h2)
  rw [this]
structure KindOk (n:NodeD):Prop where
 kinds:n.kind=1∨n.kind=2∨n.kind=3∨n.kind=4∨n.kind=5
 bare:n.kind≠3→n.tag.toList=[]∧n.attrs=[]
 few:n.attrs.length≤100
 txt:n.kind=3∨n.kind=1→n.text.toList=[]
theorem NodeOk.kindOk{n:NodeD}{z a:Nat}(h:NodeOk n z a):KindOk n:=by
 refine⟨?_,h.bare,?_,h.txt⟩
 ·rcases h.kinds with h | h | h | h | h
  ·exact .inl h.1
  ·exact .inr (.inl h.1)
  ·exact .inr (.inr (.inl h))
  ·exact .inr (.inr (.inr (.inl h.1)))
  ·exact .inr (.inr (.inr (.inr h.1)))
 ·by_cases h3:n.kind=3
  ·have :=(h.attrs h3).1;omega
  ·rw [(h.bare h3).2];exact Nat.zero_le _
theorem kindOf_nodeK{B:Nat}(g:Nat)(r:NRec)(n:NodeD)(hk:KindOk n)(w:World)(hn:World.nodeAt w g r)(h5:r.ty=tyOf n.kind)(h7:r.data=dataOf n)(ho:w.ownsRow B 119 3 r.attr n.attrs.length (attrCells n.attrs)):
  Calls Tryz.prog 96 #[.pointer (some ⟨g,0,none⟩)] w (KindOfPost n.kind n.tag n.text n.attrs w):=by
 by_cases h3:n.kind=3
 ·have e1:n.text=⟨#[]⟩:=empty_list (hk.txt (.inl h3))
  rw [e1,h3]
  rw [h3]at h5
  have e2:dataOf n=n.tag:=by unfold dataOf;rw [h3];rfl
  rw [e2]at h7
  exact kindOf_tag g r n.tag r.attr n.attrs w hn h5 h7 rfl ho hk.few
 ·obtain⟨ht,ha⟩:=hk.bare h3
  have e1:n.tag=⟨#[]⟩:=empty_list ht
  rw [e1,ha]
  rcases hk.kinds with h | h | h | h | h
  ·have e2:n.text=⟨#[]⟩:=empty_list (hk.txt (.inr h))
   rw [h]at h5
   rw [e2,h]
   exact kindOf_doc g r _ w hn h5 h7
  ·rw [h]at h5
   have e2:dataOf n=n.text:=by unfold dataOf;rw [h];rfl
   rw [e2]at h7
   rw [h]
   exact kindOf_doctype g r _ w hn h5 h7
  ·exact absurd h h3
  ·rw [h]at h5
   have e2:dataOf n=n.text:=by unfold dataOf;rw [h];rfl
   rw [e2]at h7
   rw [h]
   exact kindOf_text g r _ w hn h5 h7
  ·rw [h]at h5
   have e2:dataOf n=n.text:=by unfold dataOf;rw [h];rfl
   rw [e2]at h7
   rw [h]
   exact kindOf_comment g r _ w hn h5 h7
end Go.Proofs.YtkdomegcacgpnaaGreat
namespace Go.Proofs.YtkdomegcacgpnaaGreat
open Go.RowKit
structure BegunAt (W w:World) (g bl len:Nat) (nb:Nat→Nat) (vv:Nat→Value) (ts:List NodeD) (s:Nat):Prop where
 forest:Forest W.heap.size w bl len nb vv ts
 obj:World.objAt w g #[.slice (some ⟨bl,0,none⟩) len len,.pointer (some ⟨s,0,none⟩)] 53
 bel:Below W.heap.size W w
 base:W.heap.size≤g
def BegunPost(ts:List NodeD)(len:Nat)(W:World)(e:Ending)(w:World):Prop:=
 ∃g bl nb vv s d,e=.returned (.tuple #[.pointer (some ⟨g,0,none⟩),.bool true])∧Hid (BegunAt W w g bl len nb vv ts s)∧w.cell? ⟨s,0,none⟩=some (.slice none 0 0)∧w.cell? ⟨s,1,none⟩=some (.pointer (some ⟨d,0,none⟩))
set_option maxRecDepth 100000 in
set_option maxHeartbeats 1000000 in
theorem begun_any(W:World)(a:Option Addr)(len cap:Nat)(ts:List NodeD)(hR:RightT ts len)(hN:Nodes W a len ts):
  Calls Tryz.prog 16 #[.slice a len cap] W (BegunPost ts len W):=by
 have hlen:=hR.le
 have hpos:=hR.pos
 have hg:=grown_any W a len cap ts hR hN
 have HG:=Lib.hid hg
 clear hg hR hN
 go_enter Tryz.func16,Tryz.ntmps16
 go_wp2_with fail
 refine HG.out.mono ?_
 rintro e w1 ⟨bl,nb,vv,rfl,hF,hb⟩
 have hbs:=hb.out.size
 have c0:=hF.out.cell hpos
 clear HG
 go_wp2_with fail
 refine(newDoc_any _ _).mono ?_
 rintro e w2 ⟨d,s,a,rfl,k0,k1,k2,hb2⟩
 have HB2:=Lib.hid hb2
 clear hb2 c0
 go_wp2_with fail
 refine(eq1_any s d a w2 k1 k2).mono ?_
 rintro e w3 ⟨s3,rfl,m0,m1,hb3⟩
 have hb13:Below w1.heap.size w1 w3:=HB2.out.trans (hb3.mono HB2.out.size)
 have hF3:=hF.out.below hb13
 have hb03:Below W.heap.size W w3:=hb.out.trans (hb13.mono hbs)
 have hbs3:=hb03.size
 have H3:=Lib.hid (And.intro hF3 hb03)
 clear hb3 hb13 hF3 hb03 k0 k1 k2
 go_wp2
 go_ret2
 refine⟨w3.heap.size,bl,nb,vv,s3,d,rfl,Lib.hid ⟨H3.out.1.below ((Below.refl _ _).alloc (Nat.le_refl _) _),objAt_alloc_new w3 _ _,H3.out.2.alloc hbs3 _,hbs3⟩,cell_alloc_old m0 _,cell_alloc_old m1 _⟩
end Go.Proofs.YtkdomegcacgpnaaGreat
namespace Go.Proofs.YtkdomegcacgpnaaGreat
open Go.RowKit
def outD(lab:Nat→NodeD)(D:List (Nat×Nat×Value)):List Value:=D.flatMap fun y=>nodeCells (lab y.1) y.2.2 (y.2.1:Int)
def szs(D:List (Nat×Nat×Value)):List (Nat×Nat):=D.map fun y=>(y.1,y.2.1)
theorem outD_append(lab:Nat→NodeD)(C D:List (Nat×Nat×Value)):outD lab (C++D)=outD lab C++outD lab D:=by simp [outD]
theorem szs_append(C D:List (Nat×Nat×Value)):szs (C++D)=szs C++szs D:=by simp [szs]
theorem szs_len(D:List (Nat×Nat×Value)):(szs D).length=D.length:=by simp [szs]
def KeepKV(w w':World):Prop:=∀(b:Nat) (cur:Array Value) (fr:Nat×Nat),w.heap[b]? =some (Obj.cells cur 61 fr)→w'.heap[b]? =w.heap[b]?
theorem KeepKV.refl(w:World):KeepKV w w:=fun _ _ _ _=>rfl
theorem KeepKV.trans{a b c:World}(h:KeepKV a b)(h':KeepKV b c):KeepKV a c:=fun k cur fr hk=>(h' k cur fr ((h k cur fr hk).trans hk)).trans (h k cur fr hk)
theorem KeepKV.of_below{w w':World}(h:Below w.heap.size w w'):KeepKV w w':=fun k cur fr hk=>h.block k (Array.getElem?_eq_some_iff.1 hk).1
theorem KeepKV.grown{w w':World}{B:Nat}{e:TypeId}{size:Nat}{v:Value}{n:Nat}{xs:List Value}(hg:w.grownBy w' v.ownBlock)(ho:w.ownsRow B e size v n xs)(hne:e≠61):KeepKV w w':=fun k cur fr hk=>by
 refine hg.block k (Array.getElem?_eq_some_iff.1 hk).1 (fun he=>?_)
 obtain⟨c2,h2⟩:=ownsRow_type ho he.symm
 rw [hk]at h2
 simp only [Option.some.injEq,Obj.cells.injEq]at h2
 exact hne h2.2.1.symm
theorem KeepKV.set{w:World}{B:Nat}{e:TypeId}{size g n cap:Nat}{xs:List Value}(ho:w.ownsRow B e size (.slice (some ⟨g,0,none⟩) n cap) n xs)(hne:e≠61)(o:Nat)(u:Value):KeepKV w (w.setCell ⟨g,o,none⟩ u):=fun k cur fr hk=>by
 refine heap_setCell_other w ⟨g,o,none⟩ k _ (fun he=>?_)
 obtain⟨c2,h2⟩:=ownsRow_type ho (b:=g) rfl
 simp only at he
 rw [←he,hk]at h2
 simp only [Option.some.injEq,Obj.cells.injEq]at h2
 exact hne h2.2.1.symm
theorem OwnKV.keep{w w':World}{B:Nat}{v:Value}{l:KVs}(h:OwnKV w B v l)(hk:KeepKV w w'):OwnKV w' B v l:=ownsRow_kept h (fun b hb=>by
 obtain⟨cur,hc⟩:=ownsRow_type h hb
 exact hk b cur (0,0) hc)
theorem taken_step{w w1 w2 w3:World}{B:Nat}{tv lv tv2 pv:Value}{N:Nat}{cells cells2 L:List Value}{l:KVs}{O1 O2:Obj}(ht:w.ownsRow B 38 5 tv N cells)(hl:w.ownsRow B 75 1 lv N L)(hb1:Below w.heap.size w w1)(hkv:OwnKV w1 w.heap.size pv l)
  (g2:(w1.alloc O1).grownBy w2 tv.ownBlock) (o2:w2.ownsRow B 38 5 tv2 (N+1) cells2):
  (w1.alloc O1).ownsRow B 75 1 lv N L∧w2.ownsRow B 75 1 lv N L∧KeepKV w w2∧OwnKV w2 w.heap.size pv l∧(∀b,b<w.heap.size→some b≠tv.ownBlock→w2.heap[b]? =w.heap[b]?)∧
  ((w2.alloc O2).grownBy w3 lv.ownBlock→w3.ownsRow B 38 5 tv2 (N+1) cells2∧KeepKV w w3∧OwnKV w3 w.heap.size pv l∧(∀b,b<w.heap.size→some b≠tv.ownBlock→some b≠lv.ownBlock→w3.heap[b]? =w.heap[b]?)):=by
 have hbs:=hb1.size
 have ht1:(w1.alloc O1).ownsRow B 38 5 tv N cells:=World.ownsRow.alloc (ownsRow_kept ht (fun k hk=>hb1.block k (World.ownsRow.lt ht k hk).2)) _
 have hl1:(w1.alloc O1).ownsRow B 75 1 lv N L:=World.ownsRow.alloc (ownsRow_kept hl (fun k hk=>hb1.block k (World.ownsRow.lt hl k hk).2)) _
 have hl2:w2.ownsRow B 75 1 lv N L:=ownsRow_kept hl1 (fun k hk=>g2.block k (World.ownsRow.lt hl1 k hk).2 (fun e=>own_ne_own hl1 ht1 (by decide) hk e.symm))
 have k01:KeepKV w w1:=KeepKV.of_below hb1
 have k1a:KeepKV w1 (w1.alloc O1):=KeepKV.of_below ((Below.refl _ _).alloc (Nat.le_refl _) _)
 have ka2:=KeepKV.grown g2 ht1 (by decide)
 have hf2:∀b,b<w.heap.size→some b≠tv.ownBlock→w2.heap[b]? =w.heap[b]? :=fun b hb hne=>by
  rw [g2.block b (by simp;omega) hne,Below.heap_alloc _ _ _ (by omega),hb1.block b hb]
 refine⟨hl1,hl2,(k01.trans k1a).trans ka2,(hkv.keep k1a).keep ka2,hf2,fun g3=>?_⟩
 have hl2a:(w2.alloc O2).ownsRow B 75 1 lv N L:=World.ownsRow.alloc hl2 _
 have ht2a:(w2.alloc O2).ownsRow B 38 5 tv2 (N+1) cells2:=World.ownsRow.alloc o2 _
 have k2a:KeepKV w2 (w2.alloc O2):=KeepKV.of_below ((Below.refl _ _).alloc (Nat.le_refl _) _)
 have ka3:=KeepKV.grown g3 hl2a (by decide)
 have hs2:=g2.size
 simp only [World.size_alloc]at hs2
 refine⟨ownsRow_kept ht2a (fun k hk=>g3.block k (World.ownsRow.lt ht2a k hk).2 (fun e=>own_ne_own ht2a hl2a (by decide) hk e.symm)),(((k01.trans k1a).trans ka2).trans k2a).trans ka3,(((hkv.keep k1a).keep ka2).keep k2a).keep ka3,fun b hb h1 h2=>?_⟩
 rw [g3.block b (by simp;omega) h2,Below.heap_alloc _ _ _ (by omega),hf2 b hb h1]
def TakenPost(lab:Nat→NodeD)(nb:Nat→Nat)(W:World)(N:Nat)(cells:List Value)(ps:List Nat)(C:List (Nat×Nat))(w:World)(e:Ending)(w':World):Prop:=
 ∃tv lv D,e=.returned (.tuple #[tv,lv])∧szs D=C∧Hid (w'.ownsRow W.heap.size 38 5 tv (N+D.length) (cells++outD lab D))∧Hid (w'.ownsRow W.heap.size 75 1 lv (N+D.length) ((ps++C.map (·.1)).map fun y=>ptrV (nb y)))∧Hid (∀y∈D,OwnKV w' W.heap.size y.2.2 (lab y.1).attrs)∧Hid (Below W.heap.size W w')∧Hid (KeepKV w w')
set_option maxRecDepth 100000 in
set_option maxHeartbeats 8000000 in
theorem taken_anyK{B:Nat}{W:World}{n:Nat}{nb:Nat→Nat}{v:Nat→Value}{lab:Nat→NodeD}{F:Wd}(hD:DomAt B W n nb v lab F)(hF:WOk n F)(hok:∀i,i<n→KindOk (lab i)):
  ∀(m x:Nat) (C:List (Nat×Nat)) (tv lv:Value) (N:Nat) (cells:List Value) (ps:List Nat) (w:World),x<n→Fs F.kids [x] C→C.length≤m→N+C.length≤100000→
   w.ownsRow W.heap.size 38 5 tv N cells→w.ownsRow W.heap.size 75 1 lv N (ps.map fun y=>ptrV (nb y))→Below W.heap.size W w→
   Calls Tryz.prog 50 #[.pointer (some ⟨nb x,0,none⟩),tv,lv] w (TakenPost lab nb W N cells ps C w):=by
 intro m
 induction m with
 | zero=>
  intro x C tv lv N cells ps w _ hC hm
  obtain⟨A,rfl,_⟩:=hC.one_inv
  simp at hm
 | succ m ih=>
  intro x C tv lv N cells ps w hx hC hm hN ht hl hbel
  obtain⟨A,hCA,hA⟩:=hC.one_inv
  obtain⟨i0,hi,hz0,hz1,hz2⟩:=info_parts Tryz.infoNode
  obtain⟨j0,hj,hy0,hy1,hy2⟩:=info_parts Tryz.infoPtr
  have hDw:=hD.below hbel
  have hnode:=hDw.node x hx
  have hoka:=hok x hx
  have hkind:=kindOf_nodeK (nb x) _ (lab x) hoka w hnode rfl rfl (hDw.own x hx)
  have hcl:cells.length=N*5:=ht.1
  obtain⟨sl,scap,rfl⟩:=ownsRow_slice ht
  obtain⟨ll,lcap,rfl⟩:=ownsRow_slice hl
  have hAl:A.length+1=C.length:=by rw [hCA];simp
  have hnd:=hF.nd x
  have f1:=(hD.node x hx).fst
  obtain⟨K,hKK⟩:∃K,F.kids x=K:=⟨_,rfl⟩
  have e1:(linkR F nb (lab x) (v x) x).fst=K.head?.map nb:=by simp only [linkR,hKK]
  rw [e1]at f1
  rw [hKK]at hA hnd
  have hKn:∀y∈K,y<n∧W.cell? ⟨nb y,4,none⟩=some (lk ((nxtIn K y).map nb)):=fun y hy=>by
   have hy':y∈F.kids x:=by rw [hKK];exact hy
   have h1:=(hF.lt x y hy').2
   refine⟨h1,?_⟩
   have h2:=(hD.node y h1).nxt
   have h3:(linkR F nb (lab y) (v y) y).nxt=(nxtIn K y).map nb:=by simp only [linkR,(hF.iff x y).1 hy',Option.bind_some,hKK]
   rwa [h3]at h2
  obtain⟨kd_,hkd⟩:∃q,(lab x).kind=q:=⟨_,rfl⟩
  obtain⟨tg,htg⟩:∃q,(lab x).tag=q:=⟨_,rfl⟩
  obtain⟨tx,htx⟩:∃q,(lab x).text=q:=⟨_,rfl⟩
  have HLAB:=Lib.hid (And.intro hkd (And.intro htg htx))
  rw [hkd,htg,htx]at hkind
  have HF1:=Lib.hid f1
  have HKN:=Lib.hid hKn
  have HND:=Lib.hid hnd
  have HA:=Lib.hid (show Fs F.kids K A from hA)
  have HCA:=Lib.hid hCA
  have HIH:=Lib.hid ih
  have HCL:=Lib.hid hcl
  have HT:=Lib.hid (And.intro ht hl)
  have HB:=Lib.hid hbel
  have HKIND:=Lib.hid hkind
  have hAl2:A.length≤m:=by omega
  have hNl:N+A.length+1≤100000:=by omega
  have hbel0:=hbel.size
  clear hDw hnode hkind hoka ht hl hbel hKn hnd f1 hkd htg htx hKK hA hCA hC ih hcl e1 hm hN
  go_enter Tryz.func50,Tryz.ntmps50
  go_wp2_with fail
  refine HKIND.out.mono ?_
  rintro e w1 ⟨pv,rfl,hpv,hb1⟩
  obtain⟨pa,pc,rfl⟩:=ownsRow_slice hpv.out
  obtain⟨al,hal⟩:∃q,(lab x).attrs.length=q:=⟨_,rfl⟩
  have HAL:=Lib.hid hal
  rw [hal]at hpv ⊢
  clear hal
  have hb1s:=hb1.out.size
  have hownA:(w1.alloc (.cells #[.int .i64 kd_,.string tg,.string tx,.slice pa al pc,.int .i64 0] 38)).ownsRow W.heap.size 38 5 (.slice sl N scap) N cells:=World.ownsRow.alloc (ownsRow_kept HT.out.1 (fun k hk=>hb1.out.block k (World.ownsRow.lt HT.out.1 k hk).2)) _
  have hnews:∀j u,[Value.int .i64 kd_,.string tg,.string tx,.slice pa al pc,.int .i64 0][j]? =some u→(w1.alloc (.cells #[.int .i64 kd_,.string tg,.string tx,.slice pa al pc,.int .i64 0] 38)).cell? ((⟨w1.heap.size,0,none⟩:Addr).add j)=some u:=
   World.news_of_block (cs:= #[.int .i64 kd_,.string tg,.string tx,.slice pa al pc,.int .i64 0]) (t:=38) (fr:=(0,0)) (heap_alloc_new w1 _)
  have HOA:=Lib.hid hownA
  have HNEWS:=Lib.hid hnews
  clear hownA hnews
  go_wp2_with (at_builtin;refine wpList_append_lies _ rfl _ _ 22 rfl W.heap.size 38 i0 (.agg #[.int .i64 0,.string ByteArray.empty,.string ByteArray.empty,.slice none 0 0,.int .i64 0]) 5 72 Tryz.underlying22 hi hz0 hz1 hz2 rfl (by decide) (.slice sl N scap) N cells rfl HOA.out ⟨w1.heap.size,0,none⟩ 1 1 [.int .i64 kd_,.string tg,.string tx,.slice pa al pc,.int .i64 0] rfl rfl HNEWS.out (by simp [Value.oneCell']) (by omega) (by unfold maxLen;omega) (by omega) (by simp;omega) _ rfl ?_)
  intro g2 cap2 w2 hown2 hgrow2 hat2 hlt2
  have HPV:=Lib.hid (show OwnKV w1 w.heap.size (.slice pa al pc) (lab x).attrs by have :=hpv.out;exact this)
  have hst:=fun w3=>taken_step (w3:=w3) (O2:=.cells #[.pointer (some ⟨nb x,0,none⟩)] 75) HT.out.1 HT.out.2 hb1.out HPV.out hgrow2 hown2
  have hs2:=hgrow2.size
  simp only [World.size_alloc]at hs2
  have hlA:(w2.alloc (.cells #[.pointer (some ⟨nb x,0,none⟩)] 75)).ownsRow W.heap.size 75 1 (.slice ll N lcap) N (ps.map fun y=>ptrV (nb y)):=World.ownsRow.alloc (hst w2).2.1 _
  have hnews2:∀j u,[Value.pointer (some ⟨nb x,0,none⟩)][j]? =some u→(w2.alloc (.cells #[.pointer (some ⟨nb x,0,none⟩)] 75)).cell? ((⟨w2.heap.size,0,none⟩:Addr).add j)=some u:=
   World.news_of_block (cs:= #[.pointer (some ⟨nb x,0,none⟩)]) (t:=75) (fr:=(0,0)) (heap_alloc_new w2 _)
  have hbw2:Below W.heap.size W w2:=((HB.out.trans (hb1.out.mono hbel0)).alloc (by omega) _).grown hgrow2 (by simp;omega) (fun q hq=>(World.ownsRow.lt HOA.out q hq).1)
  have HST:=Lib.hid hst
  have HLA:=Lib.hid hlA
  have HNEWS2:=Lib.hid hnews2
  have HO2:=Lib.hid hown2
  have HB2:=Lib.hid hbw2
  clear hst hlA hnews2 hown2 hgrow2 hat2 hlt2 hbw2 HOA HNEWS HPV hpv HKIND
  go_wp2_with (at_builtin;refine wpList_append_lies _ rfl _ _ 48 rfl W.heap.size 75 j0 (.pointer none) 1 8 Tryz.underlying48 hj hy0 hy1 hy2 rfl (by decide) (.slice ll N lcap) N (ps.map fun y=>ptrV (nb y)) rfl HLA.out ⟨w2.heap.size,0,none⟩ 1 1 [.pointer (some ⟨nb x,0,none⟩)] rfl rfl HNEWS2.out (by simp [Value.oneCell']) (by omega) (by unfold maxLen;omega) (by omega) (by simp;omega) _ rfl ?_)
  intro g3 cap3 w3 hown3 hgrow3 hat3 hlt3
  obtain⟨q1,q2,q3,q4⟩:=(HST.out w3).2.2.2.2.2 hgrow3
  have hbw3:Below W.heap.size W w3:=(HB2.out.alloc HB2.out.size _).grown hgrow3 (by simp;omega) (fun q hq=>(World.ownsRow.lt HLA.out q hq).1)
  have f1:=cell_below hbw3 HF1.out
  have HQ:=Lib.hid (And.intro q1 (And.intro q2 (ownsRow_base q3 hbel0)))
  have H3:=Lib.hid (And.intro hown3 hbw3)
  clear q1 q2 q3 q4 hown3 hgrow3 hat3 hlt3 hbw3 HST HLA HNEWS2 HO2
  go_wp2
  go_loopg [1,2,9] (K.length) (fun gk tv lv cv wr=>∃(k:Nat) (D:List (Nat×Nat×Value)),gk=K.length-k∧k≤K.length∧cv=lk ((K.drop k).head?.map nb)∧Hid (Fs F.kids (K.take k) (szs D))∧D.length≤A.length∧Hid (wr.ownsRow W.heap.size 38 5 tv (N+1+D.length) (cells++(nodeCells (lab x) (.slice pa al pc) 0++outD lab D)))∧Hid (wr.ownsRow W.heap.size 75 1 lv (N+1+D.length) ((ps++(x::(szs D).map (·.1))).map fun y=>ptrV (nb y)))∧Hid (∀y∈D,OwnKV wr W.heap.size y.2.2 (lab y.1).attrs)∧Hid (OwnKV wr W.heap.size (.slice pa al pc) (lab x).attrs)∧Hid (Below W.heap.size W wr)∧Hid (KeepKV w wr))
  case atStart=>
   refine⟨0,[],rfl,by omega,by simp,Lib.hid .nil,by simp,Lib.hid ?_,Lib.hid ?_,Lib.hid (fun y hy=>by cases hy),Lib.hid HQ.out.2.2,Lib.hid H3.out.2,Lib.hid HQ.out.2.1⟩
   ·have h1:=HQ.out.1
    simp only [nodeCells,HLAB.out.1,HLAB.out.2.1,HLAB.out.2.2,outD,List.flatMap_nil,List.append_nil,List.length_nil,Nat.add_zero]
    exact h1
   ·have h1:=H3.out.1
    simpa [szs,ptrV]using h1
  case round=>
   obtain⟨k,D,rfl,hk,rfl,HD2,hDl,HO,HL,HDK,HPK,HBEL,HKP⟩:=hrel
   clear f1
   obtain⟨so,sc,rfl⟩:=ownsRow_slice HO.out
   obtain⟨lo,lc,rfl⟩:=ownsRow_slice HL.out
   by_cases hlt:k<K.length
   ·have htk:=take_snoc hlt
    obtain⟨hyn,hny⟩:=HKN.out _ (getD_mem' (d:=0) hlt)
    obtain⟨y,hy⟩:∃y,K.getD k 0=y:=⟨_,rfl⟩
    rw [hy]at htk hyn hny
    have hdr:K.drop k=y::K.drop (k+1):=by
     rw [List.drop_eq_getElem_cons hlt]
     congr 1
     rw [←hy,List.getD_eq_getElem?_getD,List.getElem?_eq_getElem hlt]
     rfl
    have hnx:nxtIn K y=(K.drop (k+1)).head? :=by
     have h1:K=K.take k++y::K.drop (k+1):=by rw [←hdr,List.take_append_drop]
     have h2:=HND.out
     rw [h1]at h2
     have h3:=nxtIn_app (c:=K.drop (k+1)) (K.take k) (nd_parts h2).1
     rwa [←h1]at h3
    rw [hnx]at hny
    obtain⟨D1,D2,hDD,hf1,hf2⟩:∃D1 D2,A=D1++D2∧Fs F.kids (K.take k++[y]) D1∧Fs F.kids (K.drop (k+1)) D2:=by
     have :=HA.out
     rw [←List.take_append_drop (k+1) K,htk]at this
     exact this.split
    obtain⟨E1,E2,hE,hg1,hg2⟩:=hf1.split
    obtain rfl:E1=szs D:=hg1.det HD2.out
    subst hE
    have hAlen:A.length=D.length+E2.length+D2.length:=by rw [hDD];simp [szs_len];omega
    have hcall:=HIH.out y E2 (.slice so (N+1+D.length) sc) (.slice lo (N+1+D.length) lc) (N+1+D.length) _ (ps++(x::(szs D).map (·.1))) wr hyn hg2 (by omega) (by omega) HO.out HL.out HBEL.out
    have HC:=Lib.hid hcall
    have HTK:=Lib.hid (And.intro htk (And.intro hg1 hg2))
    have HAL2:=Lib.hid hAlen
    have HNY:=Lib.hid hny
    rw [hdr,List.head?_cons,Option.map_some,lk_some]
    clear hcall htk hf1 hf2 hg1 hg2 hDD hy hyn hny hnx hAlen hdr
    go_wp2_with fail
    refine HC.out.mono ?_
    rintro e w5 ⟨tv5,lv5,D5,rfl,hD5,ho5,hl5,hk5,hb5,hkp5⟩
    have HO5:=Lib.hid (show w5.ownsRow W.heap.size 38 5 tv5 (N+1+(D++D5).length) (cells++(nodeCells (lab x) (.slice pa al pc) 0++outD lab (D++D5))) by
     have :=ho5.out
     rw [outD_append,List.length_append,←Nat.add_assoc]
     simpa only [List.append_assoc]using this)
    have HL5:=Lib.hid (show w5.ownsRow W.heap.size 75 1 lv5 (N+1+(D++D5).length) ((ps++(x::(szs (D++D5)).map (·.1))).map fun y=>ptrV (nb y)) by
     have :=hl5.out
     rw [szs_append,hD5,List.length_append,←Nat.add_assoc]
     simpa only [List.append_assoc,List.map_append,List.cons_append,List.map_cons]using this)
    have HK5:=Lib.hid (show ∀y∈D++D5,OwnKV w5 W.heap.size y.2.2 (lab y.1).attrs from fun y hy=>by
     rcases List.mem_append.1 hy with h | h
     ·exact(HDK.out y h).keep hkp5.out
     ·exact hk5.out y h)
    have HP5:=Lib.hid (HPK.out.keep hkp5.out)
    have HKP5:=Lib.hid (HKP.out.trans hkp5.out)
    have HFS:=Lib.hid (show Fs F.kids (K.take (k+1)) (szs (D++D5)) by rw [HTK.out.1,szs_append,hD5];exact HTK.out.2.1.append HTK.out.2.2)
    have hlen5:(D++D5).length≤A.length:=by
     have h1:D5.length=E2.length:=by rw [←szs_len D5,hD5]
     have :=HAL2.out
     rw [List.length_append]
     omega
    have n5:=cell_below hb5.out HNY.out
    clear ho5 hl5 hk5 hkp5 hD5 HC
    go_wp2
    go_roundg (K.length-(k+1))
    case measure=>omega
    case rel=>exact⟨k+1,D++D5,rfl,by omega,by rw [List.head?_drop],HFS,hlen5,HO5,HL5,HK5,HP5,hb5,HKP5⟩
   ·obtain rfl:k=K.length:=by omega
    have hDA:szs D=A:=by
     have :=HD2.out
     rw [List.take_length]at this
     exact this.det HA.out
    rw [List.drop_length,List.head?_nil,Option.map_none,lk_none]
    have ho6:=HO.out
    obtain⟨go_,hso⟩:∃go_,so=some ⟨go_,0,none⟩:=by
     rcases ho6.2 with ⟨h1,h2⟩ | ⟨g0,c0_,cur,hv_,_⟩
     ·omega
     ·simp at hv_;exact⟨g0,hv_.1⟩
    subst hso
    have hclen:=HCL.out
    have hv9:(N:Int)+1+(D.length:Int)-(N:Int)=(D.length:Int)+1:=by omega
    have hset:=ownsRow_set ho6 (i:=N*5+4) (by omega) (.int .i64 ((N:Int)+1+(D.length:Int)-(N:Int)))
    rw [set_last hclen,show nodeCells (lab x) (.slice pa al pc) ((N:Int)+1+(D.length:Int)-(N:Int))=nodeCells (lab x) (.slice pa al pc) ((D.length:Int)+1) by rw [hv9]]at hset
    have hfr:=own_free ho6 (N*5+4)
    have hgo:=World.ownsRow.lt ho6 go_ rfl
    have hcs:=own_cell ho6 (i:=N*5+4) (by rw [ho6.1];omega)
    obtain⟨u9,hu9⟩:∃u,(cells++(nodeCells (lab x) (.slice pa al pc) 0++outD lab D))[N*5+4]'(by rw [ho6.1];omega)=u:=⟨_,rfl⟩
    rw [hu9]at hcs
    have hks:=KeepKV.set ho6 (by decide) (N*5+4) (.int .i64 ((N:Int)+1+(D.length:Int)-(N:Int)))
    have hlF:(wr.setCell ⟨go_,N*5+4,none⟩ (.int .i64 ((N:Int)+1+(D.length:Int)-(N:Int)))).ownsRow W.heap.size 75 1 (.slice lo (N+1+D.length) lc) (N+1+D.length) ((ps++(x::(szs D).map (·.1))).map fun y=>ptrV (nb y)):=ownsRow_kept HL.out (fun k hk=>heap_setCell_other wr ⟨go_,N*5+4,none⟩ k _ (fun e=>by
     simp only at e
     exact own_ne_own HL.out ho6 (by decide) hk (by rw [←e];rfl)))
    have hbF:Below W.heap.size W (wr.setCell ⟨go_,N*5+4,none⟩ (.int .i64 ((N:Int)+1+(D.length:Int)-(N:Int)))):=Below.setCell (p:=⟨go_,N*5+4,none⟩) HBEL.out hgo.1 _
    have HF9:=Lib.hid (And.intro hset (And.intro hlF (And.intro hbF hks)))
    have HDA:=Lib.hid hDA
    have hNI:(N:Int)<(N:Int)+1+(D.length:Int):=by omega
    clear hset hlF hbF hks ho6 hu9 hclen hgo hv9 hDA
    go_wp2
    go_ret2
    refine⟨_,_,(x,D.length+1,.slice pa al pc)::D,rfl,?_,Lib.hid ?_,Lib.hid ?_,Lib.hid ?_,Lib.hid HF9.out.2.2.1,Lib.hid (HKP.out.trans HF9.out.2.2.2)⟩
    ·rw [HCA.out,←HDA.out]
     simp [szs]
    ·have h1:=HF9.out.1
     have e2:outD lab ((x,D.length+1,.slice pa al pc)::D)=nodeCells (lab x) (.slice pa al pc) ((D.length:Int)+1)++outD lab D:=rfl
     rw [e2,show N+((x,D.length+1,Value.slice pa al pc)::D).length=N+1+D.length by simp;omega]
     exact h1
    ·have h1:=HF9.out.2.1
     rw [HCA.out,←HDA.out,show N+((x,D.length+1,Value.slice pa al pc)::D).length=N+1+D.length by simp;omega]
     exact h1
    ·intro y hy
     rcases List.mem_cons.1 hy with rfl | hy
     ·exact HPK.out.keep HF9.out.2.2.2
     ·exact(HDK.out y hy).keep HF9.out.2.2.2
end Go.Proofs.YtkdomegcacgpnaaGreat
namespace Go.Proofs.YtkdomegcacgpnaaGreat
open Go.RowKit
structure OutAt (w:World) (B:Nat) (v:Value) (lab:Nat→NodeD) (C:List (Nat×Nat)):Prop where
 ex:∃D,szs D=C∧w.ownsRow B 38 5 v D.length (outD lab D)∧∀y∈D,OwnKV w B y.2.2 (lab y.1).attrs
theorem OutAt.below{w w':World}{B:Nat}{v:Value}{lab:Nat→NodeD}{C:List (Nat×Nat)}(h:OutAt w B v lab C)(hb:Below w.heap.size w w'):OutAt w' B v lab C:=by
 obtain⟨D,h1,h2,h3⟩:=h.ex
 exact⟨D,h1,ownsRow_kept h2 (fun k hk=>hb.block k (World.ownsRow.lt h2 k hk).2),fun y hy=>(h3 y hy).below hb⟩
theorem OutAt.base{w:World}{B B':Nat}{v:Value}{lab:Nat→NodeD}{C:List (Nat×Nat)}(h:OutAt w B v lab C)(hB:B'≤B):OutAt w B' v lab C:=by
 obtain⟨D,h1,h2,h3⟩:=h.ex
 exact⟨D,h1,ownsRow_base h2 hB,fun y hy=>ownsRow_base (h3 y hy) hB⟩
theorem OwnZ.below{w w':World}{B:Nat}{v:Value}{l:List Int}(h:OwnZ w B v l)(hb:Below w.heap.size w w'):OwnZ w' B v l:=ownsRow_kept h (fun k hk=>hb.block k (World.ownsRow.lt h k hk).2)
theorem row_ptrs{w:World}{bl n:Nat}{nb:Nat→Nat}(hn:n≤200)(h:∀i,i<n→w.cell? ⟨bl,i,none⟩=some (.pointer (some ⟨nb i,0,none⟩))):PtrsOf w (.slice (some ⟨bl,0,none⟩) n n) ((List.range n).map nb):=by
 refine⟨some ⟨bl,0,none⟩,n,by simp,by simp,by unfold maxLen;omega,by simp,by unfold maxLen;simp;omega,fun h0=>⟨bl,0,rfl,fun i hi=>?_⟩⟩
 have hi':i<n:=by simpa using hi
 rw [Nat.zero_add,h i hi']
 simp [List.getD,hi',ptrV]
def EndsPost(lab:Nat→NodeD)(n:Nat)(C:List (Nat×Nat))(W:World)(e:Ending)(w':World):Prop:=
 ∃tv pv,e=.returned (.tuple #[tv,pv])∧Hid (OutAt w' W.heap.size tv lab C)∧Hid (OwnZ w' W.heap.size pv (placesW n C))∧Hid (Below W.heap.size W w')
theorem BegunAt.kept{W w w':World}{g bl len:Nat}{nb:Nat→Nat}{vv:Nat→Value}{ts:List NodeD}{s:Nat}(h:BegunAt W w g bl len nb vv ts s)(ho:OnlyN len nb w w'):
  w'.cell? ⟨g,0,none⟩=some (.slice (some ⟨bl,0,none⟩) len len)∧(∀i,i<len→w'.cell? ⟨bl,i,none⟩=some (.pointer (some ⟨nb i,0,none⟩)))∧Below W.heap.size W w':=by
 have hnode:∀i,i<len→World.nodeAt w (nb i) _:=fun i hi=>h.forest.node hi
 have hg:w'.heap[g]? =w.heap[g]? :=ho.block g (fun i hi e=>by
  have h1:=h.obj
  have h2:=hnode i hi
  unfold World.objAt at h1
  unfold World.nodeAt at h2
  rw [e,h2]at h1
  simp only [NRec.obj,Option.some.injEq,Obj.cells.injEq]at h1
  exact absurd h1.2.1 (by decide))
 obtain⟨arr,r1,r2,r3⟩:=h.forest.row
 have hbl:w'.heap[bl]? =w.heap[bl]? :=ho.block bl (fun i hi e=>by
  have h2:=hnode i hi
  unfold World.nodeAt at h2
  rw [e,h2]at r1
  simp only [NRec.obj,Option.some.injEq,Obj.cells.injEq]at r1
  exact absurd r1.2.1 (by decide))
 refine⟨?_,fun i hi=>?_,h.bel.trans (ho.below _ (fun i hi=>h.forest.seg.base i (Nat.zero_le _) hi))⟩
 ·exact(World.cell?_of_block hg).trans (h.obj.cell (i:=0) rfl)
 ·exact(World.cell?_of_block hbl).trans (h.forest.cell hi)
end Go.Proofs.YtkdomegcacgpnaaGreat
