/- Parts of a proof: ManyRem, ManyTog. -/
import Derived.Test.YtkdomegcacgpnaaGreatG40
set_option linter.unusedVariables false
set_option linter.unusedSimpArgs false
namespace Go.Proofs.YtkdomegcacgpnaaGreat
open Go.RowKit
set_option maxRecDepth 100000 in
set_option maxHeartbeats 8000000 in
theorem remMany_any{B n:Nat}(h0:0<n){w:World}{nb:Nat→Nat}{v:Nat→Value}{lab:Nat→NodeD}{F:Wd}(h:DomAt B w n nb v lab F)(l:List Nat)(hin:∀x∈l,x<n)(hnd:Once l)(hln:l.length≤200)(m s:Nat)(hm:m≤60)(hs:s≤15000000000000)(hgood:∀x∈l,(lab x).kind=3∧GoodC (lab x).attrs (Wc (lab x).attrs) m s)
  {sp sg scap:Nat} {sa:Option Addr} (hsa:0<l.length→sa=some ⟨sg,0,none⟩) (c0:w.cell? ⟨sp,0,none⟩=some (.slice sa l.length scap)) (crow:∀i,i<l.length→w.cell? ⟨sg,i,none⟩=some (.pointer (some ⟨nb (l.getD i 0),0,none⟩))) (hne:0<l.length→∀i,i<n→sg≠nb i∧(v i).ownBlock≠some sg)
  (a:Option Addr) (xs:List ByteArray) (c:Nat) (hx:NamesAt w a xs c):
  Calls Tryz.prog 39 #[.pointer (some ⟨sp,0,none⟩),.slice a xs.length c] w (ManyPost lessW (xs.map (·.data.toList)) (m+1) (s+1100000000000) sp B n nb v lab F l w):=by
 have hJ:=join_any a xs c w hx
 have HJ:=Lib.hid hJ
 have HX:=Lib.hid hx
 have hnE:xs.map (·.data.toList)≠[]:=fun e=>by
  have h1:=hx.pos
  have h2:=congrArg List.length e
  simp at h2
  rw [h2]at h1
  simp at h1
 have HNE:=Lib.hid hnE
 have HD:=Lib.hid h
 have HIN:=Lib.hid (And.intro hin (And.intro hnd hgood))
 have HSA:=Lib.hid (And.intro hsa (And.intro crow hne))
 clear hJ hx h hin hnd hgood hsa crow hne hnE
 go_enter Tryz.func39,Tryz.ntmps39
 go_wp2_with fail
 refine HJ.out.mono ?_
 rintro e w1 ⟨r1,rfl,hr1,hb1,hz1,hbel1⟩
 have HT:=Lib.hid (trim_any r1 w1 (by omega) (cls_at hb1.out))
 go_wp2_with fail
 refine HT.out.mono ?_
 rintro e w2 ⟨r2,rfl,hr2,hz2,hbel2⟩
 have hw2:wl r2.data.toList=xs.map (·.data.toList):=by rw [hr2,wl_bare];exact hr1.out
 have hc2:∀b∈r2.data.toList,clsB b:=fun b hb=>by rw [hr2]at hb;exact hb1.out b (bare_sub hb)
 have gE:r2.toList.isEmpty=false:=ne_of_words hw2 HNE.out
 have hF:=slice_any r2 w2 (by omega) (cls_at hc2)
 have HF:=Lib.hid hF
 have HB2:=Lib.hid (hbel1.out.trans (hbel2.mono hbel1.out.size))
 have HW2:=Lib.hid hw2
 clear hw2 hc2 hF HT hr2 hbel2 hbel1 hr1 hb1 HJ
 go_wp2_with fail
 refine HF.out.mono ?_
 rintro e w3 ⟨tv,ws,rfl,how,hws,hbel3⟩
 have hwsx:ws.map (·.data.toList)=xs.map (·.data.toList):=by rw [hws.out,HW2.out]
 have hb23:Below w.heap.size w w3:=HB2.out.trans (hbel3.out.mono HB2.out.size)
 have c03:=cell_below hb23 c0
 have hown3:=how.out
 obtain⟨ta,tc,rfl,htc,htcells⟩:=how.out.open
 have htb:∀b off,ta=some ⟨b,off,none⟩→w2.heap.size≤b∧b<w3.heap.size:=fun b off e=>by
  subst e
  exact World.ownsRow.lt hown3 b rfl
 have hlx:ws.length=xs.length:=by have :=congrArg List.length hwsx;simpa using this
 have hD3:=HD.out.below hb23
 have hlt2:∀i,i<n→nb i<w2.heap.size∧∀b,(v i).ownBlock=some b→b<w2.heap.size:=fun i hi=>⟨by have :=(HD.out.node i hi).lt;have :=HB2.out.size;omega,fun b hb=>by have :=(World.ownsRow.lt (HD.out.own i hi) b hb).2;have :=HB2.out.size;omega⟩
 have hB3:B≤w3.heap.size:=by have h1:=HD.out.base 0 h0;have h2:=(HD.out.node 0 h0).lt;have h3:=hb23.size;omega
 have hrow:0<l.length→∀(w9:World),OnlyC B n nb v w3 w9→∀i,i<l.length→w9.cell? ⟨sg,i,none⟩=some (.pointer (some ⟨nb (l.getD i 0),0,none⟩)):=fun hl0 w9 ho i hi=>by
  have hc:=cell_below hb23 (HSA.out.2.1 i hi)
  exact(World.cell?_of_block (ho.block sg (World.block_lt_of_cell? w3 _ hc) (fun i hi=>(HSA.out.2.2 hl0 i hi).1) (fun i hi=>(HSA.out.2.2 hl0 i hi).2))).trans hc
 have htc9:∀(w9:World),OnlyC B n nb v w3 w9→∀j,j<ws.length→∃b off,ta=some ⟨b,off,none⟩∧w9.cell? ⟨b,off+j,none⟩=some (.string (ws.getD j ByteArray.empty)):=fun w9 ho j hj=>by
  obtain⟨b,off,rfl,hc⟩:=htcells.2 (by omega)
  obtain⟨h1,h2⟩:=htb b off rfl
  exact⟨b,off,rfl,(World.cell?_of_block (ho.block b h2 (fun i hi e=>by have :=(hlt2 i hi).1;omega) (fun i hi e=>by have :=(hlt2 i hi).2 b e;omega))).trans (hc j hj)⟩
 have HROW:=Lib.hid hrow
 have HTC:=Lib.hid htc9
 have HWX:=Lib.hid (And.intro hwsx hlx)
 have HB23:=Lib.hid hb23
 have HMID:=Lib.hid (ClsMid.start (op:=lessW) (N:=xs.map (·.data.toList)) (m:=m+1) (s:=s+1100000000000) hD3)
 have hf8:=HX.out.few
 have hle8:ws.length≤1048576:=by omega
 clear how hws hbel3 hown3 htcells htb hwsx hlx hb23 hD3 hlt2 hrow htc9 HB2 HW2 HF c0 htc hf8
 go_wp2
 go_loopw [28] (fun iv wr=>∃(i:Nat) (v':Nat→Value) (lab':Nat→NodeD),iv=.int .i64 (i:Int)∧i≤l.length∧Hid (ClsMid lessW (xs.map (·.data.toList)) (m+1) (s+1100000000000) B n nb v lab F w3 wr (l.take i) v' lab')) (fun iv _=>l.length-(intOf iv).toNat)
 case atStart=>exact⟨0,v,lab,by go_num,by omega,HMID⟩
 case round=>
  obtain⟨i,v',lab',rfl,hi,HU⟩:=hrel
  clear HMID c03
  by_cases hlt:i<l.length
  ·have hym:=getD_mem' (d:=0) hlt
   have hyn:=HIN.out.1 _ hym
   have hyg:=HIN.out.2.2 _ hym
   obtain rfl:=HSA.out.1 (by omega)
   have ck:=HROW.out (by omega) wr HU.out.only i hlt
   have hnot':l.getD i 0∉l.take i:=HIN.out.2.1.notin hlt
   have hsn:l.take (i+1)=l.take i++[l.getD i 0]:=take_snoc hlt
   obtain⟨y,hy⟩:∃y,l.getD i 0=y:=⟨_,rfl⟩
   rw [hy]at ck hyn hyg hnot' hsn
   have hlab:=(HU.out.labs y).1 hnot'
   have hBr:B≤wr.heap.size:=Nat.le_trans hB3 HU.out.only.size
   have hgc:=getClasses_any B (nb y) (linkR F nb (lab' y) (v' y) y) (lab' y).attrs wr (HU.out.dom.node y hyn) (by show tyOf (lab' y).kind=3;rw [hlab,hyg.1];rfl) (HU.out.dom.own y hyn) hBr (by rw [hlab];have :=hyg.2.len;omega) (fun z hz=>by rw [hlab]at hz;have :=(hyg.2.size z hz).2;omega)
   have HGC:=Lib.hid hgc
   have HGD:=Lib.hid hyg.2
   have HN:=Lib.hid (And.intro hyn (And.intro hnot' (And.intro hsn hlab)))
   have HBr:=Lib.hid hBr
   obtain⟨X,hX⟩:∃X,nb y=X:=⟨_,rfl⟩
   rw [hX]at ck HGC
   have HXX:=Lib.hid hX
   have hiI:(i:Int)<(l.length:Int):=by omega
   clear hgc hym hyn hyg hnot' hsn hy hX hlab hBr
   go_wp2_with fail
   refine HGC.out.mono ?_
   rintro e w4 ⟨cc,val,gr,k,cap,l1,rfl,hcc,hat,hkl,hre⟩
   rw [HN.out.2.2.2]at hat
   have hcl0:Cls cc.data.toList (Wc (lab y).attrs) (s+2):=by
    rw [hcc.out]
    have hv:=at_val hat.out
    have h1:=HGD.out.asc
    have h2:=HGD.out.words
    rw [hv]at h1 h2
    rw [←h2]
    refine cls_start h1 ?_
    rcases hat.out with ⟨rfl,hk,_,_,hvv⟩ | ⟨_,_,_,hvv⟩
    ·have :=(HGD.out.size _ (getD_mem_kv hk)).2
     rw [hvv,size_list]at this
     omega
    ·rw [hvv];show 0+2≤_;omega
   rw [←HXX.out]at hre
   have ho4:OnlyC B n nb v w3 w4:=⟨Nat.le_trans HU.out.only.size hre.out.size,fun q hq h1 h2=>by
    rw [hre.out.keep q (Nat.lt_of_lt_of_le hq HU.out.only.size) (h1 y HN.out.1) (fun e=>?_)]
    ·exact HU.out.only.block q hq h1 h2
    ·rcases HU.out.own y HN.out.1 q e with h3 | h3
     ·exact h2 y HN.out.1 h3
     ·omega,fun B' h1 h2=>(HU.out.only.below B' h1 h2).trans (hre.out.bel B' h1 (h2 y HN.out.1))⟩
   have HT4:=Lib.hid (HTC.out w4 ho4)
   have HCL:=Lib.hid hcl0
   have HAT:=Lib.hid (And.intro hat.out hkl)
   have HRE:=Lib.hid hre.out
   have HB4:=Lib.hid (Nat.le_trans HBr.out hre.out.size)
   clear hcl0 hcc hat hkl hre ho4 HGC ck
   go_wp2
   go_loopw [10,42] (fun cv iv wr=>∃(cur:ByteArray) (j:Nat),cv=.string cur∧iv=.int .i64 (j:Int)∧j≤ws.length∧Hid (Below w4.heap.size w4 wr)∧Hid (Cls cur.data.toList (lessW (Wc (lab y).attrs) ((xs.map (·.data.toList)).take j)) (s+2+1048577*j))) (fun _ iv _=>ws.length-(intOf iv).toNat)
   case atStart=>exact⟨cc,0,rfl,by go_num,by omega,Lib.hid (Below.refl _ _),Lib.hid (by rw [List.take_zero,lessW_nil];exact HCL.out)⟩
   case round=>
    obtain⟨cur,j,rfl,rfl,hj,hbr,hcur⟩:=hrel
    by_cases hlt:j<ws.length
    ·obtain⟨b,off,hab,hcell⟩:=HT4.out j hlt
     have hcell:=cell_below hbr.out hcell
     have hname:(xs.map (·.data.toList)).take (j+1)=(xs.map (·.data.toList)).take j++[(ws.getD j ByteArray.empty).data.toList]:=by
      rw [←HWX.out.1]
      exact take_name hlt
     have hok:NameOk (ws.getD j ByteArray.empty).data.toList:=by
      have hm:(ws.getD j ByteArray.empty).data.toList∈xs.map (·.data.toList):=by
       rw [←HWX.out.1]
       refine List.mem_map.2 ⟨ws.getD j ByteArray.empty,?_,rfl⟩
       rw [List.getD_eq_getElem?_getD,List.getElem?_eq_getElem hlt]
       exact List.getElem_mem hlt
      obtain⟨q,hq,he⟩:=List.mem_map.1 hm
      rw [←he]
      exact HX.out.ok q hq
     have hnot:(ws.getD j ByteArray.empty).data.toList∉(xs.map (·.data.toList)).take j:=by
      have h1:=HX.out.nodup
      have h2:((xs.map (·.data.toList)).take (j+1)).Nodup:=h1.sublist (List.take_sublist _ _)
      rw [hname,List.nodup_append]at h2
      exact fun hm=>h2.2.2 _ hm _ (by simp) rfl
     obtain⟨x,hx⟩:∃x,ws.getD j ByteArray.empty=x:=⟨_,rfl⟩
     rw [hx]at hcell hname hok hnot
     have hxs:x.size≤1048576:=by rw [size_list];exact hok.len
     have hcs:cur.size≤s+2+1048577*j:=by rw [size_list];exact hcur.out.len
     have hpl:((ByteArray.mk #[32])++x++(ByteArray.mk #[32])).data.toList=32::(x.data.toList++[32]):=by rw [cat_list,cat_list];rfl
     have hdup:(lessW (Wc (lab y).attrs) ((xs.map (·.data.toList)).take j)).Nodup:=less_nodup _ HGD.out.nodup
     have hz:((ByteArray.mk #[32])++x++(ByteArray.mk #[32])).size=x.size+2:=by rw [ByteArray.size_append,ByteArray.size_append];have :(ByteArray.mk #[32]).size=1:=rfl;omega
     have hrep:=replace_once cur ((ByteArray.mk #[32])++x++(ByteArray.mk #[32])) (ByteArray.mk #[32]) wr (by omega) (by omega) (by omega) (by have :(ByteArray.mk #[32]).size=1:=rfl;omega) (fun A B e=>by rw [hpl]at e ⊢;exact hcur.out.once hdup hok e)
     have HREP:=Lib.hid hrep
     have hless:=fun r hr=>hcur.out.less hdup hok (r:=r) hr
     have hin:=hcur.out.in_ hok
     have hmm:=hcur.out.more hok
     rw [less_snoc,←hname]at hless
     have z1:¬9223372036854775807<(ByteArray.mk #[32]).size+x.size:=by have :(ByteArray.mk #[32]).size=1:=rfl;omega
     have z2:¬9223372036854775807<((ByteArray.mk #[32])++x).size+(ByteArray.mk #[32]).size:=by
      have :(ByteArray.mk #[32]).size=1:=rfl
      rw [ByteArray.size_append];omega
     have z3:¬9223372036854775807<x.size+(ByteArray.mk #[32]).size:=by have :(ByteArray.mk #[32]).size=1:=rfl;omega
     have z4:¬9223372036854775807<cur.size+(x++(ByteArray.mk #[32])).size:=by
      have :(ByteArray.mk #[32]).size=1:=rfl
      rw [ByteArray.size_append];omega
     have hjI:(j:Int)<(ws.length:Int):=by omega
     have HPL:=Lib.hid hpl
     have HBR:=Lib.hid hbr.out
     have HLE:=Lib.hid hless
     subst hab
     clear hx hname hok hnot hxs hcs hrep hpl hdup hz hless hin hmm
     go_wp2_with fail
     refine HREP.out.mono ?_
     rintro e w5 ⟨r,rfl,hr,hb5⟩
     rw [HPL.out,show(ByteArray.mk #[32]).data.toList=[32] from rfl]at hr
     have hc5:=HLE.out _ hr
     have HNX:=Lib.hid (show Cls r.data.toList (lessW (Wc (lab y).attrs) ((xs.map (·.data.toList)).take (j+1))) (s+2+1048577*(j+1)) from⟨hc5.pad,hc5.words,hc5.asc,by have :=hc5.len;omega⟩)
     have HB5:=Lib.hid (hbr.out.trans (hb5.out.mono hbr.out.size))
     clear hr hb5 hcell hbr hc5
     go_wp2
     go_roundw
     case rel=>exact⟨r,j+1,rfl,by go_num,by omega,HB5,HNX⟩
     case measure=>simp [intOf];omega
    ·obtain rfl:j=ws.length:=by omega
     have hfull:(xs.map (·.data.toList)).take ws.length=xs.map (·.data.toList):=List.take_of_length_le (by simp;have :=HWX.out.2;omega)
     have hc9:=hcur.out
     rw [hfull]at hc9
     have hl1:l1.length≤100:=by
      have :=HGD.out.len
      rcases HAT.out.1 with ⟨rfl,_⟩ | ⟨rfl,_⟩
      ·omega
      ·simp;omega
     have hre9:=HRE.out.below hbr.out
     have hsc:=setClasses_any B (nb y) gr k cap _ l1 cur wr hre9.node rfl hre9.own (Nat.le_trans HB4.out hbr.out.size) HAT.out.2 hl1 (by rw [size_list];have :=hc9.len;omega) (cls_at hc9.asc)
     rw [HXX.out]at hsc
     have HSC:=Lib.hid hsc
     have HC9:=Lib.hid hc9
     have HRE9:=Lib.hid hre9
     clear hfull hc9 hl1 hsc hcur hlt HT4 hre9
     go_wp2_with fail
     refine HSC.out.mono ?_
     rintro e w6 ⟨v1,l2,rfl,hst,hre6⟩
     rw [←HXX.out]at hre6
     have hgood:=sets_good (⟨HGD.out.dist,HGD.out.words,HGD.out.nodup,HGD.out.asc,HGD.out.len,fun x hx=>⟨(HGD.out.size x hx).1,by have :=(HGD.out.size x hx).2;omega⟩⟩:GoodC (lab y).attrs (Wc (lab y).attrs) m (s+1100000000000)) HAT.out.1 HC9.out (less_nodup _ HGD.out.nodup) hst.out (by omega)
     have hstep:=HU.out.step HN.out.1 HN.out.2.1 (HRE9.out.trans hre6.out) hgood.1 hgood.2
     rw [←HN.out.2.2.1]at hstep
     have HSTEP:=Lib.hid hstep
     clear hgood hst hre6 HSC hstep hbr
     go_wp2
     go_roundw
     case rel=>exact⟨i+1,_,_,by go_num,by omega,HSTEP⟩
     case measure=>simp [intOf];omega
  ·obtain rfl:i=l.length:=by omega
   have hm:=HU.out
   rw [List.take_length]at hm
   have H1:=Lib.hid hm.dom
   have H2:=Lib.hid hm.labs
   have H3:=Lib.hid (OnlyC.ahead HB23.out (fun B' h1 h2=>by have :=h2 0 h0;have :=(HD.out.node 0 h0).lt;omega) hm.only)
   have H4:=Lib.hid (show ∀i,i<n→∀b,(v' i).ownBlock=some b→(v i).ownBlock=some b∨w.heap.size≤b from fun i hi b hb=>(hm.own i hi b hb).imp id (fun h=>Nat.le_trans HB23.out.size h))
   clear hm HU hlt
   go_wp2
   go_ret
   exact⟨rfl,v',lab',H1,H2,H3,H4⟩
set_option maxRecDepth 100000 in
set_option maxHeartbeats 8000000 in
theorem togMany_any{B n:Nat}(h0:0<n){w:World}{nb:Nat→Nat}{v:Nat→Value}{lab:Nat→NodeD}{F:Wd}(h:DomAt B w n nb v lab F)(l:List Nat)(hin:∀x∈l,x<n)(hnd:Once l)(hln:l.length≤200)(m s:Nat)(hm:m≤60)(hs:s≤15000000000000)(hgood:∀x∈l,(lab x).kind=3∧GoodC (lab x).attrs (Wc (lab x).attrs) m s)
  {sp sg scap:Nat} {sa:Option Addr} (hsa:0<l.length→sa=some ⟨sg,0,none⟩) (c0:w.cell? ⟨sp,0,none⟩=some (.slice sa l.length scap)) (crow:∀i,i<l.length→w.cell? ⟨sg,i,none⟩=some (.pointer (some ⟨nb (l.getD i 0),0,none⟩))) (hne:0<l.length→∀i,i<n→sg≠nb i∧(v i).ownBlock≠some sg)
  (a:Option Addr) (xs:List ByteArray) (c:Nat) (hx:NamesAt w a xs c):
  Calls Tryz.prog 40 #[.pointer (some ⟨sp,0,none⟩),.slice a xs.length c] w (ManyPost togW (xs.map (·.data.toList)) (m+1) (s+1100000000000) sp B n nb v lab F l w):=by
 have hJ:=join_any a xs c w hx
 have HJ:=Lib.hid hJ
 have HX:=Lib.hid hx
 have hnE:xs.map (·.data.toList)≠[]:=fun e=>by
  have h1:=hx.pos
  have h2:=congrArg List.length e
  simp at h2
  rw [h2]at h1
  simp at h1
 have HNE:=Lib.hid hnE
 have HD:=Lib.hid h
 have HIN:=Lib.hid (And.intro hin (And.intro hnd hgood))
 have HSA:=Lib.hid (And.intro hsa (And.intro crow hne))
 clear hJ hx h hin hnd hgood hsa crow hne hnE
 go_enter Tryz.func40,Tryz.ntmps40
 go_wp2_with fail
 refine HJ.out.mono ?_
 rintro e w1 ⟨r1,rfl,hr1,hb1,hz1,hbel1⟩
 have HT:=Lib.hid (trim_any r1 w1 (by omega) (cls_at hb1.out))
 go_wp2_with fail
 refine HT.out.mono ?_
 rintro e w2 ⟨r2,rfl,hr2,hz2,hbel2⟩
 have hw2:wl r2.data.toList=xs.map (·.data.toList):=by rw [hr2,wl_bare];exact hr1.out
 have hc2:∀b∈r2.data.toList,clsB b:=fun b hb=>by rw [hr2]at hb;exact hb1.out b (bare_sub hb)
 have gE:r2.toList.isEmpty=false:=ne_of_words hw2 HNE.out
 have hF:=slice_any r2 w2 (by omega) (cls_at hc2)
 have HF:=Lib.hid hF
 have HB2:=Lib.hid (hbel1.out.trans (hbel2.mono hbel1.out.size))
 have HW2:=Lib.hid hw2
 clear hw2 hc2 hF HT hr2 hbel2 hbel1 hr1 hb1 HJ
 go_wp2_with fail
 refine HF.out.mono ?_
 rintro e w3 ⟨tv,ws,rfl,how,hws,hbel3⟩
 have hwsx:ws.map (·.data.toList)=xs.map (·.data.toList):=by rw [hws.out,HW2.out]
 have hb23:Below w.heap.size w w3:=HB2.out.trans (hbel3.out.mono HB2.out.size)
 have c03:=cell_below hb23 c0
 have hown3:=how.out
 obtain⟨ta,tc,rfl,htc,htcells⟩:=how.out.open
 have htb:∀b off,ta=some ⟨b,off,none⟩→w2.heap.size≤b∧b<w3.heap.size:=fun b off e=>by
  subst e
  exact World.ownsRow.lt hown3 b rfl
 have hlx:ws.length=xs.length:=by have :=congrArg List.length hwsx;simpa using this
 have hD3:=HD.out.below hb23
 have hlt2:∀i,i<n→nb i<w2.heap.size∧∀b,(v i).ownBlock=some b→b<w2.heap.size:=fun i hi=>⟨by have :=(HD.out.node i hi).lt;have :=HB2.out.size;omega,fun b hb=>by have :=(World.ownsRow.lt (HD.out.own i hi) b hb).2;have :=HB2.out.size;omega⟩
 have hB3:B≤w3.heap.size:=by have h1:=HD.out.base 0 h0;have h2:=(HD.out.node 0 h0).lt;have h3:=hb23.size;omega
 have hrow:0<l.length→∀(w9:World),OnlyC B n nb v w3 w9→∀i,i<l.length→w9.cell? ⟨sg,i,none⟩=some (.pointer (some ⟨nb (l.getD i 0),0,none⟩)):=fun hl0 w9 ho i hi=>by
  have hc:=cell_below hb23 (HSA.out.2.1 i hi)
  exact(World.cell?_of_block (ho.block sg (World.block_lt_of_cell? w3 _ hc) (fun i hi=>(HSA.out.2.2 hl0 i hi).1) (fun i hi=>(HSA.out.2.2 hl0 i hi).2))).trans hc
 have htc9:∀(w9:World),OnlyC B n nb v w3 w9→∀j,j<ws.length→∃b off,ta=some ⟨b,off,none⟩∧w9.cell? ⟨b,off+j,none⟩=some (.string (ws.getD j ByteArray.empty)):=fun w9 ho j hj=>by
  obtain⟨b,off,rfl,hc⟩:=htcells.2 (by omega)
  obtain⟨h1,h2⟩:=htb b off rfl
  exact⟨b,off,rfl,(World.cell?_of_block (ho.block b h2 (fun i hi e=>by have :=(hlt2 i hi).1;omega) (fun i hi e=>by have :=(hlt2 i hi).2 b e;omega))).trans (hc j hj)⟩
 have HROW:=Lib.hid hrow
 have HTC:=Lib.hid htc9
 have HWX:=Lib.hid (And.intro hwsx hlx)
 have HB23:=Lib.hid hb23
 have HMID:=Lib.hid (ClsMid.start (op:=togW) (N:=xs.map (·.data.toList)) (m:=m+1) (s:=s+1100000000000) hD3)
 have hf8:=HX.out.few
 have hle8:ws.length≤1048576:=by omega
 clear how hws hbel3 hown3 htcells htb hwsx hlx hb23 hD3 hlt2 hrow htc9 HB2 HW2 HF c0 htc hf8
 go_wp2
 go_loopw [27] (fun iv wr=>∃(i:Nat) (v':Nat→Value) (lab':Nat→NodeD),iv=.int .i64 (i:Int)∧i≤l.length∧Hid (ClsMid togW (xs.map (·.data.toList)) (m+1) (s+1100000000000) B n nb v lab F w3 wr (l.take i) v' lab')) (fun iv _=>l.length-(intOf iv).toNat)
 case atStart=>exact⟨0,v,lab,by go_num,by omega,HMID⟩
 case round=>
  obtain⟨i,v',lab',rfl,hi,HU⟩:=hrel
  clear HMID c03
  by_cases hlt:i<l.length
  ·have hym:=getD_mem' (d:=0) hlt
   have hyn:=HIN.out.1 _ hym
   have hyg:=HIN.out.2.2 _ hym
   obtain rfl:=HSA.out.1 (by omega)
   have ck:=HROW.out (by omega) wr HU.out.only i hlt
   have hnot':l.getD i 0∉l.take i:=HIN.out.2.1.notin hlt
   have hsn:l.take (i+1)=l.take i++[l.getD i 0]:=take_snoc hlt
   obtain⟨y,hy⟩:∃y,l.getD i 0=y:=⟨_,rfl⟩
   rw [hy]at ck hyn hyg hnot' hsn
   have hlab:=(HU.out.labs y).1 hnot'
   have hBr:B≤wr.heap.size:=Nat.le_trans hB3 HU.out.only.size
   have hgc:=getClasses_any B (nb y) (linkR F nb (lab' y) (v' y) y) (lab' y).attrs wr (HU.out.dom.node y hyn) (by show tyOf (lab' y).kind=3;rw [hlab,hyg.1];rfl) (HU.out.dom.own y hyn) hBr (by rw [hlab];have :=hyg.2.len;omega) (fun z hz=>by rw [hlab]at hz;have :=(hyg.2.size z hz).2;omega)
   have HGC:=Lib.hid hgc
   have HGD:=Lib.hid hyg.2
   have HN:=Lib.hid (And.intro hyn (And.intro hnot' (And.intro hsn hlab)))
   have HBr:=Lib.hid hBr
   obtain⟨X,hX⟩:∃X,nb y=X:=⟨_,rfl⟩
   rw [hX]at ck HGC
   have HXX:=Lib.hid hX
   have hiI:(i:Int)<(l.length:Int):=by omega
   clear hgc hym hyn hyg hnot' hsn hy hX hlab hBr
   go_wp2_with fail
   refine HGC.out.mono ?_
   rintro e w4 ⟨cc,val,gr,k,cap,l1,rfl,hcc,hat,hkl,hre⟩
   rw [HN.out.2.2.2]at hat
   have hcl0:Cls cc.data.toList (Wc (lab y).attrs) (s+2):=by
    rw [hcc.out]
    have hv:=at_val hat.out
    have h1:=HGD.out.asc
    have h2:=HGD.out.words
    rw [hv]at h1 h2
    rw [←h2]
    refine cls_start h1 ?_
    rcases hat.out with ⟨rfl,hk,_,_,hvv⟩ | ⟨_,_,_,hvv⟩
    ·have :=(HGD.out.size _ (getD_mem_kv hk)).2
     rw [hvv,size_list]at this
     omega
    ·rw [hvv];show 0+2≤_;omega
   rw [←HXX.out]at hre
   have ho4:OnlyC B n nb v w3 w4:=⟨Nat.le_trans HU.out.only.size hre.out.size,fun q hq h1 h2=>by
    rw [hre.out.keep q (Nat.lt_of_lt_of_le hq HU.out.only.size) (h1 y HN.out.1) (fun e=>?_)]
    ·exact HU.out.only.block q hq h1 h2
    ·rcases HU.out.own y HN.out.1 q e with h3 | h3
     ·exact h2 y HN.out.1 h3
     ·omega,fun B' h1 h2=>(HU.out.only.below B' h1 h2).trans (hre.out.bel B' h1 (h2 y HN.out.1))⟩
   have HT4:=Lib.hid (HTC.out w4 ho4)
   have HCL:=Lib.hid hcl0
   have HAT:=Lib.hid (And.intro hat.out hkl)
   have HRE:=Lib.hid hre.out
   have HB4:=Lib.hid (Nat.le_trans HBr.out hre.out.size)
   clear hcl0 hcc hat hkl hre ho4 HGC ck
   go_wp2
   go_loopw [9,38] (fun cv iv wr=>∃(cur:ByteArray) (j:Nat),cv=.string cur∧iv=.int .i64 (j:Int)∧j≤ws.length∧Hid (Below w4.heap.size w4 wr)∧Hid (Cls cur.data.toList (togW (Wc (lab y).attrs) ((xs.map (·.data.toList)).take j)) (s+2+1048577*j))) (fun _ iv _=>ws.length-(intOf iv).toNat)
   case atStart=>exact⟨cc,0,rfl,by go_num,by omega,Lib.hid (Below.refl _ _),Lib.hid (by rw [List.take_zero,togW_nil];exact HCL.out)⟩
   case round=>
    obtain⟨cur,j,rfl,rfl,hj,hbr,hcur⟩:=hrel
    by_cases hlt:j<ws.length
    ·obtain⟨b,off,hab,hcell⟩:=HT4.out j hlt
     have hcell:=cell_below hbr.out hcell
     have hname:(xs.map (·.data.toList)).take (j+1)=(xs.map (·.data.toList)).take j++[(ws.getD j ByteArray.empty).data.toList]:=by
      rw [←HWX.out.1]
      exact take_name hlt
     have hok:NameOk (ws.getD j ByteArray.empty).data.toList:=by
      have hm:(ws.getD j ByteArray.empty).data.toList∈xs.map (·.data.toList):=by
       rw [←HWX.out.1]
       refine List.mem_map.2 ⟨ws.getD j ByteArray.empty,?_,rfl⟩
       rw [List.getD_eq_getElem?_getD,List.getElem?_eq_getElem hlt]
       exact List.getElem_mem hlt
      obtain⟨q,hq,he⟩:=List.mem_map.1 hm
      rw [←he]
      exact HX.out.ok q hq
     have hnot:(ws.getD j ByteArray.empty).data.toList∉(xs.map (·.data.toList)).take j:=by
      have h1:=HX.out.nodup
      have h2:((xs.map (·.data.toList)).take (j+1)).Nodup:=h1.sublist (List.take_sublist _ _)
      rw [hname,List.nodup_append]at h2
      exact fun hm=>h2.2.2 _ hm _ (by simp) rfl
     obtain⟨x,hx⟩:∃x,ws.getD j ByteArray.empty=x:=⟨_,rfl⟩
     rw [hx]at hcell hname hok hnot
     have hxs:x.size≤1048576:=by rw [size_list];exact hok.len
     have hcs:cur.size≤s+2+1048577*j:=by rw [size_list];exact hcur.out.len
     have hpl:((ByteArray.mk #[32])++x++(ByteArray.mk #[32])).data.toList=32::(x.data.toList++[32]):=by rw [cat_list,cat_list];rfl
     have hcon:=goContains_any cur ((ByteArray.mk #[32])++x++(ByteArray.mk #[32])) wr (by omega) (by rw [ByteArray.size_append,ByteArray.size_append];have :(ByteArray.mk #[32]).size=1:=rfl;omega)
     have hdup:(togW (Wc (lab y).attrs) ((xs.map (·.data.toList)).take j)).Nodup:=tog_nodup HGD.out.nodup (HX.out.nodup.sublist (List.take_sublist _ _))
     have hz:((ByteArray.mk #[32])++x++(ByteArray.mk #[32])).size=x.size+2:=by rw [ByteArray.size_append,ByteArray.size_append];have :(ByteArray.mk #[32]).size=1:=rfl;omega
     have hrep:=replace_once cur ((ByteArray.mk #[32])++x++(ByteArray.mk #[32])) (ByteArray.mk #[32]) wr (by omega) (by omega) (by omega) (by have :(ByteArray.mk #[32]).size=1:=rfl;omega) (fun A B e=>by rw [hpl]at e ⊢;exact hcur.out.once hdup hok e)
     have HREP:=Lib.hid hrep
     have hless:=fun r hr=>hcur.out.less hdup hok (r:=r) hr
     have hin:=hcur.out.in_ hok
     have hmm:=hcur.out.more hok
     have hst:=tog_snoc (W:=Wc (lab y).attrs) hnot
     have htm:=tog_mem (W:=Wc (lab y).attrs) hnot
     rw [←hname]at hst
     have z1:¬9223372036854775807<(ByteArray.mk #[32]).size+x.size:=by have :(ByteArray.mk #[32]).size=1:=rfl;omega
     have z2:¬9223372036854775807<((ByteArray.mk #[32])++x).size+(ByteArray.mk #[32]).size:=by
      have :(ByteArray.mk #[32]).size=1:=rfl
      rw [ByteArray.size_append];omega
     have z3:¬9223372036854775807<x.size+(ByteArray.mk #[32]).size:=by have :(ByteArray.mk #[32]).size=1:=rfl;omega
     have z4:¬9223372036854775807<cur.size+(x++(ByteArray.mk #[32])).size:=by
      have :(ByteArray.mk #[32]).size=1:=rfl
      rw [ByteArray.size_append];omega
     have hjI:(j:Int)<(ws.length:Int):=by omega
     have HPL:=Lib.hid hpl
     have HBR:=Lib.hid hbr.out
     have HCON:=Lib.hid hcon
     have HLE:=Lib.hid hless
     have HMM:=Lib.hid (And.intro (hin.trans htm) (And.intro hst hmm))
     subst hab
     clear hx hname hok hnot hxs hcs hcon hrep hpl hdup hz hless hin hst hmm htm
     go_wp2_with fail
     refine HCON.out.mono ?_
     rintro e w5 ⟨bb,rfl,hbb,rfl⟩
     rw [HPL.out]at hbb
     have HBB:=Lib.hid hbb
     clear hbb
     cases bb
     ·have hno:x.data.toList∉Wc (lab y).attrs:=fun hm=>by
       have :=HBB.out.2 (HMM.out.1.2 hm)
       cases this
      have hnx:=HMM.out.2.1.2 hno
      have HNX:=Lib.hid (show Cls (cur++(x++(ByteArray.mk #[32]))).data.toList (togW (Wc (lab y).attrs) ((xs.map (·.data.toList)).take (j+1))) (s+2+1048577*(j+1)) by
       have h1:=HMM.out.2.2
       rw [cat_list,cat_list,←hnx]
       have e1:s+2+1048577*(j+1)=s+2+1048577*j+1048577:=by omega
       rw [e1]
       exact h1)
      clear hno hnx hcell hbr HREP
      go_wp2
      go_roundw
      case rel=>exact⟨_,j+1,rfl,by go_num,by omega,HBR,HNX⟩
      case measure=>simp [intOf];omega
     ·have hyes:x.data.toList∈Wc (lab y).attrs:=HMM.out.1.1 (HBB.out.1 rfl)
      have hnx:=HMM.out.2.1.1 hyes
      have HNY:=Lib.hid hnx
      clear hyes hnx hcell
      go_wp2_with fail
      refine HREP.out.mono ?_
      rintro e w6 ⟨r,rfl,hr,hb6⟩
      rw [HPL.out,show(ByteArray.mk #[32]).data.toList=[32] from rfl]at hr
      have hc5:=HLE.out _ hr
      rw [HNY.out]at hc5
      have HNX:=Lib.hid (show Cls r.data.toList (togW (Wc (lab y).attrs) ((xs.map (·.data.toList)).take (j+1))) (s+2+1048577*(j+1)) from⟨hc5.pad,hc5.words,hc5.asc,by have :=hc5.len;omega⟩)
      have HB6:=Lib.hid (hbr.out.trans (hb6.out.mono hbr.out.size))
      clear hr hb6 hbr hc5
      go_wp2
      go_roundw
      case rel=>exact⟨r,j+1,rfl,by go_num,by omega,HB6,HNX⟩
      case measure=>simp [intOf];omega
    ·obtain rfl:j=ws.length:=by omega
     have hfull:(xs.map (·.data.toList)).take ws.length=xs.map (·.data.toList):=List.take_of_length_le (by simp;have :=HWX.out.2;omega)
     have hc9:=hcur.out
     rw [hfull]at hc9
     have hl1:l1.length≤100:=by
      have :=HGD.out.len
      rcases HAT.out.1 with ⟨rfl,_⟩ | ⟨rfl,_⟩
      ·omega
      ·simp;omega
     have hre9:=HRE.out.below hbr.out
     have hsc:=setClasses_any B (nb y) gr k cap _ l1 cur wr hre9.node rfl hre9.own (Nat.le_trans HB4.out hbr.out.size) HAT.out.2 hl1 (by rw [size_list];have :=hc9.len;omega) (cls_at hc9.asc)
     rw [HXX.out]at hsc
     have HSC:=Lib.hid hsc
     have HC9:=Lib.hid hc9
     have HRE9:=Lib.hid hre9
     clear hfull hc9 hl1 hsc hcur hlt HT4 hre9
     go_wp2_with fail
     refine HSC.out.mono ?_
     rintro e w6 ⟨v1,l2,rfl,hst,hre6⟩
     rw [←HXX.out]at hre6
     have hgood:=sets_good (⟨HGD.out.dist,HGD.out.words,HGD.out.nodup,HGD.out.asc,HGD.out.len,fun x hx=>⟨(HGD.out.size x hx).1,by have :=(HGD.out.size x hx).2;omega⟩⟩:GoodC (lab y).attrs (Wc (lab y).attrs) m (s+1100000000000)) HAT.out.1 HC9.out (tog_nodup HGD.out.nodup HX.out.nodup) hst.out (by omega)
     have hstep:=HU.out.step HN.out.1 HN.out.2.1 (HRE9.out.trans hre6.out) hgood.1 hgood.2
     rw [←HN.out.2.2.1]at hstep
     have HSTEP:=Lib.hid hstep
     clear hgood hst hre6 HSC hstep hbr
     go_wp2
     go_roundw
     case rel=>exact⟨i+1,_,_,by go_num,by omega,HSTEP⟩
     case measure=>simp [intOf];omega
  ·obtain rfl:i=l.length:=by omega
   have hm:=HU.out
   rw [List.take_length]at hm
   have H1:=Lib.hid hm.dom
   have H2:=Lib.hid hm.labs
   have H3:=Lib.hid (OnlyC.ahead HB23.out (fun B' h1 h2=>by have :=h2 0 h0;have :=(HD.out.node 0 h0).lt;omega) hm.only)
   have H4:=Lib.hid (show ∀i,i<n→∀b,(v' i).ownBlock=some b→(v i).ownBlock=some b∨w.heap.size≤b from fun i hi b hb=>(hm.own i hi b hb).imp id (fun h=>Nat.le_trans HB23.out.size h))
   clear hm HU hlt
   go_wp2
   go_ret
   exact⟨rfl,v',lab',H1,H2,H3,H4⟩
end Go.Proofs.YtkdomegcacgpnaaGreat
