/- Parts of a proof: StepR, EmptyG, UnwMv, ManipAfter. -/
import Derived.Test.YtkdomegcacgpnaaGreatG33
import Derived.Test.YtkdomegcacgpnaaGreatG24
import Derived.Test.YtkdomegcacgpnaaGreatG34
import Derived.Test.YtkdomegcacgpnaaGreatG20
import Derived.Test.YtkdomegcacgpnaaGreatG23
import Derived.Test.YtkdomegcacgpnaaGreatG25
import Derived.Test.YtkdomegcacgpnaaGreatG19
import Derived.Test.YtkdomegcacgpnaaGreatG21
import Derived.Test.YtkdomegcacgpnaaGreatG09
import Derived.BigRegion
import Derived.RegionTactic
import Derived.ChangeAlike
import Derived.StillTailTactics
set_option linter.unusedVariables false
set_option linter.unusedSimpArgs false
namespace Go.Proofs.YtkdomegcacgpnaaGreat
open Go.RowKit
structure StepD where
 op:Int
 on:List Int
 wi:List Int
 key:ByteArray
 val:ByteArray
 ls:List ByteArray
def emptW(F:Wd)(l:List Nat):Wd:=l.foldl (fun G p=>cutsW G (G.kids p)) F
theorem emptW_snoc(F:Wd)(l:List Nat)(p:Nat):emptW F (l++[p])=cutsW (emptW F l) ((emptW F l).kids p):=by simp [emptW,List.foldl_append]
theorem WOk.empt{n:Nat}{F:Wd}(h:WOk n F)(l:List Nat):WOk n (emptW F l):=by
 have key:∀k,k≤l.length→WOk n (emptW F (l.take k)):=by
  intro k
  induction k with
  | zero=>intro _;exact h
  | succ k ih=>
   intro hk
   rw [take_snoc (by omega),emptW_snoc]
   exact(ih (by omega)).cuts _
 have :=key l.length (Nat.le_refl _)
 rwa [List.take_length]at this
inductive StepR (len:Nat) (x:StepD) (l ws:List Nat) (m:Nat) (lab:Nat→NodeD) (F:Wd) (m':Nat) (lab':Nat→NodeD) (F':Wd):Prop
 | put {op':Int} {L:List Nat} {G0:Wd} (hop:OpT x.op op') (hne:ws≠[]) (hap:ApartW F ws l) (h5:x.op=5→ApartW F l []) (hsp:∀y∈l,Spot x.op lab F y) (hL:Fl F.kids ws L) (hM:Many op' ws L m' lab' G0 l m lab F) (hF:F'=if x.op=5 then cutsW G0 l else G0)
 | rem (hop:x.op=6) (hm:m'=m) (hl:lab'=lab) (hF:F'=cutsW F l)
 | empty (hop:x.op=7) (hm:m'=m) (hl:lab'=lab) (hk:∀y∈l,(lab y).kind=3) (hF:F'=emptW F l)
 | unw (hop:x.op=8) (hm:m'=m) (hl:lab'=lab) (hg:∀y∈l,UnwGood lab F y) (hU:Unws F' (onceF (l.map (parK F))) F)
 | wrap {wd:Nat} {L:List Nat} (hop:x.op=9∨x.op=10∨x.op=11) (hw:ws=[wd]) (hL:Fl F.kids [wd] L) (hin:InnerOk x.op lab F wd l) (hs:WgSide m F wd L (grpsOf x.op F l)) (hk:(lab wd).kind=3) (hW:WrapsG wd L m' lab' F' (grpsOf x.op F l) m lab F)
 | attr (hm:m'=m) (hF:F'=F) (hk:∀y∈l,(lab y).kind=3) (hn:NamesSure x.ls) (hky:x.op=12∨x.op=13→x.key.size≤40) (hA:AttrsA x.op x.key x.val x.ls lab lab' l)
def plC(len:Nat)(i:Nat):Int:=if i<len then(i:Int)else-1
theorem Knots.plC{B:Nat}{w:World}{n len:Nat}{kn:Nat→Nat}{kv av:Nat→Value}{pl:Nat→Int}{lab:Nat→NodeD}{F:Wd}(h:Knots B w n kn kv av pl lab F)(h1:∀i,i<len→i<n→pl i=(i:Int))(h2:∀i,len≤i→i<n→pl i= -1):Knots B w n kn kv av (plC len) lab F:=by
 refine⟨fun i hi=>?_,h.row,h.attrs,h.base,h.inj⟩
 have e:Go.Proofs.YtkdomegcacgpnaaGreat.plC len i=pl i:=by
  unfold Go.Proofs.YtkdomegcacgpnaaGreat.plC
  by_cases c:i<len
  ·rw [if_pos c,h1 i c hi]
  ·rw [if_neg c,h2 i (by omega) hi]
 rw [e]
 exact h.node i hi
theorem opCls(o:Int):
  (((o==1)=true∨(o==1)=false∧((o==2)=true∨(o==2)=false∧((o==3)=true∨(o==3)=false∧((o==4)=true∨(o==4)=false∧(o==5)=true))))∧∃op',OpT o op')∨
  (((o==1)=false∧(o==2)=false∧(o==3)=false∧(o==4)=false∧(o==5)=false)∧
   ((o==6)=true∧Hid (o=6)∨(o==6)=false∧((o==7)=true∧Hid (o=7)∨(o==7)=false∧((o==8)=true∧Hid (o=8)∨(o==8)=false∧
    (((o==9)=true∨(o==9)=false∧((o==10)=true∨(o==10)=false∧(o==11)=true))∧Hid (o=9∨o=10∨o=11)∨(o==9)=false∧(o==10)=false∧(o==11)=false))))):=by
 have key:∀n:Int,(o==n)=true↔o=n:=fun n=>by simp
 have keyf:∀n:Int,(o==n)=false↔o≠n:=fun n=>by simp
 simp only [key,keyf]
 by_cases h1:o=1
 ·exact .inl ⟨.inl h1,1,.inl ⟨h1,rfl⟩⟩
 by_cases h2:o=2
 ·exact .inl ⟨.inr ⟨h1,.inl h2⟩,2,.inr (.inl ⟨h2,rfl⟩)⟩
 by_cases h3:o=3
 ·exact .inl ⟨.inr ⟨h1,.inr ⟨h2,.inl h3⟩⟩,3,.inr (.inr (.inl ⟨h3,rfl⟩))⟩
 by_cases h4:o=4
 ·exact .inl ⟨.inr ⟨h1,.inr ⟨h2,.inr ⟨h3,.inl h4⟩⟩⟩,4,.inr (.inr (.inr (.inl ⟨h4,rfl⟩)))⟩
 by_cases h5:o=5
 ·exact .inl ⟨.inr ⟨h1,.inr ⟨h2,.inr ⟨h3,.inr ⟨h4,h5⟩⟩⟩⟩,3,.inr (.inr (.inr (.inr ⟨h5,rfl⟩)))⟩
 refine .inr ⟨⟨h1,h2,h3,h4,h5⟩,?_⟩
 by_cases h6:o=6
 ·exact .inl ⟨h6,Lib.hid h6⟩
 by_cases h7:o=7
 ·exact .inr ⟨h6,.inl ⟨h7,Lib.hid h7⟩⟩
 by_cases h8:o=8
 ·exact .inr ⟨h6,.inr ⟨h7,.inl ⟨h8,Lib.hid h8⟩⟩⟩
 refine .inr ⟨h6,.inr ⟨h7,.inr ⟨h8,?_⟩⟩⟩
 by_cases h9:o=9
 ·exact .inl ⟨.inl h9,Lib.hid (.inl h9)⟩
 by_cases h10:o=10
 ·exact .inl ⟨.inr ⟨h9,.inl h10⟩,Lib.hid (.inr (.inl h10))⟩
 by_cases h11:o=11
 ·exact .inl ⟨.inr ⟨h9,.inr ⟨h10,h11⟩⟩,Lib.hid (.inr (.inr h11))⟩
 exact .inr ⟨h9,h10,h11⟩
theorem kids_cut{n:Nat}{G:Wd}(hG:WOk n G){y:Nat}{ks:List Nat}(hks:G.kids y=ks){j:Nat}(hj:j≤ks.length):(cutsW G (ks.take j)).kids y=ks.drop j:=by
 rw [cutsW_off]
 show offL (ks.take j) (G.kids y)=_
 rw [hks]
 have hnd:=hG.nd y
 rw [hks]at hnd
 conv=>lhs;arg 2;rw [←List.take_append_drop j ks]
 rw [offL_append]
 have h1:offL (ks.take j) (ks.take j)=[]:=by
  refine List.filter_eq_nil_iff.2 (fun z hz=>?_)
  simp [hz]
 have h2:offL (ks.take j) (ks.drop j)=ks.drop j:=by
  refine List.filter_eq_self.2 (fun z hz=>?_)
  rw [←List.take_append_drop j ks,List.nodup_append]at hnd
  simp only [Bool.not_eq_true',List.contains_eq_mem,decide_eq_false_iff_not]
  exact fun hm=>hnd.2.2 z hm z hz rfl
 rw [h1,h2,List.nil_append]
theorem fst_cell{B n:Nat}{w:World}{nb:Nat→Nat}{v:Nat→Value}{lab:Nat→NodeD}{G:Wd}(h:DomAt B w n nb v lab G){p:Nat}(hp:p<n){ks:List Nat}(hk:G.kids p=ks):w.cell? ⟨nb p,1,none⟩=some (lk (ks[0]?.map nb)):=by
 have kx:=(h.node p hp).fst
 rw [show(linkR G nb (lab p) (v p) p).fst=(G.kids p).head?.map nb from rfl,hk,List.head?_eq_getElem?]at kx
 exact kx
theorem nxt_cell{B n:Nat}{w:World}{nb:Nat→Nat}{v:Nat→Value}{lab:Nat→NodeD}{G:Wd}(h:DomAt B w n nb v lab G)(hG:WOk n G){p:Nat}{ks:List Nat}(hk:G.kids p=ks){j:Nat}(hj:j<ks.length):w.cell? ⟨nb (ks.getD j 0),4,none⟩=some (lk (ks[j+1]?.map nb)):=by
 have hy:ks=ks.take j++ks.getD j 0::ks.drop (j+1):=by
  have h1:ks.getD j 0=ks[j]:=by simp [List.getD,hj]
  rw [h1,←List.drop_eq_getElem_cons hj,List.take_append_drop]
 have hyk:ks.getD j 0∈G.kids p:=by rw [hk];exact getD_mem' hj
 have kx:=(h.node _ (hG.lt p _ hyk).2).nxt
 have e4:(linkR G nb (lab (ks.getD j 0)) (v (ks.getD j 0)) (ks.getD j 0)).nxt=(ks.drop (j+1)).head?.map nb:=by
  have h1:=(hG.iff p _).1 hyk
  show((G.up _).bind fun p=>nxtIn (G.kids p) _).map nb=_
  rw [h1]
  show(nxtIn (G.kids p) _).map nb=_
  have hn:=hG.nd p
  rw [hk]
  rw [hk]at hn
  generalize ks.getD j 0=y at hy ⊢
  generalize ks.drop (j+1)=r at hy ⊢
  rw [hy]at hn ⊢
  rw [nxtIn_app _ (nd_parts hn).1]
 rw [e4,List.head?_drop]at kx
 exact kx
set_option maxRecDepth 100000 in
set_option maxHeartbeats 4000000 in
theorem emptyG_any{B n:Nat}{w:World}{nb:Nat→Nat}{v:Nat→Value}{lab:Nat→NodeD}{F:Wd}(h:DomAt B w n nb v lab F)(hF:WOk n F)(hn6:n≤600)(s:Nat){a:Option Addr}{cap g d:Nat}(l:List Nat)(c0:w.cell? ⟨s,0,none⟩=some (.slice a l.length cap))(c1:w.cell? ⟨s,1,none⟩=some (.pointer (some ⟨d,0,none⟩)))(ha:0<l.length→a=some ⟨g,0,none⟩)(hc:∀i,i<l.length→w.cell? ⟨g,i,none⟩=some (.pointer (some ⟨nb (l.getD i 0),0,none⟩)))(hg:0<l.length→∀i,i<n→g≠nb i)(hl:∀i∈l,i<n)(hn:l.length≤200):
  Calls Tryz.prog 47 #[.pointer (some ⟨s,0,none⟩)] w (fun e w'=>(∃s2,e=.returned (.pointer (some ⟨s2,0,none⟩)))∧Hid (DomAt B w' n nb v lab (emptW F l))∧Hid (OnlyG n nb w w')):=by
 obtain⟨i0,hi,hz0,hz1,hz2⟩:=info_parts Tryz.infoPtr
 have hsn:=sel_ne h c0
 have hll:(l.length:Int)≤200:=by omega
 have hnw:∀i,i<n→nb i<w.heap.size:=fun i hi=>World.nodeAt.lt (h.node i hi)
 have hss:=World.block_lt_of_cell? w _ c0
 have hgw:0<l.length→g<w.heap.size:=fun hh=>World.block_lt_of_cell? w _ (hc 0 hh)
 have HA:=Lib.hid ha
 have HC:=Lib.hid hc
 have HD:=Lib.hid h
 have HF:=Lib.hid hF
 have HL:=Lib.hid hl
 have HS:=Lib.hid (And.intro hg (And.intro hsn (And.intro hnw (And.intro hss hgw))))
 have HN6:=Lib.hid hn6
 have hmk:=fun(w':World) (c:Nat) (hc:c≤200000)=>run_make (P:=Tryz.prog) w' 48 75 i0 (.pointer none) Tryz.underlying48 hi hz0 .i64 .i64 0 (c:Int) (by omega) (by omega) (by rw [hz2];omega) (by omega)
 simp only [hz1,Int.toNat_zero,Int.toNat_natCast,Nat.mul_one]at hmk
 have HMK:=Lib.hid hmk
 clear h hF hl ha hc hg hsn hnw hss hgw hn6 hmk
 go_enter Tryz.func47,Tryz.ntmps47
 go_wp2
 go_loopw [3,16] (fun ct i wr=>∃k c:Nat,k≤l.length∧c≤k*600∧ct=.int .i64 (c:Int)∧i=.int .i64 (k:Int)∧w=wr) (fun _ i _=>l.length-(intOf i).toNat)
 case atStart=>exact⟨0,0,by omega,by omega,by go_num,by go_num,by first | rfl | trivial⟩
 case round=>
  obtain⟨k,c,hk,hck,rfl,rfl,rfl⟩:=hrel
  by_cases hlt:k<l.length
  ·obtain rfl:=HA.out (by omega)
   have ck:=HC.out k hlt
   have hx:=HL.out _ (getD_mem' (d:=0) hlt)
   obtain⟨x,hxx⟩:∃x,l.getD k 0=x:=⟨_,rfl⟩
   rw [hxx]at ck hx
   obtain⟨ks,hks⟩:∃ks,F.kids x=ks:=⟨_,rfl⟩
   have cf:=fst_cell HD.out hx hks
   have hksl:ks.length≤600:=by rw [←hks];exact Nat.le_trans (HF.out.few x) HN6.out
   have hnx:∀j,j<ks.length→w.cell? ⟨nb (ks.getD j 0),4,none⟩=some (lk (ks[j+1]?.map nb)):=fun j hj=>nxt_cell HD.out HF.out hks hj
   have HNX:=Lib.hid hnx
   have hkI:(k:Int)<(l.length:Int):=by omega
   clear hnx hks hxx
   go_wp2
   go_loopg [3,6] ks.length (fun gk ct cu wr2=>∃j:Nat,gk+j=ks.length∧ct=.int .i64 ((c+j:Nat):Int)∧cu=lk (ks[j]?.map nb)∧w=wr2)
   case atStart=>exact⟨0,by omega,by go_num,rfl,by first | rfl | trivial⟩
   case round=>
    obtain⟨j,hgj,rfl,rfl,rfl⟩:=hrel
    by_cases hjl:j<ks.length
    ·have hnj:=HNX.out j hjl
     have he:ks[j]? =some (ks.getD j 0):=by simp [List.getD,hjl]
     rw [he,Option.map_some,lk_some]
     obtain⟨y,hy⟩:∃y,ks.getD j 0=y:=⟨_,rfl⟩
     rw [hy]at hnj ⊢
     obtain⟨nx,hnx⟩:∃nx,lk (ks[j+1]?.map nb)=nx:=⟨_,rfl⟩
     rw [hnx]at hnj
     clear he hy
     go_wp2
     go_roundg (ks.length-(j+1))
     case measure=>omega
     case rel=>exact⟨j+1,by omega,by go_num,hnx.symm,by first | rfl | trivial⟩
    ·obtain rfl:j=ks.length:=by omega
     rw [show ks[ks.length]? =none by simp,Option.map_none,lk_none]
     go_wp2
     refine⟨?rel,?measure⟩
     case rel=>exact⟨k+1,c+ks.length,by omega,by omega,by go_num,by go_num,by first | rfl | trivial⟩
     case measure=>simp [intOf];omega
  ·obtain rfl:k=l.length:=by omega
   have hc2:c≤200000:=by omega
   have hown0:(w.alloc (.cells (madeCells (Value.pointer none).cells c) 75)).ownsRow w.heap.size 75 1 (.slice (some ⟨w.heap.size,0,none⟩) 0 c) 0 []:=World.ownsRow_made w _ c (Nat.le_refl _) (by unfold maxLen;omega) (by simp [size_madeCells])
   have hb4:Below w.heap.size w (w.alloc (.cells (madeCells (Value.pointer none).cells c) 75)):=(Below.refl _ _).alloc (Nat.le_refl _) _
   have hmk:=HMK.out w c hc2
   obtain⟨w4,hw4⟩:∃w4,w.alloc (.cells (madeCells (Value.pointer none).cells c) 75)=w4:=⟨_,rfl⟩
   rw [hw4]at hown0 hb4 hmk
   have HO4:=Lib.hid (And.intro hown0 (And.intro (HD.out.below hb4) ((OnlyG.refl n nb w).of_below hb4)))
   have c04:=cell_below hb4 c0
   have c14:=cell_below hb4 c1
   clear hown0 hb4 hw4 hck hlt
   go_wp2
   clear hmk
   go_loopw [7,40] (fun r i wr=>∃(k:Nat) (D:List Nat),k≤l.length∧i=.int .i64 (k:Int)∧D.length≤k*600∧Hid (OwnPtrs wr w.heap.size r D)∧Hid (DomAt B wr n nb v lab (emptW F (l.take k)))∧Hid (OnlyG n nb w wr)) (fun _ i _=>l.length-(intOf i).toNat)
   case atStart=>exact⟨0,[],by omega,by go_num,by simp,Lib.hid HO4.out.1,Lib.hid HO4.out.2.1,Lib.hid HO4.out.2.2⟩
   case round=>
    obtain⟨k,D,hk,rfl,hdl,HR,HDk,HO⟩:=hrel
    by_cases hlt:k<l.length
    ·obtain rfl:=HA.out (by omega)
     have ck:wr.cell? ⟨g,k,none⟩=some (.pointer (some ⟨nb (l.getD k 0),0,none⟩)):=(World.cell?_of_block (HO.out.block g (HS.out.2.2.2.2 (by omega)) (fun i hi=>HS.out.1 (by omega) i hi))).trans (HC.out k hlt)
     have hx:=HL.out _ (getD_mem' (d:=0) hlt)
     have htk:=take_snoc hlt
     obtain⟨x,hxx⟩:∃x,l.getD k 0=x:=⟨_,rfl⟩
     rw [hxx]at ck hx htk
     have HGk:=Lib.hid (HF.out.empt (l.take k))
     obtain⟨G,hG⟩:∃G,emptW F (l.take k)=G:=⟨_,rfl⟩
     rw [hG]at HDk HGk
     obtain⟨ks,hks⟩:∃ks,G.kids x=ks:=⟨_,rfl⟩
     have hksl:ks.length≤600:=by rw [←hks];exact Nat.le_trans (HGk.out.few x) HN6.out
     have cf:=fst_cell HDk.out hx hks
     have hcutk:∀j,j≤ks.length→(cutsW G (ks.take j)).kids x=ks.drop j:=fun j hj=>kids_cut HGk.out hks hj
     have HKS:=Lib.hid (And.intro hks (And.intro htk (And.intro hG hx)))
     have HCK:=Lib.hid hcutk
     have hkI:(k:Int)<(l.length:Int):=by omega
     clear hks htk hG hcutk hxx
     go_wp2
     go_loopg [7,10] ks.length (fun gk r cu wr2=>∃(j:Nat) (D:List Nat),gk+j=ks.length∧D.length≤k*600+j∧cu=lk (ks[j]?.map nb)∧Hid (OwnPtrs wr2 w.heap.size r D)∧Hid (DomAt B wr2 n nb v lab (cutsW G (ks.take j)))∧Hid (OnlyG n nb w wr2))
     case atStart=>exact⟨0,D,by omega,by omega,rfl,HR,HDk,HO⟩
     case round=>
      obtain⟨j,D2,hgj,hdl2,rfl,HR2,HD2,HO2⟩:=hrel
      by_cases hjl:j<ks.length
      ·have he:ks[j]? =some (ks.getD j 0):=by simp [List.getD,hjl]
       rw [he,Option.map_some,lk_some]
       have hdr:=HCK.out j (by omega)
       have htkj:=cuts_take (F:=G) hjl
       have hFj:=HGk.out.cuts (ks.take j)
       have hmem:ks.getD j 0∈(cutsW G (ks.take j)).kids x:=by
        rw [hdr,List.drop_eq_getElem_cons hjl,show ks.getD j 0=ks[j] by simp [List.getD,hjl]]
        exact List.mem_cons_self
       have hu:=(hFj.iff x _).1 hmem
       have hdr1:=HCK.out (j+1) (by omega)
       obtain⟨y,hy⟩:∃y,ks.getD j 0=y:=⟨_,rfl⟩
       rw [hy]at htkj hu ⊢
       have hrc:=removeChild_any HD2.out hFj hu
       rw [←htkj]at hrc
       have HRC:=Lib.hid hrc
       clear hrc hu hFj htkj hmem hdr he hy
       go_wp2_with fail
       refine HRC.out.mono ?_
       rintro e w5 ⟨rfl,HD5,ho5⟩
       have hown5:OwnPtrs w5 w.heap.size u7 D2:=ownsRow_kept HR2.out (fun q hq=>ho5.out.block q (fun i hi e=>by
        have h1:=(World.ownsRow.lt HR2.out q hq).1
        have h2:=HS.out.2.2.1 i hi
        omega))
       have HO5:=Lib.hid (HO2.out.turn ho5.out (fun _ _=>rfl) (fun i h1 h2=>by omega))
       have hown':w5.ownsRow w.heap.size 75 1 u7 D2.length (D2.map ptrV):=hown5
       clear ho5 HRC
       go_wp2_with (at_builtin;refine wpList_append_own _ rfl _ _ 48 rfl w.heap.size 75 i0 (.pointer none) 1 8 Tryz.underlying48 hi hz0 hz1 hz2 rfl (by decide) _ _ _ rfl (hown'.alloc _) ⟨w5.heap.size,0,none⟩ 1 1 [.pointer (some ⟨nb y,0,none⟩)] rfl rfl ?c1 ?c2 ?c3 ?c4 ?c5 ?_)
       case c1=>
        intro j u hj
        match j,hj with
        | 0,hj=>simp at hj;subst hj;simp [Addr.add]
       case c2=>intro u hu;simp at hu;subst hu;rfl
       case c3=>unfold maxLen;omega
       case c4=>omega
       case c5=>have :=HO5.out.size;first | (simp;done) | (simp;omega)
       intro v' w6 hown2 hgrow _
       have hsn:=ownPtrs_snoc (k:=nb y) hown2
       have hd6:DomAt B w6 n nb v lab (cutsW G (ks.take (j+1))):=(HD5.out.below ((Below.refl _ _).alloc (Nat.le_refl _) _)).apart (hown'.alloc _) (fun k hk hne=>hgrow.block k hk (fun e=>hne e))
       have ho6:OnlyG n nb w w6:=by
        have hz5:=HO5.out.size
        have hb5:Below w5.heap.size w5 (w5.alloc (.cells #[.pointer (some ⟨nb y,0,none⟩)] 75)):=(Below.refl _ _).alloc (Nat.le_refl _) _
        refine⟨Nat.le_trans hz5 (Nat.le_trans hb5.size hgrow.size),fun k hk hne=>?_,fun B2 hB2 hn2=>?_⟩
        ·refine((hgrow.block k (by have :=hb5.size;omega) (fun e=>by have :=(World.ownsRow.lt hown' k e.symm).1;omega)).trans (hb5.block k (by omega))).trans (HO5.out.block k hk hne)
        ·exact(HO5.out.below B2 hB2 hn2).trans (((Below.refl _ _).alloc (by omega) _).grown hgrow (by have :=hb5.size;omega) (fun q hq=>by have :=(World.ownsRow.lt hown' q hq).1;omega))
       have cf6:=fst_cell hd6 HKS.out.2.2.2 hdr1
       rw [List.getElem?_drop,Nat.add_zero]at cf6
       obtain⟨nx,hnx⟩:∃nx,lk (ks[j+1]?.map nb)=nx:=⟨_,rfl⟩
       rw [hnx]at cf6
       have H6:=Lib.hid (And.intro hsn (And.intro hd6 ho6))
       clear hown2 hgrow hsn hd6 ho6 hown5 hown' hdr1
       go_wp2
       go_roundg (ks.length-(j+1))
       case measure=>omega
       case rel=>exact⟨j+1,D2++[nb y],by omega,by simp;omega,hnx.symm,Lib.hid H6.out.1,Lib.hid H6.out.2.1,Lib.hid H6.out.2.2⟩
      ·obtain rfl:j=ks.length:=by omega
       rw [show ks[ks.length]? =none by simp,Option.map_none,lk_none]
       have hk9:=HD2.out
       rw [List.take_length,←HKS.out.1,←HKS.out.2.2.1,←emptW_snoc,←HKS.out.2.1]at hk9
       have HK9:=Lib.hid hk9
       clear hk9
       go_wp2
       refine⟨?rel,?measure⟩
       case rel=>exact⟨k+1,D2,by omega,by go_num,by omega,HR2,HK9,HO2⟩
       case measure=>simp [intOf];omega
    ·obtain rfl:k=l.length:=by omega
     have hk9:=HDk.out
     rw [List.take_length]at hk9
     have c05:wr.cell? ⟨s,0,none⟩=_:=(World.cell?_of_block (HO.out.block s HS.out.2.2.2.1 HS.out.2.1)).trans c0
     have c15:wr.cell? ⟨s,1,none⟩=_:=(World.cell?_of_block (HO.out.block s HS.out.2.2.2.1 HS.out.2.1)).trans c1
     have HK9:=Lib.hid hk9
     clear hk9
     have hr9:=HR.out
     unfold OwnPtrs at hr9
     obtain⟨sa,scap,rfl⟩:=ownsRow_slice hr9
     clear hr9
     go_wp2
     go_ret
     exact⟨⟨_,rfl⟩,Lib.hid (HK9.out.below ((Below.refl _ _).alloc (Nat.le_refl _) _)),Lib.hid (HO.out.of_below ((Below.refl _ _).alloc (Nat.le_refl _) _))⟩
end Go.Proofs.YtkdomegcacgpnaaGreat
namespace Go.Proofs.YtkdomegcacgpnaaGreat
theorem offL_same{T A:List Nat}(h:∀y∈T,y∉A):offL T A=A:=List.filter_eq_self.2 (fun y hy=>by
 have :y∉T:=fun hm=>h y hm hy
 simpa using this)
theorem mv_unw{n:Nat}{G:Wd}(hG:WOk n G){p g:Nat}{A B:List Nat}(hu:G.up p=some g)(hk:G.kids g=A++p::B)(hok:WOk n (mv G g (A++[p]) B (G.kids p))):UnwOut n G p g A B ((mv G g (A++[p]) B (G.kids p)).cut p):=by
 have hpg:p≠g:=fun e=>by
  have :=hG.not_up hu
  rw [e]at this
  exact this .refl
 have hno:∀z,z≠p→∀y∈G.kids p,y∉G.kids z:=fun z hz y hy hm=>by
  have h1:=(hG.iff z y).1 hm
  have h2:=(hG.iff p y).1 hy
  rw [h2]at h1
  exact hz (Option.some.inj h1).symm
 have hnd:=hG.nd g
 rw [hk]at hnd
 obtain⟨n1,n2,_⟩:=nd_parts hnd
 have hpk:p∉G.kids p:=fun hm=>by
  have h1:=(hG.iff p p).1 hm
  rw [hu]at h1
  exact hpg (Option.some.inj h1).symm
 have hng:=hno g (Ne.symm hpg)
 rw [hk]at hng
 have hA:offL (G.kids p) (A++[p])=A++[p]:=offL_same (fun y hy hm=>hng y hy (by
  rcases List.mem_append.1 hm with h | h
  ·exact List.mem_append_left _ h
  ·simp only [List.mem_singleton]at h;rw [h];simp))
 have hB:offL (G.kids p) B=B:=offL_same (fun y hy hm=>hng y hy (by simp [hm]))
 have hmv:mv G g (A++[p]) B (G.kids p)=(G.off (G.kids p)).ins g (A++[p]) (G.kids p) B:=by unfold mv;rw [hA,hB]
 rw [hmv]at hok ⊢
 refine⟨hok.cut p,?_,?_,fun z hzg hzp=>?_,by simp [Wd.cut],fun z hz=>?_,fun z hz hzp=>?_⟩
 ·show(((G.off (G.kids p)).ins g (A++[p]) (G.kids p) B).kids g).filter _=_
  simp only [Wd.ins,if_true]
  rw [List.filter_append,List.filter_append,List.filter_append,filter_none n1,filter_none hpk,filter_none n2]
  simp
 ·show(((G.off (G.kids p)).ins g (A++[p]) (G.kids p) B).kids p).filter _=_
  simp only [Wd.ins,if_neg hpg,Wd.off]
  have :offL (G.kids p) (G.kids p)=[]:=by simp [offL]
  rw [this]
  rfl
 ·show(((G.off (G.kids p)).ins g (A++[p]) (G.kids p) B).kids z).filter _=_
  simp only [Wd.ins,if_neg hzg,Wd.off]
  rw [offL_same (hno z hzp)]
  exact filter_none (fun hm=>by
   have :=(hG.iff z p).1 hm
   rw [hu]at this
   exact hzg (Option.some.inj this).symm)
 ·have hzp:z≠p:=fun e=>hpk (e▸hz)
  simp only [Wd.cut,Wd.ins]
  rw [if_neg hzp,if_pos hz]
 ·simp only [Wd.cut,Wd.ins,Wd.off]
  rw [if_neg hzp,if_neg hz,if_neg hz]
end Go.Proofs.YtkdomegcacgpnaaGreat
namespace Go.Proofs.YtkdomegcacgpnaaGreat
open Go.RowKit
def ManipPostA(s B n:Nat)(nb:Nat→Nat)(v:Nat→Value)(lab:Nat→NodeD)(F:Wd)(w:World)(e:Ending)(w':World):Prop:=e=.returned (.pointer (some ⟨s,0,none⟩))∧Hid (DomAt B w' n nb v lab F)∧Hid (WOk n F)∧∃wm,Hid (Below w.heap.size w wm)∧Hid (OnlyN n nb wm w')
set_option maxRecDepth 100000 in
set_option maxHeartbeats 4000000 in
theorem manip_after{B n:Nat}{w0 w:World}{nb:Nat→Nat}{v:Nat→Value}{lab:Nat→NodeD}{F:Wd}(h:DomAt B w0 n nb v lab F)(hF:WOk n F)(s:Nat)(sv:Value){x p:Nat}{A0 B0 ws:List Nat}(S:Nat)(hs:SelAt w0 s sv ([x].map nb) S)(hS:∀i,i<n→nb i<S)(hx:x<n)(hp:p<n)(hl:F.kids p=A0++B0)(hpx:F.up x=some p)(hA0:∃a,A0=a++[x])(hxw:x∉ws)
  (nv:Value) (hb0:Below w0.heap.size w0 w) (hns:w.ownsRow w0.heap.size 75 1 nv ws.length (ws.map fun y=>ptrV (nb y))) (hws:∀y∈ws,y<n) (hnd:ws.Nodup) (hwl:ws.length≤600) (hanc:∀y∈ws,¬Anc F y p):
  Calls Tryz.prog 80 #[.pointer (some ⟨s,0,none⟩),nv,.bool true,.func (.func 85) #[] #[]] w (ManipPostA s B n nb v lab (mv F p A0 B0 ws) w0):=by
 have hown:w0.ownsRow S 75 1 sv [x].length ([x].map fun y=>ptrV (nb y)):=by
  have h1:=hs.own
  unfold OwnPtrs at h1
  rw [List.length_map,List.map_map]at h1
  exact h1
 have c00:=hs.nodes
 obtain⟨sa,scap,rfl⟩:=ownsRow_slice hown
 obtain⟨sg,rfl⟩:∃sg,sa=some ⟨sg,0,none⟩:=by
  rcases hown.2 with ⟨_,h2⟩ | ⟨g0,c0_,cur,hv_,_⟩
  ·simp at h2
  ·simp at hv_;exact⟨g0,hv_.1⟩
 have c0:=cell_below hb0 c00
 obtain⟨na,ncap,ng,hnv,_,_,hn1,hn2,_,_⟩:=own_open hns
 subst hnv
 have hsgS:=(World.ownsRow.lt hown sg rfl).1
 have hngS:0<ws.length→w0.heap.size≤ng:=fun h0=>(World.ownsRow.lt hns ng (by rw [hn1 h0];rfl)).1
 have hSw:S≤w0.heap.size:=Nat.le_trans hs.base (Nat.le_of_lt (World.block_lt_of_cell? _ _ c00))
 have cs0:=own_nodes hown 0 (by simp)
 simp only [List.getD_cons_zero]at cs0
 have HSZ:=Lib.hid (size_any s _ _ _ w c0)
 have HD:=Lib.hid h
 have HF:=Lib.hid hF
 have HS:=Lib.hid (And.intro hS (And.intro hs.base (And.intro hsgS (And.intro hngS hSw))))
 have HB0:=Lib.hid hb0
 have HROW:=Lib.hid hns
 have HNA:=Lib.hid hn1
 have HW:=Lib.hid (And.intro hws (And.intro hnd hanc))
 have HL:=Lib.hid hl
 have HPX:=Lib.hid (And.intro hpx (And.intro hA0 hxw))
 clear h hF hs hown hns hn1 hn2 hws hnd hanc hl hsgS hngS hS hpx hA0 hxw hb0 hSw
 go_enter Tryz.func80,Tryz.ntmps80
 go_wp2_with fail
 refine HSZ.out.mono ?_
 rintro e w1 ⟨rfl,rfl⟩
 clear HSZ
 go_wp2
 go_loopw [10,11] (fun iv jv wr=>∃k:Nat,k≤ws.length∧iv=.int .i64 (k:Int)∧jv=.int .i64 ((ws.length:Int)-1-(k:Int))∧Hid (Below w0.heap.size w0 wr)∧Hid (wr.ownsRow w0.heap.size 75 1 (.slice na ws.length ncap) ws.length ((List.range ws.length).map fun q=>ptrV (nb (swp ws k q))))) (fun iv _ _=>ws.length-(intOf iv).toNat)
 case atStart=>
  refine⟨0,by omega,by go_num,by go_num,HB0,Lib.hid ?_⟩
  have h1:=HROW.out
  rw [row_range]at h1
  have e:((List.range ws.length).map fun q=>ptrV (nb (swp ws 0 q)))=(List.range ws.length).map fun q=>ptrV (nb (ws.getD q 0)):=List.map_congr_left (fun q hq=>by rw [swp_zero (List.mem_range.1 hq)])
  rw [e]
  exact h1
 case round=>
  obtain⟨k,hk,rfl,rfl,HBr,HRr⟩:=hrel
  by_cases hlt:2*k+1<ws.length
  ·obtain⟨J,hJ⟩:∃J:Nat,ws.length-1-k=J:=⟨_,rfl⟩
   have hJI:(ws.length:Int)-1-(k:Int)=(J:Int):=by omega
   rw [hJI]
   have hkJ:(k:Int)<(J:Int):=by omega
   have hkm:(k:Int)<(ws.length:Int):=by omega
   have hJm:(J:Int)<(ws.length:Int):=by omega
   obtain rfl:=HNA.out (by omega)
   have ck:=row_cell (f:=fun q=>nb (swp ws k q)) HRr.out (i:=k) (by omega)
   have cJ:=row_cell (f:=fun q=>nb (swp ws k q)) HRr.out (i:=J) (by omega)
   obtain⟨b1,hb1⟩:∃b1,nb (swp ws k k)=b1:=⟨_,rfl⟩
   obtain⟨b2,hb2⟩:∃b2,nb (swp ws k J)=b2:=⟨_,rfl⟩
   simp only [hb1]at ck
   simp only [hb2]at cJ
   have hne:k≠J:=by omega
   have fk:wr.frozen? ⟨ng,k,none⟩=false:=World.ownsRow.frozenAt HRr.out k
   have fJ:wr.frozen? ⟨ng,J,none⟩=false:=World.ownsRow.frozenAt HRr.out J
   have HSW:=Lib.hid (And.intro hJ (And.intro hb1 hb2))
   clear hJ hb1 hb2 hJI
   go_wp2
   go_region
   go_wp2
   obtain⟨eJ,e1,e2⟩:=HSW.out
   have hown2:=ownsRow_set (ownsRow_set HRr.out (i:=k) (by omega) (ptrV b2)) (i:=J) (by omega) (ptrV b1)
   rw [rev_step2 hlt eJ e1 e2]at hown2
   have hJI2:(J:Int)=(ws.length:Int)-1-(k:Int):=by omega
   refine⟨?rel,?measure⟩
   case rel=>exact⟨k+1,by omega,by go_num,by go_num,Lib.hid (Below.setCell (Below.setCell HBr.out (HS.out.2.2.2.1 (by omega)) _) (HS.out.2.2.2.1 (by omega)) _).drew,Lib.hid (ownsRow_kept hown2 (fun _ _=>rfl))⟩
   case measure=>simp [intOf];omega
  ·have hrow:wr.ownsRow w0.heap.size 75 1 (.slice na ws.length ncap) ws.reverse.length (ws.reverse.map fun y=>ptrV (nb y)):=by
    have h1:=HRr.out
    rw [rev_end (by omega)]at h1
    rw [List.length_reverse]
    exact h1
   obtain⟨V,hV⟩:∃V,ws.reverse=V:=⟨_,rfl⟩
   have hVl:V.length=ws.length:=by rw [←hV,List.length_reverse]
   have hVm:∀y,y∈V↔y∈ws:=fun y=>by rw [←hV];exact List.mem_reverse
   have hVn:V.Nodup:=by rw [←hV];exact nodup_rev HW.out.2.1
   rw [hV]at hrow
   have hVc:0<ws.length→∀i,i<V.length→wr.cell? ⟨ng,i,none⟩=some (.pointer (some ⟨nb (V.getD i 0),0,none⟩)):=fun h0=>by
    obtain rfl:=HNA.out h0
    rw [←hVl]at hrow
    exact own_nodes hrow
   have hdm:=HD.out.below HBr.out
   have c1:=cell_below HBr.out c00
   have cs1:=cell_below HBr.out cs0
   have hjf:decide ((k:Int)<(ws.length:Int)-1-(k:Int))=false:=by simp;omega
   have HVV:=Lib.hid (And.intro hV (And.intro hVm (And.intro hVn hVc)))
   have HDM:=Lib.hid hdm
   have HLT:=Lib.hid hlt
   have HVL:=Lib.hid hVl
   clear hV hVm hVn hVc hrow hdm c00 c0 cs0 HROW HRr hlt
   obtain⟨m,hm⟩:∃m,ws.length=m:=⟨_,rfl⟩
   have HM:=Lib.hid hm
   rw [hm]at hk hwl hjf hVl ⊢
   clear hm hVl
   obtain⟨wa,hwa⟩:∃wa,wa=wr:=⟨_,rfl⟩
   subst hwa
   go_wp2
   go_loopw [49] (fun iv wq=>∃i:Nat,iv=.int .i64 (i:Int)∧Hid (OnlyN n nb wa wq)∧((i=0∧Hid (DomAt B wq n nb v lab F))∨(i=1∧Hid (DomAt B wq n nb v lab (mvA F p A0 B0 V))∧Hid (WOk n (mvA F p A0 B0 V))))) (fun iv _=>1-(intOf iv).toNat)
   case atStart=>exact⟨0,by go_num,Lib.hid (OnlyN.refl _ _ _),.inl ⟨rfl,HDM⟩⟩
   case round=>
    obtain⟨i,rfl,HO,hcase⟩:=hrel
    have keep:∀(w':World),OnlyN n nb wa w'→∀(q o:Nat) (z:Value),S≤q→wa.cell? ⟨q,o,none⟩=some z→w'.cell? ⟨q,o,none⟩=some z:=fun w' ho q o z hq hz=>
     (World.cell?_of_block (ho.block q (fun i hi e=>by have :=HS.out.1 i hi;omega))).trans hz
    have HKEEP:=Lib.hid keep
    clear keep
    rcases hcase with ⟨rfl,HDr⟩ | ⟨rfl,HDr,HWr⟩
    ·have cx:=HKEEP.out _ HO.out sg 0 _ HS.out.2.2.1 cs1
     go_wp2
     go_loopw [56] (fun jv wq2=>∃k:Nat,k≤m∧jv=.int .i64 (k:Int)∧Hid (OnlyN n nb wa wq2)∧Hid (DomAt B wq2 n nb v lab (mvA F p A0 B0 (V.take k)))∧Hid (WOk n (mvA F p A0 B0 (V.take k)))) (fun jv _=>m-(intOf jv).toNat)
     case atStart=>exact⟨0,by omega,by go_num,HO,Lib.hid (by rw [List.take_zero,mvA_nil HL.out];exact HDr.out),Lib.hid (by rw [List.take_zero,mvA_nil HL.out];exact HF.out)⟩
     case round=>
      obtain⟨k,hk,rfl,HOk,HDk,HWk⟩:=hrel
      by_cases hlt:k<m
      ·have hmw:=HM.out
       obtain rfl:=HNA.out (by omega)
       have hVlt:k<V.length:=by rw [HVL.out];omega
       have ck:=HKEEP.out _ HOk.out ng k _ (Nat.le_trans HS.out.2.2.2.2 (HS.out.2.2.2.1 (by omega))) (HVV.out.2.2.2 (by omega) k hVlt)
       have hyV:V.getD k 0∈V:=getD_mem' (d:=0) hVlt
       have hyw:V.getD k 0∈ws:=(HVV.out.2.1 _).1 hyV
       have hyn:=HW.out.1 _ hyw
       have htk:=take_snoc hVlt
       have hyT:V.getD k 0∉V.take k:=fun hm=>by
        have h4:=HVV.out.2.2.1
        rw [←List.take_append_drop k V,List.nodup_append]at h4
        refine h4.2.2 _ hm _ ?_ rfl
        rw [List.drop_eq_getElem_cons hVlt,List.getD_eq_getElem?_getD,List.getElem?_eq_getElem hVlt]
        exact List.mem_cons_self ..
       obtain⟨y,hy⟩:∃y,V.getD k 0=y:=⟨_,rfl⟩
       rw [hy]at ck hyw hyn htk hyT
       have hkI:(k:Int)<(m:Int):=by omega
       obtain⟨m1,m2,m3,m4,m5,m6⟩:=mvA_step HF.out hp HL.out (T:=V.take k) (W:=ws) (fun q hq=>(HVV.out.2.1 _).1 (List.mem_of_mem_take hq)) HW.out.2.2 hyw hyT hyn HWk.out
       rw [←htk]at m6
       have hxy:x≠y:=fun e=>HPX.out.2.2 (by rw [e];exact hyw)
       have hxT:x∉V.take k:=fun hm=>HPX.out.2.2 ((HVV.out.2.1 _).1 (List.mem_of_mem_take hm))
       have hupx:((mvA F p A0 B0 (V.take k)).cut y).up x=F.up x:=by
        simp only [Wd.cut,mvA,Wd.ins,Wd.off,if_neg hxy,List.mem_reverse,if_neg hxT]
       obtain⟨a0,ha0⟩:=HPX.out.2.1
       have hA1:offL (V.take k++[y]) A0=offL (V.take k++[y]) a0++[x]:=by
        rw [ha0,offL_append,offL_keep (fun hm=>by rcases List.mem_append.1 hm with h | h;exact hxT h;simp at h;exact hxy h)]
       have hfun:∀wq,DomAt B wq n nb v lab ((mvA F p A0 B0 (V.take k)).cut y)→Calls Tryz.prog 85 #[.pointer (some ⟨nb x,0,none⟩),.pointer (some ⟨nb y,0,none⟩)] wq (TurnPost B n nb v lab (mvA F p A0 B0 (V.take (k+1))) wq):=fun wq hd=>by
        have h9:=fun_after (x:=x) hd m1 (by rw [hupx];exact HPX.out.1) hp hyn m3 m2 m4 hA1
        rwa [m5,←htk]at h9
       have c0y:=(HDk.out.node y hyn).par
       have HFUN:=Lib.hid hfun
       have HM6:=Lib.hid m6
       clear hA1 ha0 hupx hxy hxT hmw hyV hVlt
       cases hu:(mvA F p A0 B0 (V.take k)).up y with
       | none=>
        have e0:(linkR (mvA F p A0 B0 (V.take k)) nb (lab y) (v y) y).par=none:=by simp [linkR,hu]
        rw [e0,lk_none]at c0y
        have HC:=Lib.hid (hfun _ (by rw [HWk.out.cut_none hu];exact HDk.out))
        clear hfun e0 hu m1 m2 m3 m4 m5 m6 hy htk hyT hyw
        go_wp2_with fail
        refine HC.out.mono ?_
        rintro e w3 ⟨rfl,hd3,ho3⟩
        have HO3:=Lib.hid (HOk.out.trans ho3.out)
        clear ho3 HC ck c0y
        go_wp2
        refine⟨?rel,?measure⟩
        case rel=>exact⟨_,_,_,_,_,_,_,_,_,_,_,_,_,_,_,_,_,_,_,_,_,_,_,_,_,_,_,_,_,⟨k+1,by omega,by go_num,HO3,hd3,HM6⟩,rfl⟩
        case measure=>simp [intOf];omega
       | some q=>
        have e0:(linkR (mvA F p A0 B0 (V.take k)) nb (lab y) (v y) y).par=some (nb q):=by simp [linkR,hu]
        rw [e0,lk_some]at c0y
        have HRC:=Lib.hid (removeChild_any HDk.out HWk.out hu)
        clear hfun e0 hu m1 m2 m3 m4 m5 m6 hy htk hyT hyw
        go_wp2_with fail
        refine HRC.out.mono ?_
        rintro e w2 ⟨rfl,hd2,ho2⟩
        have HC:=Lib.hid (HFUN.out w2 hd2.out)
        have HO2:=Lib.hid (HOk.out.trans ho2.out)
        clear ho2 HRC ck c0y
        go_wp2_with fail
        refine HC.out.mono ?_
        rintro e w3 ⟨rfl,hd3,ho3⟩
        have HO3:=Lib.hid (HO2.out.trans ho3.out)
        clear ho3 HC
        go_wp2
        refine⟨?rel,?measure⟩
        case rel=>exact⟨_,_,_,_,_,_,_,_,_,_,_,_,_,_,_,_,_,_,_,_,_,_,_,_,_,_,_,_,_,⟨k+1,by omega,by go_num,HO3,hd3,HM6⟩,rfl⟩
        case measure=>simp [intOf];omega
      ·obtain rfl:k=m:=by omega
       have hd:=HDk.out
       have hw:=HWk.out
       rw [List.take_of_length_le (by rw [HVL.out,HM.out];exact Nat.le_refl _)]at hd hw
       have HD9:=Lib.hid hd
       have HW9:=Lib.hid hw
       clear hd hw
       go_wp2
       refine⟨?rel,?measure⟩
       case rel=>exact⟨1,by go_num,HOk,.inr ⟨rfl,HD9,HW9⟩⟩
       case measure=>simp [intOf]
    ·have hd:=HDr.out
     have hw:=HWr.out
     rw [←HVV.out.1,mvA_end]at hd hw
     have HD9:=Lib.hid hd
     have HW9:=Lib.hid hw
     clear hd hw
     go_wp2
     go_ret
     exact⟨rfl,HD9,HW9,_,HBr,HO⟩
set_option maxRecDepth 100000 in
set_option maxHeartbeats 1000000 in
theorem nodes_after{X:Ending→World→Prop}(s:Nat)(nv:Value)(w:World)(h:Calls Tryz.prog 80 #[.pointer (some ⟨s,0,none⟩),nv,.bool true,.func (.func 85) #[] #[]] w (fun e w'=>e=.returned (.pointer (some ⟨s,0,none⟩))∧X e w')):
  Calls Tryz.prog 43 #[.pointer (some ⟨s,0,none⟩),nv] w (fun e w'=>e=.returned (.pointer (some ⟨s,0,none⟩))∧X e w'):=by
 have H:=Lib.hid h
 clear h
 go_enter Tryz.func43,Tryz.ntmps43
 go_wp2_with fail
 refine H.out.mono ?_
 rintro e w1 ⟨rfl,hx⟩
 go_wp2
 go_ret
 exact⟨rfl,hx⟩
end Go.Proofs.YtkdomegcacgpnaaGreat
