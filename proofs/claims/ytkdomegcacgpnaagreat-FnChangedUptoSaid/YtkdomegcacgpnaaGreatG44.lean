/- Parts of a proof: AttrMany, ProgMarks, ChangedH. -/
import Derived.Test.YtkdomegcacgpnaaGreatG32
import Derived.Test.YtkdomegcacgpnaaGreatG28
import Derived.Test.YtkdomegcacgpnaaGreatG21
import Derived.Test.YtkdomegcacgpnaaGreatG43
import Derived.Test.YtkdomegcacgpnaaGreatG42
import Derived.Test.YtkdomegcacgpnaaGreatG11
import Derived.Test.YtkdomegcacgpnaaGreatG27
import Derived.Test.YtkdomegcacgpnaaGreatG38
import Derived.Test.YtkdomegcacgpnaaGreatG03
set_option linter.unusedVariables false
set_option linter.unusedSimpArgs false
namespace Go.Proofs.YtkdomegcacgpnaaGreat
open Go.RowKit
def LabA(R:KVs→KVs→Prop)(lab lab':Nat→NodeD)(done:List Nat):Prop:=
 ∀i,(i∉done→lab' i=lab i)∧(i∈done→∃A,lab' i={lab i with attrs:=A}∧R (lab i).attrs A)
structure AttMid (R:KVs→KVs→Prop) (B n:Nat) (nb:Nat→Nat) (v:Nat→Value) (lab:Nat→NodeD) (F:Wd) (w wr:World) (done:List Nat) (v':Nat→Value) (lab':Nat→NodeD):Prop where
 dom:DomAt B wr n nb v' lab' F
 labs:LabA R lab lab' done
 only :OnlyC B n nb v w wr
 own:∀i,i<n→∀b,(v' i).ownBlock=some b→(v i).ownBlock=some b∨w.heap.size≤b
theorem AttMid.start{R:KVs→KVs→Prop}{B n:Nat}{nb:Nat→Nat}{v:Nat→Value}{lab:Nat→NodeD}{F:Wd}{w:World}(h:DomAt B w n nb v lab F):AttMid R B n nb v lab F w w [] v lab:=
 ⟨h,fun i=>⟨fun _=>rfl,fun hi=>by simp at hi⟩,OnlyC.refl _ _ _ _ _,fun i hi b hb=>.inl hb⟩
theorem AttMid.step{R:KVs→KVs→Prop}{B n:Nat}{nb:Nat→Nat}{v:Nat→Value}{lab:Nat→NodeD}{F:Wd}{w wr w':World}{done:List Nat}{v':Nat→Value}{lab':Nat→NodeD}(h:AttMid R B n nb v lab F w wr done v' lab'){x:Nat}(hx:x<n)(hnd:x∉done){v1:Value}{A:KVs}
  (hu:Reattr B (nb x) (linkR F nb (lab' x) (v' x) x) wr w' v1 A) (hg:R (lab x).attrs A):
  AttMid R B n nb v lab F w w' (done++[x]) (fun j=>if j=x then v1 else v' j) (fun j=>if j=x then{lab' x with attrs:=A}else lab' j):=by
 have hlx:=(h.labs x).1 hnd
 refine⟨h.dom.reattr hx hu,fun i=>⟨fun hi=>?_,fun hi=>?_⟩,⟨Nat.le_trans h.only.size hu.size,fun k hk h1 h2=>?_,fun B' h1 h2=>(h.only.below B' h1 h2).trans (hu.bel B' h1 (h2 x hx))⟩,fun i hi b hb=>?_⟩
 ·simp only [List.mem_append,List.mem_singleton,not_or]at hi
  simp only [if_neg hi.2]
  exact(h.labs i).1 hi.1
 ·by_cases e:i=x
  ·subst e
   exact⟨A,by simp only [if_true,hlx],hg⟩
  ·simp only [if_neg e]
   simp only [List.mem_append,List.mem_singleton]at hi
   rcases hi with hi | hi
   ·exact(h.labs i).2 hi
   ·exact absurd hi e
 ·rw [hu.keep k (Nat.lt_of_lt_of_le hk h.only.size) (h1 x hx) (fun e=>?_)]
  ·exact h.only.block k hk h1 h2
  ·rcases h.own x hx k e with h3 | h3
   ·exact h2 x hx h3
   ·omega
 ·by_cases e:i=x
  ·subst e
   simp only [if_true]at hb
   rcases hu.at_ b hb with h3 | h3
   ·exact h.own i hi b h3
   ·exact .inr (Nat.le_trans h.only.size h3)
  ·simp only [if_neg e]at hb
   exact h.own i hi b hb
def AttPost(R:KVs→KVs→Prop)(sp B n:Nat)(nb:Nat→Nat)(v:Nat→Value)(lab:Nat→NodeD)(F:Wd)(l:List Nat)(w:World)(e:Ending)(w':World):Prop:=
 e=.returned (.pointer (some ⟨sp,0,none⟩))∧∃v' lab',Hid (DomAt B w' n nb v' lab' F)∧Hid (LabA R lab lab' l)∧Hid (OnlyC B n nb v w w')
set_option maxRecDepth 100000 in
set_option maxHeartbeats 2000000 in
theorem remAttrMany_any{B n:Nat}{w:World}{nb:Nat→Nat}{v:Nat→Value}{lab:Nat→NodeD}{F:Wd}(h:DomAt B w n nb v lab F)(l:List Nat)(hin:∀x∈l,x<n)(hnd:Once l)(hln:l.length≤200)(hfit:∀x∈l,(lab x).attrs.length≤100)
  {sp sg scap:Nat} {sa:Option Addr} (hsa:0<l.length→sa=some ⟨sg,0,none⟩) (c0:w.cell? ⟨sp,0,none⟩=some (.slice sa l.length scap)) (crow:∀i,i<l.length→w.cell? ⟨sg,i,none⟩=some (.pointer (some ⟨nb (l.getD i 0),0,none⟩))) (hne:0<l.length→∀i,i<n→sg≠nb i∧(v i).ownBlock≠some sg) (key:ByteArray):
  Calls Tryz.prog 36 #[.pointer (some ⟨sp,0,none⟩),.string key] w (AttPost (RemK key.toList) sp B n nb v lab F l w):=by
 have HMID:=Lib.hid (AttMid.start (R:=RemK key.toList) h)
 have hrow:0<l.length→∀(w9:World),OnlyC B n nb v w w9→∀i,i<l.length→w9.cell? ⟨sg,i,none⟩=some (.pointer (some ⟨nb (l.getD i 0),0,none⟩)):=fun hl0 w9 ho i hi=>
  (World.cell?_of_block (ho.block sg (World.block_lt_of_cell? w _ (crow i hi)) (fun i hi=>(hne hl0 i hi).1) (fun i hi=>(hne hl0 i hi).2))).trans (crow i hi)
 have HROW:=Lib.hid hrow
 have HIN:=Lib.hid (And.intro hin (And.intro hnd hfit))
 have HSA:=Lib.hid hsa
 clear h hin hnd hfit hsa crow hne hrow
 go_enter Tryz.func36,Tryz.ntmps36
 go_wp2
 go_loopw [12] (fun iv wr=>∃(i:Nat) (v':Nat→Value) (lab':Nat→NodeD),iv=.int .i64 (i:Int)∧i≤l.length∧Hid (AttMid (RemK key.toList) B n nb v lab F w wr (l.take i) v' lab')) (fun iv _=>l.length-(intOf iv).toNat)
 case atStart=>exact⟨0,v,lab,by go_num,by omega,HMID⟩
 case round=>
  obtain⟨i,v',lab',rfl,hi,HU⟩:=hrel
  by_cases hlt:i<l.length
  ·have hym:=getD_mem' (d:=0) hlt
   have hyn:=HIN.out.1 _ hym
   have hyg:=HIN.out.2.2 _ hym
   obtain rfl:=HSA.out (by omega)
   have ck:=HROW.out (by omega) wr HU.out.only i hlt
   have hnot':l.getD i 0∉l.take i:=HIN.out.2.1.notin hlt
   have hsn:l.take (i+1)=l.take i++[l.getD i 0]:=take_snoc hlt
   obtain⟨y,hy⟩:∃y,l.getD i 0=y:=⟨_,rfl⟩
   rw [hy]at ck hyn hyg hnot' hsn
   have hlab:=(HU.out.labs y).1 hnot'
   have hra:=removeAttrK_any key B (nb y) (linkR F nb (lab' y) (v' y) y) (lab' y).attrs wr (HU.out.dom.node y hyn) (HU.out.dom.own y hyn) (by rw [hlab];exact hyg)
   have HRA:=Lib.hid hra
   have HN:=Lib.hid (And.intro hyn (And.intro hnot' (And.intro hsn hlab)))
   obtain⟨X,hX⟩:∃X,nb y=X:=⟨_,rfl⟩
   rw [hX]at ck HRA
   have HXX:=Lib.hid hX
   have hiI:(i:Int)<(l.length:Int):=by omega
   clear hra hym hyn hyg hnot' hsn hy hX hlab
   go_wp2_with fail
   refine HRA.out.mono ?_
   rintro e w4 ⟨v1,A,rfl,hu⟩
   have hu2:=hu.out
   rw [←HXX.out]at hu2
   have hrm:=hu2.rem
   rw [HN.out.2.2.2]at hrm
   have hnew:=HU.out.step HN.out.1 HN.out.2.1 hu2.re hrm
   rw [←HN.out.2.2.1]at hnew
   have HNEW:=Lib.hid hnew
   clear hnew hrm hu2 hu HRA ck
   go_wp2
   refine⟨?rel,?measure⟩
   case rel=>exact⟨i+1,_,_,by go_num,by omega,HNEW⟩
   case measure=>simp [intOf];omega
  ·obtain rfl:i=l.length:=by omega
   have hu:=HU.out
   rw [List.take_length]at hu
   have HU2:=Lib.hid hu
   clear hu HU
   go_wp2
   go_ret
   exact⟨rfl,v',lab',Lib.hid HU2.out.dom,Lib.hid HU2.out.labs,Lib.hid HU2.out.only⟩
theorem reattr_val{B g gr cap k:Nat}{r:NRec}{w:World}{l:KVs}(hn:World.nodeAt w g r)(ho:w.ownsRow B 119 3 r.attr l.length (attrCells l))(hr:r.attr=.slice (some ⟨gr,0,none⟩) l.length cap)(hk:k<l.length)(val:ByteArray):
  Reattr B g r w (w.setCell ⟨gr,k*3+2,none⟩ (.string val)) (.slice (some ⟨gr,0,none⟩) l.length cap) (l.set k ((l.getD k default).1,val)):=by
 have hne:r.attr.ownBlock≠some g:=node_ne_own hn ho
 rw [hr]at ho hne
 have hob:Value.ownBlock (.slice (some ⟨gr,0,none⟩) l.length cap)=some gr:=rfl
 have hgg:g≠gr:=fun e=>hne (by rw [hob,e])
 have hgr:=(World.ownsRow.lt ho gr rfl).1
 refine⟨?_,?_,fun q hq h1 h2=>?_,by simp [World.setCell],fun B' h1 h2=>Below.setCell (Below.refl _ _) (Nat.le_trans h1 hgr) _,fun b hb=>.inl (by rw [hr];exact hb)⟩
 ·have h1:({r with attr:=.slice (some ⟨gr,0,none⟩) l.length cap}:NRec)=r:=by rw [←hr]
  rw [h1]
  unfold World.nodeAt at hn ⊢
  rw [heap_setCell_other _ _ _ _ hgg]
  exact hn
 ·rw [List.length_set,←attrCells_set l k val hk]
  exact ownsRow_set ho (by omega) _
 ·exact heap_setCell_other _ _ _ _ (fun e=>h2 (by rw [hr,hob,e]))
set_option maxRecDepth 100000 in
set_option maxHeartbeats 4000000 in
theorem setAttrMany_any{B n:Nat}{w:World}{nb:Nat→Nat}{v:Nat→Value}{lab:Nat→NodeD}{F:Wd}(h:DomAt B w n nb v lab F)(hB:B≤w.heap.size)(l:List Nat)(hin:∀x∈l,x<n)(hnd:Once l)(hln:l.length≤200)(hfit:∀x∈l,(lab x).attrs.length≤100)
  {sp sg scap:Nat} {sa:Option Addr} (hsa:0<l.length→sa=some ⟨sg,0,none⟩) (c0:w.cell? ⟨sp,0,none⟩=some (.slice sa l.length scap)) (crow:∀i,i<l.length→w.cell? ⟨sg,i,none⟩=some (.pointer (some ⟨nb (l.getD i 0),0,none⟩))) (hne:0<l.length→∀i,i<n→sg≠nb i∧(v i).ownBlock≠some sg) (key val:ByteArray):
  Calls Tryz.prog 35 #[.pointer (some ⟨sp,0,none⟩),.string key,.string val] w (AttPost (fun L A=>A=setKV L key val) sp B n nb v lab F l w):=by
 obtain⟨i0,hii,hz0,hz1,hz2⟩:=info_parts Tryz.infoAttr
 have HMID:=Lib.hid (AttMid.start (R:=fun L A=>A=setKV L key val) h)
 have hrow:0<l.length→∀(w9:World),OnlyC B n nb v w w9→∀i,i<l.length→w9.cell? ⟨sg,i,none⟩=some (.pointer (some ⟨nb (l.getD i 0),0,none⟩)):=fun hl0 w9 ho i hi=>
  (World.cell?_of_block (ho.block sg (World.block_lt_of_cell? w _ (crow i hi)) (fun i hi=>(hne hl0 i hi).1) (fun i hi=>(hne hl0 i hi).2))).trans (crow i hi)
 have HROW:=Lib.hid hrow
 have HIN:=Lib.hid (And.intro hin (And.intro hnd hfit))
 have HSA:=Lib.hid hsa
 have HBW:=Lib.hid hB
 clear h hin hnd hfit hsa crow hne hrow hB
 go_enter Tryz.func35,Tryz.ntmps35
 go_wp2
 go_loopw [15] (fun iv wr=>∃(i:Nat) (v':Nat→Value) (lab':Nat→NodeD),iv=.int .i64 (i:Int)∧i≤l.length∧Hid (AttMid (fun L A=>A=setKV L key val) B n nb v lab F w wr (l.take i) v' lab')) (fun iv _=>l.length-(intOf iv).toNat)
 case atStart=>exact⟨0,v,lab,by go_num,by omega,HMID⟩
 case round=>
  obtain⟨i,v',lab',rfl,hi,HU⟩:=hrel
  by_cases hlt:i<l.length
  ·have hym:=getD_mem' (d:=0) hlt
   have hyn:=HIN.out.1 _ hym
   have hyg:=HIN.out.2.2 _ hym
   obtain rfl:=HSA.out (by omega)
   have ck:=HROW.out (by omega) wr HU.out.only i hlt
   have hnot':l.getD i 0∉l.take i:=HIN.out.2.1.notin hlt
   have hsn:l.take (i+1)=l.take i++[l.getD i 0]:=take_snoc hlt
   obtain⟨y,hy⟩:∃y,l.getD i 0=y:=⟨_,rfl⟩
   rw [hy]at ck hyn hyg hnot' hsn
   have hlab:=(HU.out.labs y).1 hnot'
   have hn0:=HU.out.dom.node y hyn
   have ho0:=HU.out.dom.own y hyn
   have hstep:∀w' v1 A,Reattr B (nb y) (linkR F nb (lab' y) (v' y) y) wr w' v1 A→A=setKV (lab' y).attrs key val→AttMid (fun L A=>A=setKV L key val) B n nb v lab F w w' (l.take (i+1)) (fun j=>if j=y then v1 else v' j) (fun j=>if j=y then{lab' y with attrs:=A}else lab' j):=fun w' v1 A hu hA=>by
    rw [hsn]
    exact HU.out.step hyn hnot' hu (by rw [hA,hlab])
   have hlen:(lab' y).attrs.length≤100:=by rw [hlab];exact hyg
   obtain⟨r,hr⟩:∃r,linkR F nb (lab' y) (v' y) y=r:=⟨_,rfl⟩
   have hra:r.attr=v' y:=by rw [←hr];rfl
   rw [←hra]at ho0
   rw [hr]at hn0 hstep
   obtain⟨K,hK⟩:∃K,(lab' y).attrs=K:=⟨_,rfl⟩
   rw [hK]at ho0 hstep hlen
   obtain⟨X,hX⟩:∃X,nb y=X:=⟨_,rfl⟩
   rw [hX]at ck hn0 hstep
   obtain⟨a,cap,gr,hvv,hm,ha,hc⟩:=attr_open ho0
   have HGP:=Lib.hid (getPtr_any X gr cap a r K key wr hn0 hvv hm ha hc)
   have HN:=Lib.hid hn0
   have HO:=Lib.hid ho0
   have HV:=Lib.hid (And.intro hvv ha)
   have HST:=Lib.hid hstep
   have HB2:=Lib.hid (Nat.le_trans HBW.out HU.out.only.size)
   obtain⟨vr,hrv⟩:∃v,r.attr=v:=⟨_,rfl⟩
   have HRV:=Lib.hid hrv
   have hiI:(i:Int)<(l.length:Int):=by omega
   have HLT:=Lib.hid hlt
   clear hym hyn hyg hnot' hsn hy hX hlab hn0 ho0 hstep hr hra hK hvv hm ha hc hrv HU HMID hlt
   go_wp2_with fail
   refine HGP.out.mono ?_
   rintro e w1 ⟨⟨rfl,hno⟩ | ⟨k,hk,rfl,hno,he⟩,hb1⟩
   ·have HSET:=Lib.hid (set_none val hno)
    have n1:=nodeAt_below HN.out hb1.out
    have c9:=n1.attr
    rw [HRV.out]at c9
    have f9:=n1.free 9
    have o1:=ownsRow_kept HO.out (fun k hk=>hb1.out.block k (World.ownsRow.lt HO.out k hk).2)
    rw [HRV.out]at o1
    have hlt1:=n1.lt
    obtain⟨wa,hwa⟩:∃wa,w1.alloc (.cells #[.string ByteArray.empty,.string key,.string val] 119)=wa:=⟨_,rfl⟩
    have c9a:wa.cell? ⟨X,9,none⟩=some vr:=by rw [←hwa];exact(World.cell?_alloc_lt w1 _ ⟨X,9,none⟩ hlt1).trans c9
    have f9a:wa.frozen? ⟨X,9,none⟩=false:=by rw [←hwa];exact(World.frozen?_alloc_old w1 _ ⟨X,9,none⟩ (Nat.ne_of_lt hlt1)).trans f9
    have hnews:∀j u,[Value.string ByteArray.empty,.string key,.string val][j]? =some u→wa.cell? ((⟨w1.heap.size,0,none⟩:Addr).add j)=some u:=by
     rw [←hwa]
     exact World.news_of_block (cs:= #[.string ByteArray.empty,.string key,.string val]) (t:=119) (fr:=(0,0)) (heap_alloc_new w1 _)
    have hownW:wa.ownsRow B 119 3 vr K.length (attrCells K):=by rw [←hwa];exact World.ownsRow.alloc o1 _
    have hna:World.nodeAt wa X r:=by rw [←hwa];exact n1.alloc _
    have hba:Below wr.heap.size wr wa:=by rw [←hwa];exact hb1.out.alloc hb1.out.size _
    have hne:some X≠vr.ownBlock:=fun e=>node_ne_own hna hownW e.symm
    have HNA:=Lib.hid (And.intro hna hba)
    have HW:=Lib.hid hownW
    have HNEWS:=Lib.hid hnews
    have HNE:=Lib.hid hne
    have HSA2:=Lib.hid (show B≤wa.heap.size by have :=hba.size;have :=HB2.out;omega)
    clear hno hb1 n1 o1 hnews hownW hne f9 hna hba
    subst hwa
    go_wp2_with (at_builtin;refine wpList_append_lies _ rfl _ _ 112 rfl B 119 i0 (.agg #[.string ByteArray.empty,.string ByteArray.empty,.string ByteArray.empty]) 3 48 Tryz.underlying112 hii hz0 hz1 hz2 rfl (by decide) vr K.length (attrCells K) rfl HW.out ⟨w1.heap.size,0,none⟩ 1 1 [.string ByteArray.empty,.string key,.string val] rfl rfl HNEWS.out (by simp [Value.oneCell']) (by omega) (by unfold maxLen;omega) (by omega) (by exact HSA2.out) _ rfl ?_)
    intro g2 cap2 w2 hown2 hgrow hat hlt2
    have hc9:w2.cell? ⟨X,9,none⟩=some vr:=(hgrow.cell_far ⟨X,9,none⟩ (by simp;omega) HNE.out).trans c9a
    have hf9:w2.frozen? ⟨X,9,none⟩=false:=(hgrow.frozen_far ⟨X,9,none⟩ (by simp;omega) HNE.out).trans f9a
    have e1:attrCells K++[.string ByteArray.empty,.string key,.string val]=attrCells (K++[(key,val)]):=by rw [attrCells_snoc]
    rw [e1]at hown2
    have hlen2:(K++[(key,val)]).length=K.length+1:=by simp
    have hst0:=reattr_app (B:=B) (g:=X) (r:=r) HNA.out.1 (by rw [HRV.out];exact HW.out) (by rw [HRV.out];exact hgrow) hlen2 hown2 (by rw [HRV.out,World.size_alloc];exact hat)
    have hst:=Reattr.ahead HNA.out.2 HN.out.lt HB2.out hst0
    have HNEW:=Lib.hid (HST.out _ _ _ hst HSET.out.symm)
    clear hst hst0 hown2 hgrow hat hlt2 c9 c9a f9a e1 hlen2
    go_wp2
    go_roundw
    case rel=>exact⟨i+1,_,_,by go_num,by have :=HLT.out;omega,HNEW⟩
    case measure=>have :=HLT.out;simp [intOf];omega
   ·have HSET:=Lib.hid (set_at val hk hno he)
    have n1:=nodeAt_below HN.out hb1.out
    obtain rfl:=HV.out.2 (by omega)
    have o1:=ownsRow_kept HO.out (fun k hk=>hb1.out.block k (World.ownsRow.lt HO.out k hk).2)
    have hrow:w1.frozen? ⟨gr,k*3+2,none⟩=false:=by
     have o2:=o1
     rw [HV.out.1]at o2
     exact World.ownsRow.frozenAt o2 _
    obtain⟨_,_,g',hvv,_,hga,hc⟩:=attr_open o1
    have hgg:gr=g':=by
     have h3:=hga (by omega)
     rw [HV.out.1]at hvv
     simp at hvv
     rw [←hvv.1]at h3
     simpa using h3
    subst hgg
    have c2:=(hc k hk).2.2
    have hst0:=reattr_val n1 o1 HV.out.1 hk val
    have hst:=Reattr.ahead hb1.out HN.out.lt HB2.out hst0
    have HNEW:=Lib.hid (HST.out _ _ _ hst HSET.out.symm)
    clear hno he hb1 n1 o1 hvv hga hc hst hst0
    go_wp2
    go_roundw
    case rel=>exact⟨i+1,_,_,by go_num,by have :=HLT.out;omega,HNEW⟩
    case measure=>have :=HLT.out;simp [intOf];omega
  ·obtain rfl:i=l.length:=by omega
   have hu:=HU.out
   rw [List.take_length]at hu
   have HU2:=Lib.hid hu
   clear hu HU
   go_wp2
   go_ret
   exact⟨rfl,v',lab',Lib.hid HU2.out.dom,Lib.hid HU2.out.labs,Lib.hid HU2.out.only⟩
set_option maxRecDepth 100000 in
set_option maxHeartbeats 4000000 in
theorem marksDoor_any{X:World→Prop}{o:Int}{f:FuncId}{args:Array Value}{s:Nat}{key val:ByteArray}(hf:(o=12∧f=35∧args= #[.pointer (some ⟨s,0,none⟩),.string key,.string val])∨(o=13∧f=36∧args= #[.pointer (some ⟨s,0,none⟩),.string key]))(a1 a2 a3:Option Addr)(n1 c1 n2 c2 n3 c3:Nat)(w:World)
  (hcall:∀w1,Below w.heap.size w w1→Calls Tryz.prog f args w1 (fun e w'=>e=.returned (.pointer (some ⟨s,0,none⟩))∧Hid (X w'))):
  Calls Tryz.prog 19 #[.pointer (some ⟨s,0,none⟩),.agg #[.int .i64 o,.slice a1 n1 c1,.slice a2 n2 c2,.string key,.string val,.slice a3 n3 c3]] w (fun e w'=>e=.returned (.bool true)∧Hid (X w')):=by
 have hb0:Below w.heap.size w (w.alloc (.cells #[.int .i64 o,.slice a1 n1 c1,.slice a2 n2 c2,.string key,.string val,.slice a3 n3 c3] 28)):=(Below.refl _ _).alloc (Nat.le_refl _) _
 have hobj:World.objAt (w.alloc (.cells #[.int .i64 o,.slice a1 n1 c1,.slice a2 n2 c2,.string key,.string val,.slice a3 n3 c3] 28)) w.heap.size #[.int .i64 o,.slice a1 n1 c1,.slice a2 n2 c2,.string key,.string val,.slice a3 n3 c3] 28:=objAt_alloc_new w _ _
 obtain⟨w0,hw0⟩:∃w0,w.alloc (.cells #[.int .i64 o,.slice a1 n1 c1,.slice a2 n2 c2,.string key,.string val,.slice a3 n3 c3] 28)=w0:=⟨_,rfl⟩
 rw [hw0]at hb0 hobj
 have k0:=hobj.cell (i:=0) (v:=.int .i64 o) rfl
 have k3:=hobj.cell (i:=3) (v:=.string key) rfl
 have k4:=hobj.cell (i:=4) (v:=.string val) rfl
 have HC:=Lib.hid (hcall w0 hb0)
 clear hcall hb0 hobj
 rcases hf with ⟨rfl,rfl,rfl⟩ | ⟨rfl,rfl,rfl⟩
 all_goals
  go_enter Tryz.func19,Tryz.ntmps19
  go_wp2_with fail
  refine HC.out.mono ?_
  rintro e w1 ⟨rfl,hx⟩
  clear HC k0 k3 k4
  go_wp2
  go_ret
  exact⟨rfl,hx⟩
theorem nodup_once{l:List Nat}(h:l.Nodup):Once l:=fun i j hi hj he=>by
 rw [List.getD_eq_getElem?_getD,List.getD_eq_getElem?_getD,List.getElem?_eq_getElem hi,List.getElem?_eq_getElem hj]at he
 exact(List.getElem_inj h).1 he
structure NamesIn (w:World) (a:Option Addr) (xs:List ByteArray) (c:Nat):Prop where
 cells:StrCells w a xs.length xs
 cap:xs.length≤c
 few:xs.length≤1048576
 size:∀x∈xs,x.size≤1048576
theorem NamesIn.below{w w':World}{a:Option Addr}{xs:List ByteArray}{c:Nat}(h:NamesIn w a xs c)(hb:Below w.heap.size w w'):NamesIn w' a xs c:=⟨h.cells.below hb,h.cap,h.few,h.size⟩
theorem StepP.more{u:Option Nat}{B m:Nat}{nb:Nat→Nat}{k m':Nat}{lab':Nat→NodeD}{F':Wd}{w w':World}(h:StepP u B m nb k m' lab' F' w w'):StepP u B m nb (k+1) m' lab' F' w w':=by
 obtain⟨nb2,v2,l2,a1,a2,a3,a4,a5⟩:=h
 exact⟨nb2,v2,l2,a1,a2,Lib.hid (fun i hi=>(a3.out i hi).more),a4,a5⟩
theorem progMarks_any{B:Nat}{w:World}{len m:Nat}{nb:Nat→Nat}{v:Nat→Value}{lab labP:Nat→NodeD}{F:Wd}{k:Nat}{x:StepD}{l ws:List Nat}{s S:Nat}{sv:Value}{R:Nat}{nv:Value}(h:PreP B w len m nb v lab labP F k x l ws s S sv R nv){lab':Nat→NodeD}(hk:∀y∈l,(lab y).kind=3)(hn:NamesSure x.ls)(hky:x.op=12∨x.op=13→x.key.size≤40)(hA:AttrsA x.op x.key x.val x.ls lab lab' l)(hv:x.val.size≤1048576)(a1 a2 a3:Option Addr)(n1 c1 n2 c2 c3:Nat)(hls:NamesIn w a3 x.ls c3):
  Calls Tryz.prog 19 #[.pointer (some ⟨s,0,none⟩),.agg #[.int .i64 x.op,.slice a1 n1 c1,.slice a2 n2 c2,.string x.key,.string x.val,.slice a3 x.ls.length c3]] w (fun e w'=>e=.returned (.bool true)∧Hid (StepP none B m nb (k+1) m lab' F w w')):=by
 obtain⟨hll,hwl,hl2,hw2,hkd,hfit,hki,hub⟩:=h.facts
 have hon:=nodup_once h.hl.nd
 have hnames:∀y∈x.ls,NameOk y.data.toList:=fun y hy=>by
  obtain⟨j,hj,rfl⟩:=List.getElem_of_mem hy
  have h1:=hn.1 j hj
  rw [List.getD_eq_getElem?_getD,List.getElem?_eq_getElem hj]at h1
  exact name_ok h1 (hls.size _ (List.getElem_mem _))
 have hk11:=h.k11
 have key:∀{lab2:Nat→NodeD} {v':Nat→Value} {w':World} {Rl:KVs→KVs→Prop},DomAt B w' m nb v' lab2 F→LabA Rl labP lab2 l→OnlyC B m nb v w w'→(∀y∈l,∀A,Rl (labP y).attrs A→(x.op=12∧A=setKV (labP y).attrs x.key x.val)∨(x.op=13∧RemK x.key.toList (labP y).attrs A)∨((x.op=14∨x.op=15∨x.op=16)∧GoodC A (clsOp x.op (Wc (labP y).attrs) (x.ls.map (·.data.toList))) (20+k+1) (szB k+1100000000000)∧NearC (labP y).attrs A))→StepP none B m nb (k+1) m lab' F w w':=by
  intro lab2 v' w' Rl hd hl ho hr
  refine⟨nb,v',lab2,Lib.hid hd,Lib.hid (fun _ _=>rfl),Lib.hid (fun i hi=>?_),Lib.hid (ho.below B (Nat.le_refl _) h.dom.base),Lib.hid (fun b cs t hb _ h1 h2=>ho.obj h.dom hb h1 h2)⟩
  by_cases e:i∈l
  ·obtain⟨A,e1,e2⟩:=(hl i).2 e
   rw [e1]
   exact(h.pair i hi).attr (by omega) (by rw [hkd i hi];exact hk i e) hv hky hnames ((hA i).2 e) (hr i e A e2)
  ·rw [(hl i).1 e,(hA i).1 e]
   exact(h.pair i hi).more
 have h0:=getD_mem' (d:=0) h.l0
 have hop:=(hA _).2 h0
 have open_:∀{w1:World},Below w.heap.size w w1→PreP B w1 len m nb v lab labP F k x l ws s S sv R nv:=fun hb=>h.below hb
 have cv:∀w1 w':World,Below w.heap.size w w1→OnlyC B m nb v w1 w'→OnlyC B m nb v w w':=fun w1 w' hb ho=>OnlyC.ahead hb (fun B' q1 _=>Nat.le_trans q1 h.size) ho
 rcases hop with ⟨ho,_⟩ | ⟨ho,_⟩ | ⟨ho,hsc0,hp,_⟩
 ·refine marksDoor_any (.inl ⟨ho,rfl,rfl⟩) a1 a2 a3 n1 c1 n2 c2 _ c3 w (fun w1 hb=>?_)
  obtain⟨g,cap,d,_,c0,_,cr,hg1,hg2⟩:=(open_ hb).open
  refine(setAttrMany_any (open_ hb).dom (open_ hb).size l hll hon hl2 (fun y hy=>hfit y (hll y hy)) (fun _=>rfl) c0 cr (fun _ i hi=>⟨hg1 i hi,hg2 i hi⟩) x.key x.val).mono ?_
  rintro e w' ⟨he,v',lab2,q1,q2,q3⟩
  exact⟨he,Lib.hid (key q1.out q2.out (cv _ _ hb q3.out) (fun y hy A hr=>.inl ⟨ho,hr⟩))⟩
 ·refine marksDoor_any (.inr ⟨ho,rfl,rfl⟩) a1 a2 a3 n1 c1 n2 c2 _ c3 w (fun w1 hb=>?_)
  obtain⟨g,cap,d,_,c0,_,cr,hg1,hg2⟩:=(open_ hb).open
  refine(remAttrMany_any (open_ hb).dom l hll hon hl2 (fun y hy=>hfit y (hll y hy)) (fun _=>rfl) c0 cr (fun _ i hi=>⟨hg1 i hi,hg2 i hi⟩) x.key).mono ?_
  rintro e w' ⟨he,v',lab2,q1,q2,q3⟩
  exact⟨he,Lib.hid (key q1.out q2.out (cv _ _ hb q3.out) (fun y hy A hr=>.inr (.inl ⟨ho,hr⟩)))⟩
 ·obtain⟨g,cap,d,_,c0,_,cr,hg1,hg2⟩:=h.open
  have hsz:=szB_12 (show k≤12 by omega)
  have hgood:∀y∈l,(labP y).kind=3∧GoodC (labP y).attrs (Wc (labP y).attrs) (20+k) (szB k):=fun y hy=>by
   refine⟨by rw [hkd y (hll y hy)];exact hk y hy,(h.pair y (hll y hy)).goodC ?_⟩
   rcases(hA y).2 hy with ⟨q,_⟩ | ⟨q,_⟩ | ⟨_,q,_⟩
   ·omega
   ·omega
   ·exact q
  have hx:NamesAt w a3 x.ls c3:=⟨hls.cells,hls.cap,hnames,hn.2,hp,hls.few⟩
  have hmk:=marks_any (F:=F) ⟨h.dom,hll,hon,hl2,fun _=>rfl,c0,cr,fun _ i hi=>⟨hg1 i hi,hg2 i hi⟩⟩ (by have :=h.l0;have :=hll _ h0;omega) (20+k) (szB k) (by omega) hsz hgood a3 x.ls c3 hx x.op ho (.slice a1 n1 c1) (.slice a2 n2 c2) x.key x.val ⟨_,_,_,rfl⟩ ⟨_,_,_,rfl⟩
  refine hmk.mono ?_
  rintro e w' ⟨he,v',lab2,q1,q2,q3⟩
  refine⟨he,Lib.hid (key (Rl:=fun L A=>GoodC A (clsOp x.op (Wc L) (x.ls.map (·.data.toList))) (20+k+1) (szB k+1100000000000)∧NearC L A) q1.out (fun i=>?_) q3.out (fun y hy A hr=>.inr (.inr ⟨ho,hr⟩)))⟩
  exact⟨(q2.out i).1,fun hi=>by obtain⟨A,e1,e2,e3⟩:=(q2.out i).2 hi;exact⟨A,e1,e2,e3⟩⟩
theorem Knots.weaken{B B':Nat}{w:World}{n:Nat}{kn:Nat→Nat}{kv av:Nat→Value}{pl:Nat→Int}{lab:Nat→NodeD}{F:Wd}(h:Knots B w n kn kv av pl lab F)(hB:B'≤B):Knots B' w n kn kv av pl lab F:=
 ⟨h.node,fun i hi=>ownsRow_base (h.row i hi) hB,fun i hi=>ownsRow_base (h.attrs i hi) hB,fun i hi=>Nat.le_trans hB (h.base i hi),h.inj⟩
theorem ForestK.weaken{B B':Nat}{w:World}{f len:Nat}{vf:Value}{kn:Nat→Nat}{many:Int}{opn:Bool}(h:ForestK B w f vf len kn many opn)(hB:B'≤B):ForestK B' w f vf len kn many opn:=
 ⟨h.obj,ownsRow_base h.all hB,Nat.le_trans hB h.base⟩
theorem out_of_listed{B:Nat}{W w':World}{n:Nat}{kn:Nat→Nat}{kv av:Nat→Value}{pl:Nat→Int}{lab:Nat→NodeD}{F:Wd}(hK:Knots B W n kn kv av pl lab F)(hb:Below W.heap.size W w')(hB:B≤W.heap.size){v:Value}{C:List (Nat×Nat)}(hlt:∀y∈C,y.1<n)(h:w'.ownsRow W.heap.size 38 5 v (0+C.length) ([]++outCells lab av C)):OutAt w' B v lab C:=by
 refine⟨C.map fun y=>(y.1,y.2,av y.1),?_,?_,fun y hy=>?_⟩
 ·unfold szs
  rw [List.map_map]
  exact List.map_id _
 ·rw [List.nil_append,Nat.zero_add]at h
  have e1:outD lab (C.map fun y=>(y.1,y.2,av y.1))=outCells lab av C:=by
   unfold outD outCells
   rw [List.flatMap_map]
  rw [e1,List.length_map]
  exact ownsRow_base h hB
 ·obtain⟨q,hq,rfl⟩:=List.mem_map.1 hy
  exact(hK.attrs _ (hlt q hq)).below hb
theorem made_int:(Tryz.prog.info? 3).map (fun i=>(i.zero,i.size,i.bytes))=some (some (.int .i64 0),1,8):=by kernel_rfl
theorem at_make(n:Nat)(hn:n≤200)(w:World):(Instr.makeSlice 23 (.int .i64 (n:Int)) (.int .i64 (n:Int))).run Tryz.prog w=.ok (.slice (some ⟨w.heap.size,0,none⟩) n n) (w.alloc (.cells (madeCells #[.int .i64 0] n) 3)):=
 run_make_row' 23 3 (.int .i64 0) 8 Tryz.underlying23 made_int rfl .i64 .i64 n (by omega) (by omega) w
theorem at_made(n:Nat)(hn:n≤200)(w:World)(B:Nat)(hB:B≤w.heap.size):(w.alloc (.cells (madeCells #[.int .i64 0] n) 3)).ownsRow B 3 1 (.slice (some ⟨w.heap.size,0,none⟩) n n) n ((List.replicate 0 (-1:Int)++List.replicate (n-0) 0).map intZ):=by
 refine⟨by simp,.inr ⟨w.heap.size,n,madeCells #[.int .i64 0] n,rfl,hB,heap_alloc_new w _,Nat.le_refl _,by unfold maxLen;omega,by rw [size_madeCells];omega,?_⟩⟩
 rw [toList_madeCells_one]
 simp [intZ]
theorem minus_step{n k:Nat}(hk:k<n):((List.replicate k (-1:Int)++List.replicate (n-k) 0).map intZ).set k (.int .i64 (-1))=(List.replicate (k+1) (-1:Int)++List.replicate (n-(k+1)) 0).map intZ:=by
 obtain⟨d,hd⟩:∃d,n-k=d+1:=⟨n-k-1,by omega⟩
 rw [hd,show n-(k+1)=d by omega,List.replicate_succ (n:=d),List.map_append,List.set_append_right _ _ (by simp),List.replicate_succ' (n:=k)]
 simp [intZ]
end Go.Proofs.YtkdomegcacgpnaaGreat
