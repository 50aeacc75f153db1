/- Parts of a proof: AttrsAny. -/
import Derived.Test.YtkdomegcacgpnaaGreatG28
import Derived.Test.YtkdomegcacgpnaaGreatG32
import Derived.Test.YtkdomegcacgpnaaGreatG11
import Derived.Test.YtkdomegcacgpnaaGreatG09
import Derived.Deep.CutRange
set_option linter.unusedVariables false
set_option linter.unusedSimpArgs false
namespace Go.Proofs.YtkdomegcacgpnaaGreat
open Go.RowKit
def SimpleC(s:ByteArray):Prop:=SimpleSays s true
theorem Knots.set4{B:Nat}{w:World}{n:Nat}{kn:Nat→Nat}{kv av:Nat→Value}{pl:Nat→Int}{lab:Nat→NodeD}{F:Wd}(h:Knots B w n kn kv av pl lab F){x:Nat}(hx:x<n){v:Value}{A:KVs}(hv:OwnKV w B v A):
  Knots B (w.setCell ⟨kn x,4,none⟩ v) n kn kv (fun j=>if j=x then v else av j) pl (fun j=>if j=x then{lab x with attrs:=A}else lab j) F:=by
 have hop:=h.node x hx
 have hkeep:∀{e:TypeId} {size:Nat} {u:Value} {m:Nat} {xs:List Value},97≠e→w.ownsRow B e size u m xs→(w.setCell ⟨kn x,4,none⟩ v).ownsRow B e size u m xs:=fun hne ho=>ownsRow_kept ho (fun k hk=>setCell_block hop 4 _ (fun e=>objAt_ne_own hop ho hne (by rw [hk,e])))
 refine⟨fun i hi=>?_,fun i hi=>hkeep (by decide) (h.row i hi),fun i hi=>?_,h.base,h.inj⟩
 ·by_cases e:i=x
  ·subst e
   simp only [if_true]
   exact hop.set 4 _
  ·simp only [if_neg e]
   have :=h.node i hi
   unfold World.objAt at this ⊢
   rw [setCell_block hop 4 _ (fun he=>e (h.inj i x hi hx he))]
   exact this
 ·by_cases e:i=x
  ·subst e
   simp only [if_true]
   exact hkeep (by decide) hv
  ·simp only [if_neg e]
   exact hkeep (by decide) (h.attrs i hi)
theorem names_snoc{xs:List ByteArray}{k:Nat}(hk:k<xs.length)(h:((xs.take k).map (·.data.toList)).Nodup)(hne:∀i,i<k→((xs.getD i ByteArray.empty).toList==(xs.getD k ByteArray.empty).toList)=false):((xs.take (k+1)).map (·.data.toList)).Nodup:=by
 rw [List.map_take,take_name hk,←List.map_take]
 refine List.nodup_append.2 ⟨h,by simp,fun a ha b hb=>?_⟩
 simp at hb
 subst hb
 obtain⟨y,hy,rfl⟩:=List.mem_map.1 ha
 obtain⟨i,hi,rfl⟩:=List.getElem_of_mem hy
 have hik:i<k:=by simp at hi;omega
 have h1:=hne i hik
 rw [List.getElem_take]
 rw [List.getD_eq_getElem?_getD,List.getElem?_eq_getElem (show i<xs.length by omega),ByteArray.toList_eq,ByteArray.toList_eq]at h1
 simpa using h1
def NamesSure(xs:List ByteArray):Prop:=(∀j,j<xs.length→printF (xs.getD j ByteArray.empty)=true)∧(xs.map (·.data.toList)).Nodup
def AttrN(o:Int)(key val:ByteArray)(xs:List ByteArray)(A A':NodeD):Prop:=
 (o=12∧A'={A with attrs:=setKV A.attrs key val})∨(o=13∧A'={A with attrs:=remKV A.attrs key})∨
 ((o=14∨o=15∨o=16)∧SimpleC (ClsVal A.attrs)∧0<xs.length∧∃r:ByteArray,A'={A with attrs:=setKV A.attrs clsK r}∧r.data.toList=(flatS (classesF o (ClsVal A.attrs) xs)).drop 1∧r.size≤(ClsVal A.attrs).size+1200000000000)
def AttrsA(o:Int)(key val:ByteArray)(xs:List ByteArray)(lab lab':Nat→NodeD)(l:List Nat):Prop:=
 ∀i,(i∉l→lab' i=lab i)∧(i∈l→AttrN o key val xs (lab i) (lab' i))
theorem AttrsA.step{o:Int}{key val:ByteArray}{xs:List ByteArray}{lab lab':Nat→NodeD}{done:List Nat}(h:AttrsA o key val xs lab lab' done){x:Nat}(hx:x∉done){A:NodeD}(hA:AttrN o key val xs (lab x) A):
  AttrsA o key val xs lab (fun j=>if j=x then A else lab' j) (done++[x]):=by
 intro i
 by_cases e:i=x
 ·subst e
  exact⟨fun hi=>by simp at hi,fun _=>by simp only [if_pos];exact hA⟩
 ·refine⟨fun hi=>?_,fun hi=>?_⟩
  ·simp only [if_neg e]
   exact(h i).1 (fun hm=>hi (by simp [hm]))
  ·simp only [if_neg e]
   exact(h i).2 (by simpa [e]using hi)
def AttrsPostA(B:Nat)(o:Int)(key val:ByteArray)(xs:List ByteArray)(len:Nat)(kn:Nat→Nat)(kv:Nat→Value)(pl:Nat→Int)(lab:Nat→NodeD)(F:Wd)(l:List Nat)(w:World)(e:Ending)(w':World):Prop:=
 (e=.returned (.bool false)∧Hid (Below B w w'))∨
 ∃av' lab',e=.returned (.bool true)∧NamesSure xs∧(o=12∨o=13→key.size≤40)∧Hid (Knots B w' len kn kv av' pl lab' F)∧Hid (AttrsA o key val xs lab lab' l)∧Hid (OnlyK len kn w w')
structure AtMidA (W:World) (o:Int) (key val:ByteArray) (xs:List ByteArray) (len:Nat) (kn:Nat→Nat) (kv:Nat→Value) (pl:Nat→Int) (lab:Nat→NodeD) (F:Wd) (l:List Nat) (k:Nat) (w wr:World):Prop where
 ex:∃av' lab',Knots W.heap.size wr len kn kv av' pl lab' F∧AttrsA o key val xs lab lab' (l.take k)∧OnlyK len kn w wr
theorem kTake_snoc{l:List Nat}{k:Nat}(h:k<l.length):l.take (k+1)=l.take k++[l.getD k 0]:=by
 rw [List.take_add_one,List.getD_eq_getElem?_getD,List.getElem?_eq_getElem h]
 rfl
set_option maxRecDepth 100000 in
set_option maxHeartbeats 8000000 in
theorem attributesA_any(o:Int)(key val:ByteArray)(hky:key.size≤maxLen)(W:World)(xs:List ByteArray)(a:Option Addr)(c:Nat)(hx:StrCells W a xs.length xs)(hn:xs.length≤1048576)(hz:∀x∈xs,x.size≤1048576)(w:World)(hbel:Below W.heap.size W w){len:Nat}{kn:Nat→Nat}{kv av:Nat→Value}{pl:Nat→Int}{lab:Nat→NodeD}{F:Wd}(hK:Knots W.heap.size w len kn kv av pl lab F)(l:List Nat)(hin:∀x∈l,x<len)(hnd:l.Nodup)(hln:l.length≤200)(B1:Nat)(ga:Option Addr)(gc:Nat)
  (hown:w.ownsRow B1 69 1 (.slice ga l.length gc) l.length (l.map fun y=>ptrV (kn y))) (hfit:∀x∈l,(lab x).attrs.length≤1000∧(∀y∈(lab x).attrs,y.1.size≤maxLen∧y.2.size≤maxLen)∧(ClsVal (lab x).attrs).size≤16000000000000) (oa wa:Option Addr) (on oc wn wc:Nat):
  Calls Tryz.prog 63 #[.agg #[.int .i64 o,.slice oa on oc,.slice wa wn wc,.string key,.string val,.slice a xs.length c],.slice ga l.length gc] w (AttrsPostA W.heap.size o key val xs len kn kv pl lab F l w):=by
 obtain⟨w0,hw0⟩:∃w0,w.alloc (.cells #[.int .i64 o,.slice oa on oc,.slice wa wn wc,.string key,.string val,.slice a xs.length c] 28)=w0:=⟨_,rfl⟩
 have hb0:Below w.heap.size w w0:=by rw [←hw0];exact(Below.refl _ _).alloc (Nat.le_refl _) _
 have hobj:World.objAt w0 w.heap.size #[.int .i64 o,.slice oa on oc,.slice wa wn wc,.string key,.string val,.slice a xs.length c] 28:=by rw [←hw0];exact objAt_alloc_new w _ _
 have hWw:=hbel.size
 have hbel0:Below W.heap.size W w0:=hbel.trans (hb0.mono hWw)
 have H0:=Lib.hid (And.intro hb0 (And.intro hobj hbel0))
 have HK0:=Lib.hid (hK.below hb0)
 have HOWN:=Lib.hid (ownsRow_kept hown (fun k hk=>hb0.block k (World.ownsRow.lt hown k hk).2))
 have HX:=Lib.hid hx
 have HZ:=Lib.hid hz
 have HL:=Lib.hid (And.intro hin (And.intro hnd hfit))
 obtain⟨q,hq⟩:∃q,w.heap.size=q:=⟨_,rfl⟩
 have HQ:=Lib.hid hq
 have hwq:W.heap.size≤q:=by omega
 have r0:w0.cell? ⟨w.heap.size,0,none⟩=some (.int .i64 o):=hobj.cell (i:=0) rfl
 have hend:∀wr,Below w0.heap.size w0 wr→Below W.heap.size w wr:=fun wr hb=>(hb0.mono hWw).trans (hb.mono (by have :=hb0.size;omega))
 have HEND:=Lib.hid hend
 have HBK:=Lib.hid (fun(i:Nat) (hi:i<len)=>hK.base i hi)
 have r3:w0.cell? ⟨w.heap.size,3,none⟩=some (.string key):=hobj.cell (i:=3) rfl
 rw [hq]at r0 r3
 clear hb0 hobj hbel0 hK hown hx hz hin hnd hfit hbel hend
 go_enter Tryz.func63,Tryz.ntmps63
 have HNMC:=Lib.hid (name_any key w0 hky)
 go_upto_region 1 with fail
 go_cut [24] from 11 to 24 (fun s24 wx=>∃b:Bool,s24=.bool b∧wx=w0∧Hid (b=false→o=12∨o=13→key.size≤40))
 case first=>
  by_cases e12:o=12
  ·have g12:(o==12)=true:=by simp [e12]
   clear e12
   go_wp2_with fail
   refine HNMC.out.mono ?_
   rintro e w9 ⟨bn,hbn,rfl,rfl⟩
   have HNM:=Lib.hid hbn
   clear hbn
   cases bn
   ·go_wp2
    go_meet
    exact⟨_,rfl,rfl,Lib.hid (fun h=>by cases h)⟩
   ·go_wp2
    go_meet
    exact⟨_,rfl,rfl,Lib.hid (fun _ _=>HNM.out rfl)⟩
  ·have g12:(o==12)=false:=by simp [e12]
   by_cases e13:o=13
   ·have g13:(o==13)=true:=by simp [e13]
    clear e13 e12
    go_wp2_with fail
    refine HNMC.out.mono ?_
    rintro e w9 ⟨bn,hbn,rfl,rfl⟩
    have HNM:=Lib.hid hbn
    clear hbn
    cases bn
    ·go_wp2
     go_meet
     exact⟨_,rfl,rfl,Lib.hid (fun h=>by cases h)⟩
    ·go_wp2
     go_meet
     exact⟨_,rfl,rfl,Lib.hid (fun _ _=>HNM.out rfl)⟩
   ·have g13:(o==13)=false:=by simp [e13]
    have HN:=Lib.hid (show o=12∨o=13→key.size≤40 from fun h=>h.elim (fun h=>absurd h e12) (fun h=>absurd h e13))
    clear e12 e13
    go_wp2
    go_meet
    exact⟨_,rfl,rfl,Lib.hid (fun _=>HN.out)⟩
 case rest=>
 obtain⟨b24,rfl,hwc,HKB⟩:=hcut
 have hwc2:=hwc.symm
 clear hwc
 subst hwc2
 cases b24
 rotate_left
 ·go_wp2
  go_ret
  exact .inl ⟨rfl,Lib.hid (HEND.out _ (Below.refl _ _))⟩
 have HKY:=Lib.hid (HKB.out rfl)
 clear HKB
 go_wp2
 clear r0 r3 hq HNMC
 go_loopw [5] (fun iv wr=>∃k:Nat,k≤xs.length∧iv=.int .i64 (k:Int)∧Hid (∀j,j<k→printF (xs.getD j ByteArray.empty)=true)∧Hid (((xs.take k).map (·.data.toList)).Nodup)∧Hid (Below w0.heap.size w0 wr)) (fun iv _=>xs.length-(intOf iv).toNat)
 case atStart=>exact⟨0,by omega,by go_num,Lib.hid (fun j hj=>by omega),Lib.hid (by simp),Lib.hid (Below.refl _ _)⟩
 case round=>
  obtain⟨k,hk,rfl,HPR,HND,HBR⟩:=hrel
  have HQR:=Lib.hid (H0.out.2.1.below HBR.out H0.out.2.1.lt)
  have r5:wr.cell? ⟨q,5,none⟩=some (.slice a xs.length c):=by rw [←HQ.out];exact HQR.out.cell (i:=5) rfl
  by_cases hlt:k<xs.length
  ·obtain⟨b,off,rfl,hcc⟩:=HX.out.2 (by omega)
   have ck:=cell_below HBR.out (cell_below (H0.out.2.2.mono (Nat.le_refl _)) (hcc k hlt))
   have hxz:(xs.getD k ByteArray.empty).size≤1048576:=HZ.out _ (by rw [List.getD_eq_getElem?_getD,List.getElem?_eq_getElem hlt];exact List.getElem_mem _)
   obtain⟨x,hxx⟩:∃x,xs.getD k ByteArray.empty=x:=⟨_,rfl⟩
   rw [hxx]at ck hxz
   have HXX:=Lib.hid hxx
   have HCC:=Lib.hid hcc
   have hkI:(k:Int)<(xs.length:Int):=by omega
   have HP:=Lib.hid (printable_any x wr (by omega))
   obtain⟨pb,hpb⟩:∃pb,printF x=pb:=⟨_,rfl⟩
   rw [hpb]at HP
   have HPB:=Lib.hid hpb
   clear hxx hcc hpb
   go_wp2_with fail
   refine HP.out.mono ?_
   rintro e w9 ⟨rfl,rfl⟩
   clear HP
   cases pb
   ·go_wp2
    go_ret
    exact .inl ⟨rfl,Lib.hid (HEND.out _ HBR.out)⟩
   ·go_wp2
    go_loopw [6] (fun iv wq=>∃j:Nat,j≤k∧iv=.int .i64 (j:Int)∧Hid (∀i,i<j→((xs.getD i ByteArray.empty).toList==x.toList)=false)∧Hid (Below w0.heap.size w0 wq)) (fun iv _=>k-(intOf iv).toNat)
    case atStart=>exact⟨0,by omega,by go_num,Lib.hid (fun j hj=>by omega),HBR⟩
    case round=>
     clear r5 ck
     obtain⟨j,hj,rfl,HNE,HBQ⟩:=hrel
     by_cases hjk:j<k
     ·have r5:wr.cell? ⟨q,5,none⟩=some (.slice (some ⟨b,off,none⟩) xs.length c):=by rw [←HQ.out];exact(H0.out.2.1.below HBQ.out H0.out.2.1.lt).cell (i:=5) rfl
      have ck:=cell_below HBQ.out (cell_below (H0.out.2.2.mono (Nat.le_refl _)) (HCC.out k hlt))
      have cj:=cell_below HBQ.out (cell_below (H0.out.2.2.mono (Nat.le_refl _)) (HCC.out j (by omega)))
      rw [HXX.out]at ck
      obtain⟨y,hyy⟩:∃y,xs.getD j ByteArray.empty=y:=⟨_,rfl⟩
      rw [hyy]at cj
      have HYY:=Lib.hid hyy
      have hjI:(j:Int)<(xs.length:Int):=by omega
      have hjkI:(j:Int)<(k:Int):=by omega
      clear hyy
      cases hke:(y.toList==x.toList)
      ·have HNE2:=Lib.hid (show ∀i,i<j+1→((xs.getD i ByteArray.empty).toList==x.toList)=false from fun i hi=>by
        by_cases e:i=j
        ·subst e;rw [HYY.out];exact hke
        ·exact HNE.out i (by omega))
       go_wp2
       go_quiet (fail)
       go_wp2
       refine⟨?rel,?measure⟩
       case rel=>exact⟨j+1,by omega,by go_num,HNE2,Lib.hid (below_drewN HBQ.out _)⟩
       case measure=>simp [intOf];omega
      ·go_wp2
       go_quiet (fail)
       go_wp2
       go_ret
       exact .inl ⟨rfl,Lib.hid (HEND.out _ (below_drewN HBQ.out _))⟩
     ·obtain rfl:j=k:=by omega
      have HND2:=Lib.hid (names_snoc hlt HND.out (by rw [HXX.out];exact HNE.out))
      have HPR2:=Lib.hid (show ∀i,i<j+1→printF (xs.getD i ByteArray.empty)=true from fun i hi=>by
       by_cases e:i=j
       ·subst e;rw [HXX.out];exact HPB.out
       ·exact HPR.out i (by omega))
      go_wp2
      refine⟨?rel,?measure⟩
      case rel=>exact⟨j+1,by omega,by go_num,HPR2,HND2,HBQ⟩
      case measure=>simp [intOf];omega
  ·obtain rfl:k=xs.length:=by omega
   have hnd:=HND.out
   rw [List.take_length]at hnd
   have HNS:=Lib.hid (show NamesSure xs from⟨HPR.out,hnd⟩)
   clear hnd HND HPR
   have HMID:=Lib.hid (show AtMidA W o key val xs len kn kv pl lab F l 0 w0 wr from⟨⟨av,lab,HK0.out.below HBR.out,fun i=>⟨fun _=>rfl,fun hi=>by simp at hi⟩,OnlyK.of_below HBR.out⟩⟩)
   go_wp2
   clear r5
   go_loopw [7] (fun iv wq=>∃k:Nat,k≤l.length∧iv=.int .i64 (k:Int)∧Hid (AtMidA W o key val xs len kn kv pl lab F l k w0 wq)) (fun iv _=>l.length-(intOf iv).toNat)
   case atStart=>exact⟨0,by omega,by go_num,HMID⟩
   case round=>
    clear HMID
    obtain⟨k,hk,rfl,HM⟩:=hrel
    obtain⟨av',lab',hKr,hA,hO⟩:=HM.out.ex
    have hw0s:=H0.out.2.2.size
    have hbW:Below W.heap.size W wr:=H0.out.2.2.trans (hO.below W.heap.size hw0s HBK.out)
    have hends:Below W.heap.size w wr:=(HEND.out w0 (Below.refl _ _)).trans (hO.below W.heap.size hw0s HBK.out)
    have hqb:World.objAt wr w.heap.size #[.int .i64 o,.slice oa on oc,.slice wa wn wc,.string key,.string val,.slice a xs.length c] 28:=by
     have h1:=H0.out.2.1
     have h2:wr.heap[w.heap.size]? =w0.heap[w.heap.size]? :=hO.block _ h1.lt (fun i hi e=>by
      have h3:=HK0.out.node i hi
      unfold World.objAt at h1 h3
      rw [←e,h1]at h3
      simp only [Option.some.injEq,Obj.cells.injEq]at h3
      exact absurd h3.2.1 (by decide))
     unfold World.objAt at h1 ⊢
     rw [h2];exact h1
    rw [HQ.out]at hqb
    have HQB:=Lib.hid hqb
    have HEN:=Lib.hid hends
    by_cases hlt:k<l.length
    ·have hownr:wr.ownsRow B1 69 1 (.slice ga l.length gc) l.length (l.map fun y=>ptrV (kn y)):=ownsRow_kept HOWN.out (fun p hp=>hO.block p (World.ownsRow.lt HOWN.out p hp).2 (fun i hi e=>objAt_ne_own (HK0.out.node i hi) HOWN.out (by decide) (by rw [hp,e])))
     obtain⟨gv,rfl⟩:∃gv,ga=some ⟨gv,0,none⟩:=by
      rcases hownr.2 with ⟨_,h2⟩ | ⟨g0,c0_,cur,hv_,_⟩
      ·omega
      ·simp at hv_;exact⟨g0,hv_.1⟩
     have ck:wr.cell? ⟨gv,k,none⟩=some (.pointer (some ⟨kn (l.getD k 0),0,none⟩)):=by
      have :=hownr.cells (g:=gv) rfl k (ptrV (kn (l.getD k 0))) (by simp [List.getD,hlt])
      rwa [show(⟨gv,0,none⟩:Addr).add k=⟨gv,k,none⟩ by unfold Addr.add;split <;> simp_all]at this
     have hxm:l.getD k 0∈l:=getD_mem' (d:=0) hlt
     have hxlt:=HL.out.1 _ hxm
     obtain⟨f1,f2,f3⟩:=HL.out.2.2 _ hxm
     have hxn:l.getD k 0∉l.take k:=fun hm=>by
      obtain⟨i,hi,he⟩:=List.getElem_of_mem hm
      have hik:i<k:=by simp at hi;omega
      rw [List.getElem_take,List.getD_eq_getElem?_getD,List.getElem?_eq_getElem hlt]at he
      exact(List.pairwise_iff_getElem.1 HL.out.2.1) i k (by omega) hlt hik he
     have hlx:=(hA _).1 hxn
     have htk:=kTake_snoc hlt
     obtain⟨x,hxx⟩:∃x,l.getD k 0=x:=⟨_,rfl⟩
     rw [hxx]at ck hxlt f1 f2 f3 hxn hlx htk
     have ho:=hKr.node x hxlt
     rw [hlx]at ho
     have hav:=hKr.attrs x hxlt
     rw [hlx]at hav
     obtain⟨aa,ac,hax,hat⟩:=hav.at_ f2
     rw [hax]at ho
     have d1:=ho.cell (i:=1) (v:=.int .i64 (lab x).kind) rfl
     have d2:=ho.cell (i:=2) (v:=.string (lab x).tag) rfl
     have d3:=ho.cell (i:=3) (v:=.string (lab x).text) rfl
     have d4:=ho.cell (i:=4) (v:=.slice aa (lab x).attrs.length ac) rfl
     have d4f:=ho.free 4
     have d5:=ho.cell (i:=5) (v:=.int .i64 (lab x).size) rfl
     have r0:=hqb.cell (i:=0) (v:=.int .i64 o) rfl
     have r5:=hqb.cell (i:=5) (v:=.slice a xs.length c) rfl
     have r3:=hqb.cell (i:=3) (v:=.string key) rfl
     have r4:=hqb.cell (i:=4) (v:=.string val) rfl
     obtain⟨kd_,hkd⟩:∃q,(lab x).kind=q:=⟨_,rfl⟩
     obtain⟨tg,htg⟩:∃q,(lab x).tag=q:=⟨_,rfl⟩
     obtain⟨tx,htx⟩:∃q,(lab x).text=q:=⟨_,rfl⟩
     obtain⟨z_,hz_⟩:∃q,(lab x).size=q:=⟨_,rfl⟩
     obtain⟨A,hAA⟩:∃A,(lab x).attrs=A:=⟨_,rfl⟩
     rw [hkd]at d1
     rw [htg]at d2
     rw [htx]at d3
     rw [hz_]at d5
     rw [hAA]at d4 hat f1 f2 f3
     obtain⟨had,hhad⟩:∃had,(lookKV A clsK).getD ByteArray.empty=had:=⟨_,rfl⟩
     have hcv:ClsVal A=had:=hhad
     rw [hcv]at f3
     have hattr:Calls Tryz.prog 10 #[.agg #[.int .i64 kd_,.string tg,.string tx,.slice aa A.length ac,.int .i64 z_],.string ⟨#[99,108,97,115,115]⟩] wr (AttrIs A clsK wr):=attrIs_any kd_ z_ tg tx aa A.length ac A clsK wr hat
     obtain⟨al,hal⟩:∃al,A.length=al:=⟨_,rfl⟩
     rw [hal]at d4 hat hattr f1
     have HATTR:=Lib.hid hattr
     have HAT:=Lib.hid hat
     have HKR:=Lib.hid (And.intro hKr (And.intro hA hO))
     have HX2:=Lib.hid (And.intro hxlt (And.intro hxn (And.intro hlx (And.intro htk (And.intro hAA hcv)))))
     have HOB:=Lib.hid ho
     have hkI:(k:Int)<(l.length:Int):=by omega
     have HHAD:=Lib.hid hhad
     have hsW:=hbW.size
     have HBW:=Lib.hid hbW
     clear hattr hat hKr hA hO hxlt hxn hlx htk hAA hcv ho hav hax hxx hkd htg htx hz_ hal hhad hownr hxm hqb hends hbW f2
     by_cases e12:o=12
     ·have g12:(o==12)=true:=by simp [e12]
      have HO:=Lib.hid e12
      clear e12 HATTR HHAD r5
      have hbd:Below wr.heap.size wr wr.drew:=(Below.refl _ _).drew
      have p4d:=cell_below hbd d4
      have p3d:=cell_below hbd r3
      have p5d:=cell_below hbd r4
      have HBD:=Lib.hid hbd
      have hwa:Calls Tryz.prog 112 #[.slice aa al ac,.string key,.string val] wr.drew (WithPost (setKV A key val) wr.drew):=withAttr_any aa al ac A key val wr.drew (HAT.out.below hbd) f1
      have HWA:=Lib.hid hwa
      clear hwa hbd d1 d2 d3 d4 d5 d4f r3 r4
      go_wp2
      refine wp_region_noPanic ?_
      refine wp_region_G (k0:=12) (S:=fun wx=>wx.cell? ⟨kn x,4,none⟩=some (.slice aa al ac)∧wx.cell? ⟨q,3,none⟩=some (.string key)∧wx.cell? ⟨q,4,none⟩=some (.string val)) (by kernel_rfl) ?_ (fun hHeld=>?_)
      ·exact⟨p4d,p3d,p5d⟩
      apply gP 0
      apply gP 1
      apply gP 2
      apply gP 3
      apply gL 4
      apply gP 5
      apply gL 6
      apply gP 7
      apply gL 8
      refine wpAnyG_one (i:=9) (by kernel_rfl) (o:=_) rfl (fun K hK=>?_)
      go_simp
      go_wp2_with (go_at_call 112;refine HWA.out.mono ?_;rintro e w4 ⟨pv,rfl,hpv,hb4⟩)
      obtain⟨pa,pc,rfl⟩:=ownsRow_slice hpv.out
      obtain⟨pl_,hpl_⟩:∃m,(setKV A key val).length=m:=⟨_,rfl⟩
      rw [hpl_]at hpv ⊢
      have HPL:=Lib.hid hpl_
      clear hpl_
      have HH4:w4.cell? ⟨kn x,4,none⟩=some (.slice aa al ac)∧w4.cell? ⟨q,3,none⟩=some (.string key)∧w4.cell? ⟨q,4,none⟩=some (.string val):=⟨cell_below hb4.out p4d,cell_below hb4.out p3d,cell_below hb4.out p5d⟩
      refine hK.out _ _ (fun _=>HH4) ?_
      clear hK K hHeld
      try simp only [Act.put,List.setIfInBounds_toArray,List.set_cons_zero,List.set_cons_succ]
      have HB04:=Lib.hid (HBD.out.trans (hb4.out.mono HBD.out.size))
      apply gP 10
      apply gP 11
      have g4:=HH4.1
      have g4f:w4.frozen? ⟨kn x,4,none⟩=false:=(HOB.out.below HB04.out HOB.out.lt).free 4
      refine wpAnyG_one (i:=12) (by kernel_rfl) (o:=_) rfl (fun K hK=>?_)
      go_simp
      refine hK.out _ _ (fun h=>absurd (h.symm.trans (by kernel_rfl:_=true)) (by decide)) ?_
      clear hK K
      try simp only [Act.put,List.setIfInBounds_toArray,List.set_cons_zero,List.set_cons_succ]
      refine wpAnyG_done (by kernel_rfl) ?_ _
      refine NoPanic.normal ?_
      have hown4:OwnKV w4 W.heap.size (.slice pa pl_ pc) (setKV A key val):=ownsRow_base hpv.out (by have :=HBD.out.size;omega)
      have hK5:=(HKR.out.1.below HB04.out).set4 HX2.out.1 hown4
      have hA5:=HKR.out.2.1.step (x:=x) HX2.out.2.1 (A:={lab' x with attrs:=setKV A key val}) (by
       have e9:(lab x).attrs=A:=HX2.out.2.2.2.2.1
       rw [HX2.out.2.2.1]
       exact .inl ⟨HO.out,by rw [e9]⟩)
      have hO5:OnlyK len kn w0 (w4.setCell ⟨kn x,4,none⟩ (.slice pa pl_ pc)):=HKR.out.2.2.trans ((OnlyK.of_below HB04.out).set HX2.out.1 ((HKR.out.1.below HB04.out).node x HX2.out.1) 4 (.slice pa pl_ pc))
      have HNEW:=Lib.hid (show AtMidA W o key val xs len kn kv pl lab F l (k+1) w0 (w4.setCell ⟨kn x,4,none⟩ (.slice pa pl_ pc)) from⟨_,_,hK5,by
       rw [HX2.out.2.2.2.1]
       exact hA5,hO5⟩)
      clear hown4 hK5 hA5 hO5
      go_wp2
      refine⟨?rel,?measure⟩
      case rel=>exact⟨k+1,by omega,by go_num,HNEW⟩
      case measure=>simp [intOf];omega
     have g12:(o==12)=false:=by simp [e12]
     by_cases e13:o=13
     ·have g13:(o==13)=true:=by simp [e13]
      have HO:=Lib.hid e13
      clear e12 e13 HATTR HHAD r5
      have hbd:Below wr.heap.size wr wr.drew:=(Below.refl _ _).drew
      have p4d:=cell_below hbd d4
      have p3d:=cell_below hbd r3
      have p5d:=cell_below hbd r4
      have HBD:=Lib.hid hbd
      have hwa:Calls Tryz.prog 113 #[.slice aa al ac,.string key] wr.drew (WithPost (remKV A key) wr.drew):=withoutAttr_any aa al ac A key wr.drew (HAT.out.below hbd) f1
      have HWA:=Lib.hid hwa
      clear hwa hbd d1 d2 d3 d4 d5 d4f r3 r4
      go_wp2
      refine wp_region_noPanic ?_
      refine wp_region_G (k0:=10) (S:=fun wx=>wx.cell? ⟨kn x,4,none⟩=some (.slice aa al ac)∧wx.cell? ⟨q,3,none⟩=some (.string key)∧wx.cell? ⟨q,4,none⟩=some (.string val)) (by kernel_rfl) ?_ (fun hHeld=>?_)
      ·exact⟨p4d,p3d,p5d⟩
      apply gP 0
      apply gP 1
      apply gP 2
      apply gP 3
      apply gL 4
      apply gP 5
      apply gL 6
      refine wpAnyG_one (i:=7) (by kernel_rfl) (o:=_) rfl (fun K hK=>?_)
      go_simp
      go_wp2_with (go_at_call 113;refine HWA.out.mono ?_;rintro e w4 ⟨pv,rfl,hpv,hb4⟩)
      obtain⟨pa,pc,rfl⟩:=ownsRow_slice hpv.out
      obtain⟨pl_,hpl_⟩:∃m,(remKV A key).length=m:=⟨_,rfl⟩
      rw [hpl_]at hpv ⊢
      have HPL:=Lib.hid hpl_
      clear hpl_
      have HH4:w4.cell? ⟨kn x,4,none⟩=some (.slice aa al ac)∧w4.cell? ⟨q,3,none⟩=some (.string key)∧w4.cell? ⟨q,4,none⟩=some (.string val):=⟨cell_below hb4.out p4d,cell_below hb4.out p3d,cell_below hb4.out p5d⟩
      refine hK.out _ _ (fun _=>HH4) ?_
      clear hK K hHeld
      try simp only [Act.put,List.setIfInBounds_toArray,List.set_cons_zero,List.set_cons_succ]
      have HB04:=Lib.hid (HBD.out.trans (hb4.out.mono HBD.out.size))
      apply gP 8
      apply gP 9
      have g4:=HH4.1
      have g4f:w4.frozen? ⟨kn x,4,none⟩=false:=(HOB.out.below HB04.out HOB.out.lt).free 4
      refine wpAnyG_one (i:=10) (by kernel_rfl) (o:=_) rfl (fun K hK=>?_)
      go_simp
      refine hK.out _ _ (fun h=>absurd (h.symm.trans (by kernel_rfl:_=true)) (by decide)) ?_
      clear hK K
      try simp only [Act.put,List.setIfInBounds_toArray,List.set_cons_zero,List.set_cons_succ]
      refine wpAnyG_done (by kernel_rfl) ?_ _
      refine NoPanic.normal ?_
      have hown4:OwnKV w4 W.heap.size (.slice pa pl_ pc) (remKV A key):=ownsRow_base hpv.out (by have :=HBD.out.size;omega)
      have hK5:=(HKR.out.1.below HB04.out).set4 HX2.out.1 hown4
      have hA5:=HKR.out.2.1.step (x:=x) HX2.out.2.1 (A:={lab' x with attrs:=remKV A key}) (by
       have e9:(lab x).attrs=A:=HX2.out.2.2.2.2.1
       rw [HX2.out.2.2.1]
       exact .inr (.inl ⟨HO.out,by rw [e9]⟩))
      have hO5:OnlyK len kn w0 (w4.setCell ⟨kn x,4,none⟩ (.slice pa pl_ pc)):=HKR.out.2.2.trans ((OnlyK.of_below HB04.out).set HX2.out.1 ((HKR.out.1.below HB04.out).node x HX2.out.1) 4 (.slice pa pl_ pc))
      have HNEW:=Lib.hid (show AtMidA W o key val xs len kn kv pl lab F l (k+1) w0 (w4.setCell ⟨kn x,4,none⟩ (.slice pa pl_ pc)) from⟨_,_,hK5,by
       rw [HX2.out.2.2.2.1]
       exact hA5,hO5⟩)
      clear hown4 hK5 hA5 hO5
      go_wp2
      refine⟨?rel,?measure⟩
      case rel=>exact⟨k+1,by omega,by go_num,HNEW⟩
      case measure=>simp [intOf];omega
     have g13:(o==13)=false:=by simp [e13]
     have hcs:((o==14)=true∧Hid (o=14∨o=15∨o=16))∨((o==14)=false∧(o==15)=true∧Hid (o=14∨o=15∨o=16))∨((o==14)=false∧(o==15)=false∧(o==16)=true∧Hid (o=14∨o=15∨o=16))∨((o==14)=false∧(o==15)=false∧(o==16)=false):=by
      by_cases e14:o=14
      ·exact .inl ⟨by simp [e14],Lib.hid (.inl e14)⟩
      ·by_cases e15:o=15
       ·exact .inr (.inl ⟨by simp [e14],by simp [e15],Lib.hid (.inr (.inl e15))⟩)
       ·by_cases e16:o=16
        ·exact .inr (.inr (.inl ⟨by simp [e14],by simp [e15],by simp [e16],Lib.hid (.inr (.inr e16))⟩))
        ·exact .inr (.inr (.inr ⟨by simp [e14],by simp [e15],by simp [e16]⟩))
     clear e12 e13 r3 r4
     rcases hcs with ⟨g14,HO3⟩ | ⟨g14,g15,HO3⟩ | ⟨g14,g15,g16,HO3⟩ | ⟨g14,g15,g16⟩
     rotate_right
     ·clear HATTR HHAD d1 d2 d3 d4 d4f d5
      go_wp2
      go_ret
      exact .inl ⟨rfl,HEN⟩
     all_goals
      go_wp2_with fail
      refine HATTR.out.mono ?_
      rintro e w1 ⟨rfl,hb1⟩
      rw [HHAD.out]
      have r5:=cell_below hb1.out r5
      clear HATTR
      by_cases hx0:xs.length=0
      ·have e0:((xs.length:Int)==0)=true:=by simp [hx0]
       clear hx0
       go_wp2
       go_ret
       exact .inl ⟨rfl,Lib.hid (HEN.out.trans (hb1.out.mono hsW))⟩
      have e0:((xs.length:Int)==0)=false:=by simp;exact fun e=>hx0 (by rw [e];rfl)
      have HX0:=Lib.hid hx0
      have HSC:=Lib.hid (simpleClass_any had w1 f3)
      go_wp2_with fail
      refine HSC.out.mono ?_
      rintro e w2 ⟨bb,hsay,rfl,hb2⟩
      have HSAY:=Lib.hid hsay
      have hb12:Below wr.heap.size wr w2:=hb1.out.trans (hb2.mono hb1.out.size)
      clear HSC hsay
      cases bb
      ·go_wp2
       go_ret
       exact .inl ⟨rfl,Lib.hid (HEN.out.trans (hb12.mono hsW))⟩
      have p4:=cell_below hb12 d4
      have p0:=cell_below hb12 r0
      have p5:=cell_below hb2 r5
      have hbd:Below wr.heap.size wr w2.drew:=hb12.drew
      have hwd:Below w2.heap.size w2 w2.drew:=(Below.refl _ _).drew
      have p4d:=cell_below hwd p4
      have p0d:=cell_below hwd p0
      have p5d:=cell_below hwd p5
      have hcls:=classes_any o had xs a c w2.drew f3 (HX.out.below (HBW.out.trans (hbd.mono hsW))) hn HZ.out
      have HCLS:=Lib.hid hcls
      have HBD:=Lib.hid hbd
      clear hcls hb12 hb1 hb2 d1 d2 d3 d4 d5 d4f r0 r5 p4 p0 p5 hwd hbd hx0 e0
      go_wp2
      refine wp_region_noPanic ?_
      refine wp_region_G (k0:=14) (S:=fun w'=>w'.cell? ⟨kn x,4,none⟩=some (.slice aa al ac)∧w'.cell? ⟨q,0,none⟩=some (.int .i64 o)∧w'.cell? ⟨q,5,none⟩=some (.slice a xs.length c)) (by kernel_rfl) ?_ (fun hHeld=>?_)
      ·exact⟨p4d,p0d,p5d⟩
      apply gP 0
      apply gP 1
      apply gP 2
      apply gP 3
      apply gL 4
      apply gP 5
      apply gL 6
      apply gP 7
      apply gP 8
      apply gL 9
      refine wpAnyG_one (i:=10) (by kernel_rfl) (o:=_) rfl (fun K hK=>?_)
      go_simp
      go_wp2_with (go_at_call 115;refine HCLS.out.mono ?_;rintro e w3 ⟨r,rfl,hr,hrz,hb3⟩)
      have HH3:w3.cell? ⟨kn x,4,none⟩=some (.slice aa al ac)∧w3.cell? ⟨q,0,none⟩=some (.int .i64 o)∧w3.cell? ⟨q,5,none⟩=some (.slice a xs.length c):=⟨cell_below hb3.out p4d,cell_below hb3.out p0d,cell_below hb3.out p5d⟩
      refine hK.out _ _ (fun _=>HH3) ?_
      clear hK K
      try simp only [Act.put,List.setIfInBounds_toArray,List.set_cons_zero,List.set_cons_succ]
      have hb03:Below wr.heap.size wr w3:=HBD.out.trans (hb3.out.mono HBD.out.size)
      have hwa:Calls Tryz.prog 112 #[.slice aa al ac,.string ⟨#[99,108,97,115,115]⟩,.string r] w3 (WithPost (setKV A clsK r) w3):=withAttr_any aa al ac A clsK r w3 (HAT.out.below hb03) f1
      have HWA:=Lib.hid hwa
      have HB03:=Lib.hid hb03
      have HR3:=Lib.hid (And.intro hr.out hrz)
      clear hwa hb03 hr hrz hb3 hHeld HCLS
      refine wpAnyG_one (i:=11) (by kernel_rfl) (o:=_) rfl (fun K hK=>?_)
      go_simp
      go_wp2_with (go_at_call 112;refine HWA.out.mono ?_;rintro e w4 ⟨pv,rfl,hpv,hb4⟩)
      obtain⟨pa,pc,rfl⟩:=ownsRow_slice hpv.out
      obtain⟨pl_,hpl_⟩:∃m,(setKV A clsK r).length=m:=⟨_,rfl⟩
      have HPL:=Lib.hid hpl_
      rw [hpl_]at hpv ⊢
      clear hpl_
      have HH4:w4.cell? ⟨kn x,4,none⟩=some (.slice aa al ac)∧w4.cell? ⟨q,0,none⟩=some (.int .i64 o)∧w4.cell? ⟨q,5,none⟩=some (.slice a xs.length c):=⟨cell_below hb4.out HH3.1,cell_below hb4.out HH3.2.1,cell_below hb4.out HH3.2.2⟩
      refine hK.out _ _ (fun _=>HH4) ?_
      clear hK K
      try simp only [Act.put,List.setIfInBounds_toArray,List.set_cons_zero,List.set_cons_succ]
      have HB04:=Lib.hid (HB03.out.trans (hb4.out.mono HB03.out.size))
      have hHeld:=HH4
      apply gP 12
      apply gP 13
      have g4:=HH4.1
      have g4f:w4.frozen? ⟨kn x,4,none⟩=false:=(HOB.out.below HB04.out HOB.out.lt).free 4
      refine wpAnyG_one (i:=14) (by kernel_rfl) (o:=_) rfl (fun K hK=>?_)
      go_simp
      refine hK.out _ _ (fun h=>absurd (h.symm.trans (by kernel_rfl:_=true)) (by decide)) ?_
      clear hK K
      try simp only [Act.put,List.setIfInBounds_toArray,List.set_cons_zero,List.set_cons_succ]
      refine wpAnyG_done (by kernel_rfl) ?_ _
      refine NoPanic.normal ?_
      have hown4:OwnKV w4 W.heap.size (.slice pa pl_ pc) (setKV A clsK r):=ownsRow_base hpv.out (by have :=HB03.out.size;omega)
      have hK5:=(HKR.out.1.below HB04.out).set4 HX2.out.1 hown4
      have hA5:=HKR.out.2.1.step (x:=x) HX2.out.2.1 (A:={lab' x with attrs:=setKV A clsK r}) (by
       have e9:(lab x).attrs=A:=HX2.out.2.2.2.2.1
       rw [HX2.out.2.2.1]
       exact .inr (.inr ⟨HO3.out,by rw [e9,HX2.out.2.2.2.2.2];exact HSAY.out,Nat.pos_of_ne_zero HX0.out,r,by rw [e9],by rw [e9,HX2.out.2.2.2.2.2];exact HR3.out.1,by rw [e9,HX2.out.2.2.2.2.2];exact HR3.out.2⟩))
      have hO5:OnlyK len kn w0 (w4.setCell ⟨kn x,4,none⟩ (.slice pa pl_ pc)):=HKR.out.2.2.trans ((OnlyK.of_below HB04.out).set HX2.out.1 ((HKR.out.1.below HB04.out).node x HX2.out.1) 4 (.slice pa pl_ pc))
      have HNEW:=Lib.hid (show AtMidA W o key val xs len kn kv pl lab F l (k+1) w0 (w4.setCell ⟨kn x,4,none⟩ (.slice pa pl_ pc)) from⟨_,_,hK5,by
       rw [HX2.out.2.2.2.1]
       exact hA5,hO5⟩)
      clear hown4 hK5 hA5 hO5
      go_wp2
      refine⟨?rel,?measure⟩
      case rel=>exact⟨k+1,by omega,by go_num,HNEW⟩
      case measure=>simp [intOf];omega
    ·obtain rfl:k=l.length:=by omega
     rw [List.take_length]at hA
     have HFIN:=Lib.hid (And.intro hKr (And.intro hA ((OnlyK.of_below H0.out.1).trans hO)))
     clear hKr hA hO hqb hends hbW
     go_wp2
     go_ret
     exact .inr ⟨av',lab',rfl,HNS.out,HKY.out,Lib.hid HFIN.out.1,Lib.hid HFIN.out.2.1,Lib.hid HFIN.out.2.2⟩
end Go.Proofs.YtkdomegcacgpnaaGreat
