/- Parts of a proof: ChangedG, EndsMany. -/
import Derived.Test.YtkdomegcacgpnaaGreatG44
import Derived.Test.YtkdomegcacgpnaaGreatG42
import Derived.Test.YtkdomegcacgpnaaGreatG47
import Derived.Test.YtkdomegcacgpnaaGreatG38
import Derived.Test.YtkdomegcacgpnaaGreatG19
set_option linter.unusedVariables false
set_option linter.unusedSimpArgs false
namespace Go.Proofs.YtkdomegcacgpnaaGreat
open Go.RowKit
instance:Inhabited StepD:=⟨⟨0,[],[],ByteArray.empty,ByteArray.empty,[]⟩⟩
structure StepAt (W:World) (x:StepD) (a1:Option Addr) (n1:Nat) (a2:Option Addr) (n2:Nat) (xa:Option Addr) (xc:Nat):Prop where
 on:Ints W a1 n1 x.on
 wi:Ints W a2 n2 x.wi
 ls:StrCells W xa x.ls.length x.ls
 lsn:x.ls.length≤1048576
 lsz:∀y∈x.ls,y.size≤1048576
 key:x.key.size≤1048576
 val:x.val.size≤1048576
 cap:x.ls.length≤xc
def StepsAt(W:World)(a:Option Addr)(xs:List StepD):Prop:=
 0<xs.length→∃b off,a=some ⟨b,off,none⟩∧∀i,i<xs.length→∃a1 n1 c1 a2 n2 c2 xa xc,StepAt W (xs.getD i default) a1 n1 a2 n2 xa xc∧
  W.cell? ⟨b,off+i*6,none⟩=some (.int .i64 (xs.getD i default).op)∧W.cell? ⟨b,off+i*6+1,none⟩=some (.slice a1 n1 c1)∧W.cell? ⟨b,off+i*6+2,none⟩=some (.slice a2 n2 c2)∧
  W.cell? ⟨b,off+i*6+3,none⟩=some (.string (xs.getD i default).key)∧W.cell? ⟨b,off+i*6+4,none⟩=some (.string (xs.getD i default).val)∧W.cell? ⟨b,off+i*6+5,none⟩=some (.slice xa (xs.getD i default).ls.length xc)
theorem lab_start{ts:List NodeD}{len:Nat}(hR:RightT ts len):∀i,i<len→LabOk 0 (ts.getD i default):=fun i hi=>by
 have hn:=hR.node i hi
 by_cases h3:(ts.getD i default).kind=3
 ·obtain⟨h1,h2⟩:=hn.attrs h3
  exact⟨dist_of (fun i hi j hj=>h2 i j hj hi),by omega,fun z hz=>⟨by
   obtain⟨j,hj,rfl⟩:=List.getElem_of_mem hz
   have h4:=hn.keys h3 j hj
   rw [List.getD_eq_getElem?_getD,List.getElem?_eq_getElem hj]at h4
   have h5:((ts.getD i default).attrs[j]).1.size≤40:=h4
   omega,by have :=hR.vals i hi z hz;have :=szB_base 0;omega⟩⟩
 ·have e:=(hn.bare h3).2
  exact⟨by rw [e];exact List.Pairwise.nil,by rw [e];simp,fun z hz=>by rw [e]at hz;cases hz⟩
def RestOk(len:Nat)(lab0:Nat→NodeD)(F0:Wd)(xs:List StepD)(k m:Nat)(lab:Nat→NodeD)(F:Wd):Prop:=
 ∀mf labf Ff,ChainR len mf labf Ff (xs.drop k) m lab F→ChainR len mf labf Ff xs len lab0 F0
structure ChgK (len:Nat) (lab0:Nat→NodeD) (F0:Wd) (xs:List StepD) (kn0:Nat→Nat) (k m:Nat) (kn:Nat→Nat) (lab:Nat→NodeD) (F:Wd):Prop where
 le:len≤m
 m6:m≤600
 ok:WOk m F
 kns:∀i,i<len→kn i=kn0 i
 labs:∀i,i<m→LabOk k (lab i)
 rest:RestOk len lab0 F0 xs k m lab F
theorem drop_consS{xs:List StepD}{k:Nat}(h:k<xs.length):xs.drop k=xs.getD k default::xs.drop (k+1):=by
 rw [List.drop_eq_getElem_cons h,List.getD_eq_getElem?_getD,List.getElem?_eq_getElem h]
 rfl
theorem ChgK.step{len:Nat}{lab0:Nat→NodeD}{F0:Wd}{xs:List StepD}{kn0:Nat→Nat}{k m:Nat}{kn:Nat→Nat}{lab:Nat→NodeD}{F:Wd}(h:ChgK len lab0 F0 xs kn0 k m kn lab F)(hk:k<xs.length){x:StepD}(hx:xs.getD k default=x)(hv:x.val.size≤1048576){m':Nat}{kn':Nat→Nat}{lab':Nat→NodeD}{F':Wd}{l ws:List Nat}(h6:m'≤600)(hkn:∀i,i<len→kn' i=kn0 i)(hl:Picks len x.on l)(h0:0<l.length)(hw:Picks len x.wi ws)(hs:StepR len x l ws m lab F m' lab' F'):ChgK len lab0 F0 xs kn0 (k+1) m' kn' lab' F':=by
 obtain⟨a1,a2,a3⟩:=hs.ok h.ok h.le hl hw
 refine⟨Nat.le_trans h.le a2,h6,a1,hkn,a3 (LabOk k) (LabOk (k+1)) (fun A hA=>hA.more) (fun A A' hA _ hky hN=>hA.step hv hky hN) h.labs,fun mf labf Ff hc=>h.rest mf labf Ff ?_⟩
 rw [drop_consS hk,hx]
 exact .cons h6 hl h0 hw hs hc
def ChangedGPost(len:Nat)(ts:List NodeD)(xs:List StepD)(W:World)(e:Ending)(w':World):Prop:=
 (e=.returned (.tuple #[.slice none 0 0,.slice none 0 0,.bool false])∧Hid (Below W.heap.size W w'))∨
 ∃mf labf Ff C ov pv,RightT ts len∧ChainR len mf labf Ff xs len (fun i=>ts.getD i default) (wd0 (sz ts) len)∧mf≤600∧WOk mf Ff∧(∀i,i<mf→LabOk xs.length (labf i))∧Fs Ff.kids [0] C∧e=.returned (.tuple #[ov,pv,.bool true])∧Hid (OutAt w' W.heap.size ov labf C)∧Hid (OwnZ w' W.heap.size pv (atSet (plC len) (List.replicate len (-1)) 0 C))∧Hid (Below W.heap.size W w')
set_option maxRecDepth 100000 in
set_option maxHeartbeats 8000000 in
theorem changedG_any(W:World)(a:Option Addr)(len cap:Nat)(ts:List NodeD)(hN:Nodes W a len ts)(sa:Option Addr)(scap:Nat)(xs:List StepD)(hS:StepsAt W sa xs)(hx12:xs.length≤12):
  Calls Tryz.prog 13 #[.slice a len cap,.slice sa xs.length scap] W (ChangedGPost len ts xs W):=by
 have hlm:=hN.len.2
 have HN:=Lib.hid hN
 have HS:=Lib.hid hS
 clear hN hS
 go_enter Tryz.func13,Tryz.ntmps13
 go_wp2_with fail
 refine(right_any a len cap ts W HN.out).mono ?_
 rintro e w1 ⟨b1,hr1,rfl,hb1⟩
 have HB1:=Lib.hid hb1
 clear hb1
 cases b1
 ·go_wp2
  go_ret3
  exact .inl ⟨rfl,HB1⟩
 have HR:=Lib.hid (hr1 rfl)
 have hlen:=HR.out.le
 have hpos:=HR.out.pos
 clear hr1
 go_wp2_with fail
 refine(grownK_any w1 a len cap ts HR.out (HN.out.below HB1.out)).mono ?_
 rintro e w2 ⟨f,vf,kn,kv,av,rfl,hK,hFo,hb2⟩
 have hbs1:=HB1.out.size
 have HB2:=Lib.hid (HB1.out.trans (hb2.out.mono hbs1))
 have HK2:=Lib.hid ((hK.out.weaken hbs1).plC (len:=len) (fun i _ _=>rfl) (fun i h1 h2=>by omega))
 have HF2:=Lib.hid (hFo.out.weaken hbs1)
 have HST:=Lib.hid (show ChgK len (fun i=>ts.getD i default) (wd0 (sz ts) len) xs kn 0 len kn (fun i=>ts.getD i default) (wd0 (sz ts) len) from⟨Nat.le_refl _,by omega,wd0_ok HR.out.nest,fun _ _=>rfl,lab_start HR.out,fun _ _ _ h=>h⟩)
 clear hK hFo hb2 HB1
 obtain⟨XL,hXL⟩:∃XL,xs.length=XL:=⟨_,rfl⟩
 have HXL:=Lib.hid hXL
 rw [hXL]at hx12 ⊢
 clear hXL
 go_wp2
 go_loopw [8] (fun iv wr=>∃(k m:Nat) (kn':Nat→Nat) (kv' av':Nat→Value) (lab:Nat→NodeD) (F:Wd),k≤XL∧iv=.int .i64 (k:Int)∧Hid (Below W.heap.size W wr)∧Hid (ChgK len (fun i=>ts.getD i default) (wd0 (sz ts) len) xs kn k m kn' lab F)∧Hid (Knots W.heap.size wr m kn' kv' av' (plC len) lab F)∧Hid (ForestK W.heap.size wr f vf len kn (m:Int) false)) (fun i _=>XL-(intOf i).toNat)
 case atStart=>exact⟨0,len,kn,kv,av,_,_,by omega,by go_num,HB2,HST,HK2,HF2⟩
 case round=>
  clear HST HK2 HF2 HB2
  obtain⟨k,m,kn',kv',av',lab,F,hk,rfl,HBr,HCH,HKr,HFr⟩:=hrel
  by_cases hlt:k<XL
  ·obtain⟨b,off,rfl,hcc⟩:=HS.out (by have :=HXL.out;omega)
   obtain⟨a1,n1,c1,a2,n2,c2,xa,xc,hsa,t0,t1,t2,t3,t4,t5⟩:=hcc k (by have :=HXL.out;omega)
   obtain⟨x,hx⟩:∃x,xs.getD k default=x:=⟨_,rfl⟩
   rw [hx]at hsa t0 t3 t4 t5
   have t0:=cell_below HBr.out t0
   have t1:=cell_below HBr.out t1
   have t2:=cell_below HBr.out t2
   have t3:=cell_below HBr.out t3
   have t4:=cell_below HBr.out t4
   have t5:=cell_below HBr.out t5
   have hk12:k≤12:=by omega
   have hsb:=szB_12 hk12
   have hst:=stepG_any W x xa xc hsa.ls hsa.lsn hsa.lsz (by have :=hsa.key;unfold maxLen;omega) wr HBr.out f len m HCH.out.le HCH.out.m6 vf kn kn' kv' av' lab F HKr.out HCH.out.kns HCH.out.ok HFr.out hpos hlen a1 n1 c1 (hsa.on.below HBr.out) a2 n2 c2 (hsa.wi.below HBr.out) (fun y hy=>by
    have h1:=HCH.out.labs y hy
    have h2:=h1.len
    have h3:=h1.cls
    exact⟨by omega,fun z hz=>by have h4:=h1.size z hz;unfold maxLen;exact⟨by omega,by omega⟩,by omega⟩)
   have HSTP:=Lib.hid hst
   have HX:=Lib.hid (And.intro hx hsa)
   have hkI:(k:Int)<(XL:Int):=by omega
   obtain⟨xop,hxop⟩:∃q,x.op=q:=⟨_,rfl⟩
   obtain⟨xkey,hxkey⟩:∃q,x.key=q:=⟨_,rfl⟩
   obtain⟨xval,hxval⟩:∃q,x.val=q:=⟨_,rfl⟩
   obtain⟨xln,hxln⟩:∃q,x.ls.length=q:=⟨_,rfl⟩
   rw [hxop]at t0
   rw [hxkey]at t3
   rw [hxval]at t4
   rw [hxln]at t5
   rw [hxop,hxkey,hxval,hxln]at HSTP
   clear hst hsa hx hcc hsb hxop hxkey hxval hxln
   go_wp2_with fail
   refine HSTP.out.mono ?_
   intro e w3 hp
   clear HSTP t0 t1 t2 t3 t4 t5
   rcases hp with ⟨rfl,hb3⟩ | ⟨m',kn2,kv2,av2,lab2,F2,l,ws,rfl,h6,hkn2,hpl,hl0,hpw,hsr,hk3,hf3,hb3⟩ | ⟨rfl,many,hf3,hb3⟩
   ·have HB3:=Lib.hid (HBr.out.trans hb3.out)
    clear hb3
    go_wp2
    go_ret3
    exact .inl ⟨rfl,HB3⟩
   ·have HB3:=Lib.hid (HBr.out.trans hb3.out)
    have HCH3:=Lib.hid (HCH.out.step (by have :=HXL.out;omega) HX.out.1 HX.out.2.val h6 hkn2 hpl hl0 hpw hsr)
    have o2:=hf3.out.obj.cell (i:=2) (v:=.bool false) rfl
    clear hb3 hsr hkn2 hpl hl0 hpw h6
    go_wp2
    refine⟨?rel,?measure⟩
    case rel=>exact⟨k+1,m',kn2,kv2,av2,lab2,F2,by omega,by go_num,HB3,HCH3,hk3,hf3⟩
    case measure=>simp [intOf];omega
   ·have HB3:=Lib.hid (HBr.out.trans hb3.out)
    have o2:=hf3.out.obj.cell (i:=2) (v:=.bool true) rfl
    clear hb3
    go_wp2
    go_ret3
    exact .inl ⟨rfl,HB3⟩
  ·obtain rfl:XL=k:=by omega
   obtain⟨wo,hwo⟩:∃wo,wo=wr:=⟨_,rfl⟩
   subst hwo
   have hWr:=HBr.out.size
   have hmk:=at_make len hlen wo
   have HMADE:=Lib.hid (at_made len hlen wo wo.heap.size (Nat.le_refl _))
   go_wp2
   go_loopw [10] (fun iv w1=>∃k:Nat,k≤len∧iv=.int .i64 (k:Int)∧Hid (w1.ownsRow wo.heap.size 3 1 (.slice (some ⟨wo.heap.size,0,none⟩) len len) len ((List.replicate k (-1:Int)++List.replicate (len-k) 0).map intZ))∧Hid (Below wo.heap.size wo w1)) (fun i _=>len-(intOf i).toNat)
   case atStart=>exact⟨0,by omega,by go_num,HMADE,Lib.hid ((Below.refl _ _).alloc (Nat.le_refl _) _)⟩
   case round=>
    obtain⟨k,hk,rfl,HO,HB⟩:=hrel
    by_cases hlt:k<len
    ·have hkI:(k:Int)<(len:Int):=by omega
     have hset:=ownsRow_set HO.out (i:=k) (by omega) (.int .i64 (-1))
     rw [minus_step hlt]at hset
     have hfr:=own_free HO.out k
     obtain⟨v9,hck⟩:∃u,wr.cell? ⟨wo.heap.size,k,none⟩=some u:=⟨_,own_cell HO.out (i:=k) (by rw [HO.out.1];omega)⟩
     have HSET:=Lib.hid hset
     clear hset
     go_wp2
     go_roundw
     case rel=>exact⟨k+1,by omega,by go_num,HSET,Lib.hid (Below.setCell HB.out (Nat.le_refl _) _)⟩
     case measure=>simp [intOf];omega
    ·obtain rfl:k=len:=by omega
     have hO:=HO.out
     rw [Nat.sub_self,List.replicate_zero,List.append_nil]at hO
     have hwo:=HBr.out.trans (HB.out.mono hWr)
     obtain⟨g,fcap,hvf,hfc1,hfc2,f0,_,_,frow⟩:=(HFr.out.below HB.out).open hpos
     have r0:=frow 0 hpos
     have hm0:0<m:=Nat.lt_of_lt_of_le hpos HCH.out.le
     have hm6:=HCH.out.m6
     obtain⟨C,hC,hnd,hlt,hCl⟩:=HCH.out.ok.sized hm0
     have hplc:∀i,i<m→plC k i<(k:Int):=fun i _=>by unfold plC;split <;> omega
     have hls:=listed_any HKr.out HCH.out.ok wo.heap.size k C.length 0 C (.slice none 0 0) 0 [] (List.replicate k (-1)) wr hm0 hC (Nat.le_refl _) (by omega) (World.ownsRow_nil _ _ _ _) (by rw [List.length_replicate];exact hO) (by simp [Value.ownBlock]) HB.out (by simp;omega) (by rw [List.length_replicate];exact hplc)
     rw [List.length_replicate,HCH.out.kns 0 hpos]at hls
     have HLS:=Lib.hid hls
     have HC:=Lib.hid (And.intro hC hlt)
     have HWO:=Lib.hid hwo
     clear hO hwo hvf frow hC hnd hlt hls hplc
     go_wp2_with fail
     refine HLS.out.mono ?_
     rintro e w9 ⟨ov,rfl,ho9,ha9,_,hb9⟩
     have HB9:=Lib.hid (HBr.out.trans (hb9.out.mono hWr))
     have HOUT:=Lib.hid (out_of_listed HKr.out hb9.out hWr HC.out.2 ho9.out)
     have hz:=ha9.out
     rw [List.length_replicate]at hz
     have HZ:Hid (OwnZ w9 W.heap.size (.slice (some ⟨wo.heap.size,0,none⟩) k k) (atSet (plC k) (List.replicate k (-1)) 0 C)):=Lib.hid (by
      unfold OwnZ
      rw [atSet_length,List.length_replicate]
      exact ownsRow_base hz hWr)
     have HFIN:=Lib.hid (HCH.out.rest m lab F (by
      rw [List.drop_of_length_le (by rw [HXL.out];exact Nat.le_refl _)]
      exact .nil rfl rfl rfl))
     clear HLS ho9 ha9 hb9 hz
     go_wp2
     go_ret3
     exact .inr ⟨m,lab,F,C,_,_,HR.out,HFIN.out,HCH.out.m6,HCH.out.ok,by rw [HXL.out];exact HCH.out.labs,HC.out.1,rfl,HOUT,HZ,HB9⟩
theorem atSet_get2{len n:Nat}{pl:Nat→Int}(hp:∀i,i<len→pl i=(i:Int))(hq:∀i,len≤i→i<n→pl i= -1):∀(C:List (Nat×Nat)) (vs:List Int) (N:Nat),(C.map (·.1)).Nodup→vs.length=len→(∀y∈C,y.1<n)→∀i,i<len→(atSet pl vs N C).getD i 0=if i∈C.map (·.1)then posFrom (C.map (·.1)) N i else vs.getD i 0
 | [],vs,N,_,_,_,i,hi=>by simp [atSet]
 | y::C,vs,N,hd,hl,hn,i,hi=>by
  rw [List.map_cons,List.nodup_cons]at hd
  have hy:=hn y (List.mem_cons_self ..)
  by_cases hyl:y.1<len
  ·have e0:(if 0≤pl y.1∧pl y.1<(vs.length:Int)then vs.set (pl y.1).toNat (N:Int)else vs)=vs.set y.1 (N:Int):=by
    rw [hp y.1 hyl,if_pos ⟨by omega,by omega⟩]
    rfl
   simp only [atSet,e0]
   rw [atSet_get2 hp hq C _ (N+1) hd.2 (by rw [List.length_set];exact hl) (fun z hz=>hn z (List.mem_cons_of_mem _ hz)) i hi]
   simp only [List.map_cons,List.mem_cons,posFrom]
   by_cases e:y.1=i
   ·subst e
    rw [if_neg hd.1,if_pos (.inl rfl),if_pos rfl]
    rw [List.getD_eq_getElem?_getD,List.getElem?_set_self (by omega)]
    rfl
   ·by_cases h2:i∈C.map (·.1)
    ·rw [if_pos h2,if_pos (.inr h2),if_neg e]
    ·rw [if_neg h2,if_neg (by rintro(h | h);exact e h.symm;exact h2 h)]
     rw [List.getD_eq_getElem?_getD,List.getElem?_set_ne e,←List.getD_eq_getElem?_getD]
  ·have e0:(if 0≤pl y.1∧pl y.1<(vs.length:Int)then vs.set (pl y.1).toNat (N:Int)else vs)=vs:=by
    rw [hq y.1 (by omega) hy,if_neg (by omega)]
   simp only [atSet,e0]
   rw [atSet_get2 hp hq C _ (N+1) hd.2 hl (fun z hz=>hn z (List.mem_cons_of_mem _ hz)) i hi]
   have e:y.1≠i:=by omega
   simp only [List.map_cons,List.mem_cons,posFrom,if_neg e]
   by_cases h2:i∈C.map (·.1)
   ·rw [if_pos h2,if_pos (.inr h2)]
   ·rw [if_neg h2,if_neg (by rintro(h | h);exact e h.symm;exact h2 h)]
theorem atSet_many{len n:Nat}{pl:Nat→Int}(hp:∀i,i<len→pl i=(i:Int))(hq:∀i,len≤i→i<n→pl i= -1){C:List (Nat×Nat)}(hd:(C.map (·.1)).Nodup)(hn:∀y∈C,y.1<n):atSet pl (List.replicate len (-1)) 0 C=placesW len C:=by
 apply List.ext_getElem
 ·rw [atSet_length]
  simp [placesW]
 ·intro i h1 h2
  have hi:i<len:=by rw [atSet_length]at h1;simpa using h1
  have h3:=atSet_get2 hp hq C (List.replicate len (-1)) 0 hd (by simp) hn i hi
  rw [List.getD_eq_getElem?_getD,List.getElem?_eq_getElem h1]at h3
  simp only [Option.getD_some]at h3
  rw [h3]
  simp only [placesW,List.getElem_map,List.getElem_range]
  by_cases h:i∈C.map (·.1)
  ·rw [if_pos h]
  ·rw [if_neg h,posFrom_not _ _ h]
   simp [List.getD_eq_getElem?_getD,hi]
end Go.Proofs.YtkdomegcacgpnaaGreat
namespace Go.Proofs.YtkdomegcacgpnaaGreat
open Go.RowKit
set_option maxRecDepth 100000 in
set_option maxHeartbeats 1000000 in
theorem ends_manyK{B:Nat}{W:World}{n m:Nat}(hnm:n≤m){nb:Nat→Nat}{v:Nat→Value}{lab:Nat→NodeD}{F:Wd}(hD:DomAt B W m nb v lab F)(hF:WOk m F)(hok:∀i,i<m→KindOk (lab i))(h0:0<n)(hn:n≤200)(g bl:Nat)(hg:W.cell? ⟨g,0,none⟩=some (.slice (some ⟨bl,0,none⟩) n n))(hrow:∀i,i<n→W.cell? ⟨bl,i,none⟩=some (.pointer (some ⟨nb i,0,none⟩)))
  (C:List (Nat×Nat)) (hC:Fs F.kids [0] C) (hnd:(C.map (·.1)).Nodup) (hlt:∀y∈C,y.1<m) (hCl:C.length≤1000):
  Calls Tryz.prog 21 #[.pointer (some ⟨g,0,none⟩)] W (EndsPost lab n C W):=by
 have htk:=taken_anyK hD hF hok C.length 0 C (.slice none 0 0) (.slice none 0 0) 0 [] [] W (by omega) hC (Nat.le_refl _) (by omega) (World.ownsRow_nil _ _ _ _) (World.ownsRow_nil _ _ _ _) (Below.refl _ _)
 have r0:=hrow 0 h0
 have HTK:=Lib.hid htk
 have HD:=Lib.hid hD
 have HR:=Lib.hid hrow
 have HND:=Lib.hid (And.intro hnd hlt)
 clear htk hD hF hok hrow hC hnd hlt
 go_enter Tryz.func21,Tryz.ntmps21
 go_wp2_with fail
 refine HTK.out.mono ?_
 rintro e w1 ⟨tv,lv,D,rfl,hDC,ht,hl,hk,hb,_⟩
 have hg1:=cell_below hb.out hg
 have hl1:PtrsOf w1 lv ((C.map (·.1)).map nb):=by
  have h1:=hl.out
  have h2:D.length=(C.map (·.1)).length:=by rw [←hDC,List.length_map,szs_len]
  rw [Nat.zero_add,List.nil_append,h2]at h1
  refine OwnPtrs.ptrs (B:=W.heap.size) ?_
  unfold OwnPtrs
  rw [List.length_map,List.map_map]
  exact h1
 have hpl:=placesAt_any lv ((C.map (·.1)).map nb) (.slice (some ⟨bl,0,none⟩) n n) ((List.range n).map nb) w1 hl1 (fun i hi=>by
   have hi':i<(C.map (·.1)).length:=by simpa using hi
   have e1:((C.map (·.1)).map nb).getD i 0=nb ((C.map (·.1)).getD i 0):=by simp only [List.getD_eq_getElem?_getD,List.getElem?_map,List.getElem?_eq_getElem hi',Option.map_some,Option.getD_some]
   rw [e1]
   obtain⟨y,hy,hye⟩:=List.mem_map.1 (getD_mem' (d:=0) hi')
   rw [←hye]
   exact(HD.out.node _ (HND.out.2 y hy)).alive.below hb.out) (row_ptrs hn (fun i hi=>cell_below hb.out (HR.out i hi))) (fun i hi=>by
   have hi':i<n:=by simpa using hi
   have e1:((List.range n).map nb).getD i 0=nb i:=by simp [List.getD,hi']
   rw [e1]
   exact(HD.out.node i (by omega)).alive.below hb.out) (by simpa using hn)
 have HPL:=Lib.hid hpl
 have HOUT:=Lib.hid (show OutAt w1 W.heap.size tv lab C from⟨D,hDC,by have :=ht.out;rwa [Nat.zero_add,List.nil_append]at this,hk.out⟩)
 have heq:((List.range n).map nb).map (fun p=>findI ((C.map (·.1)).map nb) p)=placesW n C:=by
  unfold placesW
  rw [List.map_map]
  refine List.map_congr_left (fun i hi=>?_)
  exact find_pos HD.out.inj HND.out.1 (fun y hy=>by
   obtain⟨q,hq,rfl⟩:=List.mem_map.1 hy
   exact HND.out.2 q hq) (by have :=List.mem_range.1 hi;omega)
 have HEQ:=Lib.hid heq
 clear hl1 hpl heq ht hl hk hDC HTK hg r0
 go_wp2_with fail
 refine HPL.out.mono ?_
 rintro e w2 ⟨pv,rfl,hz,hb2⟩
 have hb02:=Lib.hid (hb.out.trans (hb2.out.mono hb.out.size))
 have ho2:=Lib.hid (HOUT.out.below hb2.out)
 have hz2:Hid (OwnZ w2 W.heap.size pv (placesW n C)):=Lib.hid (by rw [←HEQ.out];exact ownsRow_base hz.out hb.out.size)
 clear HPL
 go_wp2
 go_ret2
 exact⟨_,_,rfl,ho2,hz2,hb02⟩
end Go.Proofs.YtkdomegcacgpnaaGreat
