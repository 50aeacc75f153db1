/- Parts of a proof: ChangedP, Fits, ChangedK. -/
import Derived.Test.YtkdomegcacgpnaaGreatG44
import Derived.Test.YtkdomegcacgpnaaGreatG48
import Derived.Deep.RegionHeld3
import Derived.Test.YtkdomegcacgpnaaGreatG00
import Derived.Test.YtkdomegcacgpnaaGreatG11
import Derived.Test.YtkdomegcacgpnaaGreatG27
import Derived.Test.YtkdomegcacgpnaaGreatG38
import Derived.Test.YtkdomegcacgpnaaGreatG03
set_option linter.unusedVariables false
set_option linter.unusedSimpArgs false
namespace Go.Proofs.YtkdomegcacgpnaaGreat
open Go.RowKit
theorem Picks.reads{len:Nat}{zs:List Int}{l:List Nat}(h:Picks len zs l){w:World}{a:Option Addr}{n cap:Nat}(hw:Ints w a n zs)(h1:n≤cap)(h2:cap≤maxLen):ReadsAs w (.slice a n cap) (l.map intV):=by
 have hn:n=(l.map intV).length:=by
  have :=hw.1
  rw [h.eq]at this
  simpa using this.symm
 refine⟨a,cap,by rw [←hn],by omega,h2,?_⟩
 rw [←hn]
 have :l.map intV=zs.map intZ:=by rw [h.eq];simp [intV,intZ,Function.comp_def]
 rw [this]
 exact hw
def StepsP(W:World)(a:Option Addr)(xs:List StepD):Prop:=
 0<xs.length→∃b off,a=some ⟨b,off,none⟩∧∀i,i<xs.length→∃a1 n1 c1 a2 n2 c2 xa xc,(StepAt W (xs.getD i default) a1 n1 a2 n2 xa xc∧(n1≤c1∧c1≤maxLen)∧(n2≤c2∧c2≤maxLen)∧Strs W xa (xs.getD i default).ls.length (xs.getD i default).ls)∧
  W.cell? ⟨b,off+i*6,none⟩=some (.int .i64 (xs.getD i default).op)∧W.cell? ⟨b,off+i*6+1,none⟩=some (.slice a1 n1 c1)∧W.cell? ⟨b,off+i*6+2,none⟩=some (.slice a2 n2 c2)∧
  W.cell? ⟨b,off+i*6+3,none⟩=some (.string (xs.getD i default).key)∧W.cell? ⟨b,off+i*6+4,none⟩=some (.string (xs.getD i default).val)∧W.cell? ⟨b,off+i*6+5,none⟩=some (.slice xa (xs.getD i default).ls.length xc)
theorem StepsP.steps{W:World}{a:Option Addr}{xs:List StepD}(h:StepsP W a xs):StepsAt W a xs:=fun h0=>by
 obtain⟨b,off,ha,hc⟩:=h h0
 refine⟨b,off,ha,fun i hi=>?_⟩
 obtain⟨a1,n1,c1,a2,n2,c2,xa,xc,⟨h1,_⟩,h2⟩:=hc i hi
 exact⟨a1,n1,c1,a2,n2,c2,xa,xc,h1,h2⟩
theorem DomAt.alive{B:Nat}{w:World}{n:Nat}{nb:Nat→Nat}{v:Nat→Value}{lab:Nat→NodeD}{F:Wd}(h:DomAt B w n nb v lab F){l:List Nat}(hin:∀i∈l,i<n):∀i,i<(l.map nb).length→Alive w ((l.map nb).getD i 0):=fun i hi=>by
 have hi':i<l.length:=by simpa using hi
 have e1:(l.map nb).getD i 0=nb (l.getD i 0):=by simp only [List.getD_eq_getElem?_getD,List.getElem?_map,List.getElem?_eq_getElem hi',Option.map_some,Option.getD_some]
 rw [e1]
 exact(h.node _ (hin _ (getD_mem' hi'))).alive
theorem DomAt.once{B:Nat}{w:World}{n:Nat}{nb:Nat→Nat}{v:Nat→Value}{lab:Nat→NodeD}{F:Wd}(h:DomAt B w n nb v lab F){l:List Nat}(hin:∀i∈l,i<n)(hon:Once l):Once (l.map nb):=fun i j hi hj he=>by
 have hi':i<l.length:=by simpa using hi
 have hj':j<l.length:=by simpa using hj
 have e1:∀k,k<l.length→(l.map nb).getD k 0=nb (l.getD k 0):=fun k hk=>by simp only [List.getD_eq_getElem?_getD,List.getElem?_map,List.getElem?_eq_getElem hk,Option.map_some,Option.getD_some]
 rw [e1 i hi',e1 j hj']at he
 exact hon i j hi' hj' (h.inj _ _ (hin _ (getD_mem' hi')) (hin _ (getD_mem' hj')) he)
structure ChgRow (W w:World) (g bl n:Nat) (s0 d:Nat) (p:Value) (nb:Nat→Nat):Prop where
 obj:World.objAt w g #[.slice (some ⟨bl,0,none⟩) n n,.pointer (some ⟨s0,0,none⟩)] 53
 sel:World.objAt w s0 (selC d p) 82
 row:∃arr,World.objAt w bl arr 75∧∀i,i<n→arr[i]? =some (lk (some (nb i)))
 bel:Below W.heap.size W w
theorem ChgRow.below{W w w':World}{g bl n s0 d:Nat}{p:Value}{nb:Nat→Nat}(h:ChgRow W w g bl n s0 d p nb)(hb:Below w.heap.size w w'):ChgRow W w' g bl n s0 d p nb:=by
 obtain⟨arr,h1,h2⟩:=h.row
 exact⟨h.obj.below hb h.obj.lt,h.sel.below hb h.sel.lt,⟨arr,h1.below hb h1.lt,h2⟩,h.bel.trans (hb.mono h.bel.size)⟩
theorem ChgRow.cell{W w:World}{g bl n s0 d:Nat}{p:Value}{nb:Nat→Nat}(h:ChgRow W w g bl n s0 d p nb):∀i,i<n→w.cell? ⟨bl,i,none⟩=some (.pointer (some ⟨nb i,0,none⟩)):=fun i hi=>by
 obtain⟨arr,h1,h2⟩:=h.row
 exact h1.cell (h2 i hi)
theorem ChgRow.step{W w w':World}{g bl n s0 d:Nat}{p:Value}{nb:Nat→Nat}(h:ChgRow W w g bl n s0 d p nb){u:Option Nat}{R m k m':Nat}{lab':Nat→NodeD}{F':Wd}(hu:∀q,u=some q→R≤q)(hR:∀q,(q=g∨q=s0∨q=bl)→q<R)(hnm:n≤m)(hs:StepP u W.heap.size m nb k m' lab' F' w w'):
  ∃nb2 v2 labP2,DomAt W.heap.size w' m' nb2 v2 labP2 F'∧(∀i,i<m'→LabPair k (lab' i) (labP2 i))∧ChgRow W w' g bl n s0 d p nb2:=by
 obtain⟨nb2,v2,l2,a1,a2,a3,a4,a5⟩:=hs
 have hne:∀q,(q=g∨q=s0∨q=bl)→some q≠u:=fun q hq e=>by have :=hu q e.symm;have :=hR q hq;omega
 obtain⟨arr,h1,h2⟩:=h.row
 exact⟨nb2,v2,l2,a1.out,a3.out,a5.out _ _ _ h.obj (hne _ (.inl rfl)) (by decide) (by decide),a5.out _ _ _ h.sel (hne _ (.inr (.inl rfl))) (by decide) (by decide),⟨arr,a5.out _ _ _ h1 (hne _ (.inr (.inr rfl))) (by decide) (by decide),fun i hi=>by rw [a2.out i (by omega)];exact h2 i hi⟩,h.bel.trans a4.out⟩
structure ChgPMid (mf:Nat) (labf:Nat→NodeD) (Ff:Wd) (xs:List StepD) (W:World) (g bl n s0 d:Nat) (p:Value) (k m:Nat) (nb:Nat→Nat) (v:Nat→Value) (lab labP:Nat→NodeD) (F:Wd) (w:World):Prop where
 row:ChgRow W w g bl n s0 d p nb
 dom:DomAt W.heap.size w m nb v labP F
 ok:WOk m F
 le:n≤m
 pair:∀i,i<m→LabPair k (lab i) (labP i)
 rest:ChainR n mf labf Ff (xs.drop k) m lab F
theorem pair_start{ts:List NodeD}{len:Nat}(hR:RightT ts len):∀i,i<len→LabPair 0 (ts.getD i default) (ts.getD i default):=fun i hi=>by
 have h:=lab_start hR i hi
 exact⟨rfl,rfl,rfl,rfl,h.dist,h.dist,h.len,h.size,fun _ _=>rfl,fun _=>Iff.rfl,fun hs=>simple_good hs,(hR.node i hi).kindOk⟩
theorem StepR.kinds{len:Nat}{x:StepD}{l ws:List Nat}{m:Nat}{lab:Nat→NodeD}{F:Wd}{m':Nat}{lab':Nat→NodeD}{F':Wd}(h:StepR len x l ws m lab F m' lab' F')(h0:0<l.length):
  OpMoves x.op∨(m'=m∧F'=F∧(∀y∈l,(lab y).kind=3)∧NamesSure x.ls∧(x.op=12∨x.op=13→x.key.size≤40)∧AttrsA x.op x.key x.val x.ls lab lab' l):=by
 unfold OpMoves
 cases h with
 | put hop=>left;rcases hop with ⟨h,_⟩ | ⟨h,_⟩ | ⟨h,_⟩ | ⟨h,_⟩ | ⟨h,_⟩ <;> omega
 | rem hop=>left;omega
 | empty hop=>left;omega
 | unw hop=>left;omega
 | wrap hop=>left;omega
 | attr hm hF hk hn hky hA=>exact .inr ⟨hm,hF,hk,hn,hky,hA⟩
def ChangedPPost(len mf k:Nat)(labf:Nat→NodeD)(C:List (Nat×Nat))(W:World)(e:Ending)(w':World):Prop:=
 ∃tv pv labP,e=.returned (.tuple #[tv,pv,.bool true])∧Hid (OutAt w' W.heap.size tv labP C)∧Hid (OwnZ w' W.heap.size pv (placesW len C))∧Hid (∀i,i<mf→LabPair k (labf i) (labP i))∧Hid (Below W.heap.size W w')
set_option maxRecDepth 100000 in
set_option maxHeartbeats 8000000 in
theorem changedP_any(W:World)(a:Option Addr)(len cap:Nat)(ts:List NodeD)(hR:RightT ts len)(hN:Nodes W a len ts)(sa:Option Addr)(scap:Nat)(xs:List StepD)(hst:StepsP W sa xs)(hx12:xs.length≤12){mf:Nat}{labf:Nat→NodeD}{Ff:Wd}(hch:ChainR len mf labf Ff xs len (fun i=>ts.getD i default) (wd0 (sz ts) len))(h6:mf≤600)(C:List (Nat×Nat))(hC:Fs Ff.kids [0] C):
  Calls Tryz.prog 8 #[.slice a len cap,.slice sa xs.length scap] W (ChangedPPost len mf xs.length labf C W):=by
 have hlen:=hR.le
 have hpos:=hR.pos
 have hbeg:=begun2_any W a len cap ts hR hN
 have HBEG:=Lib.hid hbeg
 have HP0:=Lib.hid (pair_start hR)
 have HST:=Lib.hid hst
 have HC:=Lib.hid hC
 have HCH:=Lib.hid hch
 have HF:=Lib.hid (wd0_ok hR.nest)
 clear hbeg hR hN hst hC hch
 go_enter Tryz.func8,Tryz.ntmps8
 go_wp2_with fail
 refine HBEG.out.mono ?_
 rintro e w1 ⟨g,bl,nb,vv,s0,d,p,rfl,hch⟩
 clear HBEG
 go_wp2
 go_loopw [25] (fun iv wr=>∃(i m:Nat) (nb:Nat→Nat) (v:Nat→Value) (lab labP:Nat→NodeD) (F:Wd),iv=.int .i64 (i:Int)∧i≤xs.length∧Hid (ChgPMid mf labf Ff xs W g bl len s0 d p i m nb v lab labP F wr)) (fun iv _=>xs.length-(intOf iv).toNat)
 case atStart=>exact⟨0,len,nb,vv,_,_,_,by go_num,by omega,Lib.hid ⟨⟨hch.out.obj,hch.out.sel,hch.out.row,hch.out.bel⟩,hch.out.dom,HF.out,Nat.le_refl _,HP0.out,HCH.out⟩⟩
 case round=>
  clear hch
  obtain⟨i,m,nb,v',lab,labP,F,rfl,hi,hmid⟩:=hrel
  have hrow:=hmid.out.row
  have o0:=hrow.obj.cell (i:=0) (v:=.slice (some ⟨bl,0,none⟩) len len) rfl
  have o1:=hrow.obj.cell (i:=1) (v:=.pointer (some ⟨s0,0,none⟩)) rfl
  by_cases hlt:i<xs.length
  ·obtain⟨b,off,rfl,hcc⟩:=HST.out (by omega)
   obtain⟨a1,n1,c1,a2,n2,c2,xa,xc,⟨hat,hcap1,hcap2,_⟩,q0,q1,q2,q3,q4,q5⟩:=hcc i hlt
   have q0:=cell_below hrow.bel q0
   have q1:=cell_below hrow.bel q1
   have q2:=cell_below hrow.bel q2
   have q3:=cell_below hrow.bel q3
   have q4:=cell_below hrow.bel q4
   have q5:=cell_below hrow.bel q5
   have hrest:=hmid.out.rest
   rw [drop_consS hlt]at hrest
   obtain⟨x,hxe⟩:∃x,xs.getD i default=x:=⟨_,rfl⟩
   rw [hxe]at q0 q3 q4 q5 hat hrest
   obtain⟨l,ws,m',lab',F',h6',hl,hl0,hw,hstep,hrest'⟩:∃l ws m' lab' F',m'≤600∧Picks len x.on l∧0<l.length∧Picks len x.wi ws∧StepR len x l ws m lab F m' lab' F'∧ChainR len mf labf Ff (xs.drop (i+1)) m' lab' F':=by
    cases hrest with
    | cons h6 hl h0 hw hs h=>exact⟨_,_,_,_,_,h6,hl,h0,hw,hs,h⟩
   have HSTEP:=Lib.hid (And.intro h6' (And.intro hl (And.intro hl0 (And.intro hw (And.intro hstep hrest')))))
   have HAT:=Lib.hid (And.intro hat (And.intro hcap1 hcap2))
   obtain⟨xo,hxo⟩:∃o,x.op=o:=⟨_,rfl⟩
   obtain⟨xk,hxk⟩:∃o,x.key=o:=⟨_,rfl⟩
   obtain⟨xv,hxv⟩:∃o,x.val=o:=⟨_,rfl⟩
   obtain⟨xn,hxn⟩:∃o,x.ls.length=o:=⟨_,rfl⟩
   rw [hxo]at q0
   rw [hxk]at q3
   rw [hxv]at q4
   rw [hxn]at q5
   have HXX:=Lib.hid (And.intro hxo (And.intro hxk (And.intro hxv hxn)))
   have hiI:(i:Int)<(xs.length:Int):=by omega
   have hb0:Below wr.heap.size wr (wr.alloc (.cells #[.int .i64 xo,.slice a1 n1 c1,.slice a2 n2 c2,.string xk,.string xv,.slice xa xn xc] 28)):=(Below.refl _ _).alloc (Nat.le_refl _) _
   have hobj:World.objAt (wr.alloc (.cells #[.int .i64 xo,.slice a1 n1 c1,.slice a2 n2 c2,.string xk,.string xv,.slice xa xn xc] 28)) wr.heap.size #[.int .i64 xo,.slice a1 n1 c1,.slice a2 n2 c2,.string xk,.string xv,.slice xa xn xc] 28:=objAt_alloc_new wr _ _
   obtain⟨w0,hw0⟩:∃w0,wr.alloc (.cells #[.int .i64 xo,.slice a1 n1 c1,.slice a2 n2 c2,.string xk,.string xv,.slice xa xn xc] 28)=w0:=⟨_,rfl⟩
   rw [hw0]at hb0 hobj
   have HROW:=Lib.hid (hrow.below hb0)
   have HDOM:=Lib.hid (hmid.out.dom.below hb0)
   have HMD:=Lib.hid (And.intro hmid.out.ok (And.intro hmid.out.le hmid.out.pair))
   have hlts:∀q,(q=g∨q=s0∨q=bl)→q<wr.heap.size:=by
    obtain⟨arr,h1,_⟩:=hrow.row
    rintro q (rfl | rfl | rfl)
    ·exact hrow.obj.lt
    ·exact hrow.sel.lt
    ·exact h1.lt
   have HLT:=Lib.hid hlts
   have hbz0:=hb0.size
   have p0:=cell_below hb0 o0
   have p1:=cell_below hb0 o1
   have r0:=hobj.cell (i:=0) (v:=.int .i64 xo) rfl
   have r1:=hobj.cell (i:=1) (v:=.slice a1 n1 c1) rfl
   have r2:=hobj.cell (i:=2) (v:=.slice a2 n2 c2) rfl
   obtain⟨q,hq⟩:∃q,wr.heap.size=q:=⟨_,rfl⟩
   rw [hq]at hobj r0 r1 r2
   have hbd:Below w0.heap.size w0 w0.drew:=(Below.refl _ _).drew
   have hth:=these_any bl len len nb (.slice a1 n1 c1) l w0.drew (fun i hi=>cell_below hbd (HROW.out.cell i hi)) hlen ((hl.reads hat.on hcap1.1 hcap1.2).below (HROW.out.bel.drew)) hl.lt (Nat.le_trans hl.le hlen)
   have HTH:=Lib.hid hth
   have p0d:=cell_below hbd p0
   have r1d:=cell_below hbd r1
   have HQ:=Lib.hid hq
   have HQO:=Lib.hid hobj
   clear hth hcc hrow hmid hb0 hobj hlts hrest hrest' hstep hw hl hl0 h6' hat hcap1 hcap2 hxe hxo hxk hxv hxn
   go_wp2
   go_region_held3 (fun w'=>Below w0.heap.size w0 w'∧w'.cell? ⟨g,0,none⟩=some (.slice (some ⟨bl,0,none⟩) len len)∧w'.cell? ⟨q,1,none⟩=some (.slice a1 n1 c1)) (first | exact⟨hbd.trans (hb8.out.mono hbd.size),cell_below hb8.out p0d,cell_below hb8.out r1d⟩ | exact⟨hbd,p0d,r1d⟩) (first | (go_at_call 17;refine HTH.out.mono ?_;rintro e w8 ⟨sv,rfl,hsv,hb8⟩))
   have hb08:Below w0.heap.size w0 w8:=hbd.trans (hb8.out.mono hbd.size)
   have t0:=cell_below hb08 p0
   have t2:=cell_below hb08 r2
   have hbe:Below w8.heap.size w8 w8.drew:=(Below.refl _ _).drew
   have HROW8:=Lib.hid (HROW.out.below hb08)
   have HDOM8:=Lib.hid (HDOM.out.below hb08)
   have hth2:=these_any bl len len nb (.slice a2 n2 c2) ws w8.drew (fun i hi=>cell_below hbe (HROW8.out.cell i hi)) hlen ((HSTEP.out.2.2.2.1.reads HAT.out.1.wi HAT.out.2.2.1 HAT.out.2.2.2).below (HROW8.out.bel.drew)) HSTEP.out.2.2.2.1.lt (Nat.le_trans HSTEP.out.2.2.2.1.le hlen)
   have HTH2:=Lib.hid hth2
   have t0d:=cell_below hbe t0
   have t2d:=cell_below hbe t2
   have HSV:=Lib.hid (OwnPtrs.ptrs hsv.out)
   have HB08:=Lib.hid hb08
   have hz8:=hb08.size
   clear hth2 hb08 p0d r1d hbd hsv hb8 HTH
   go_wp2
   go_region_held3 (fun w'=>Below w8.heap.size w8 w'∧w'.cell? ⟨g,0,none⟩=some (.slice (some ⟨bl,0,none⟩) len len)∧w'.cell? ⟨q,2,none⟩=some (.slice a2 n2 c2)) (first | exact⟨hbe.trans (hb9.out.mono hbe.size),cell_below hb9.out t0d,cell_below hb9.out t2d⟩ | exact⟨hbe,t0d,t2d⟩) (first | (go_at_call 17;refine HTH2.out.mono ?_;rintro e w9 ⟨wv,rfl,hwv,hb9⟩))
   have hb89:Below w8.heap.size w8 w9:=hbe.trans (hb9.out.mono hbe.size)
   have HROW9:=Lib.hid (HROW8.out.below hb89)
   have HDOM9:=Lib.hid (HDOM8.out.below hb89)
   have HQ9:=Lib.hid ((HQO.out.below HB08.out HQO.out.lt).below hb89 (HQO.out.below HB08.out HQO.out.lt).lt)
   have z1:=HROW9.out.obj.cell (i:=1) (v:=.pointer (some ⟨s0,0,none⟩)) rfl
   have hlm:∀y∈l,y<m:=fun y hy=>Nat.lt_of_lt_of_le (HSTEP.out.2.1.lt y hy) HMD.out.2.1
   have hadd:=addNodes_any s0 d sv (l.map nb) w9 (HROW9.out.sel.cell (i:=0) (v:=.slice none 0 0) rfl) (HROW9.out.sel.cell (i:=1) (v:=.pointer (some ⟨d,0,none⟩)) rfl) (HSV.out.below hb89) (HDOM9.out.alive hlm) (HDOM9.out.once hlm (nodup_once HSTEP.out.2.1.nd)) (by have :=Nat.le_trans HSTEP.out.2.1.le hlen;simpa using this)
   have HADD:=Lib.hid hadd
   have hwo:w9.ownsRow w8.heap.size 75 1 wv ws.length (ws.map fun y=>ptrV (nb y)):=by
    have h1:=hwv.out
    unfold OwnPtrs at h1
    rw [List.length_map,List.map_map]at h1
    exact ownsRow_base h1 (by have :=hbe.size;omega)
   obtain⟨xv0,xc0,rfl⟩:=ownsRow_slice hwo
   have HWO:=Lib.hid hwo
   have HSZ:=Lib.hid (And.intro hbz0 (And.intro hz8 hb89.size))
   clear hadd hbe hb9 hwv HTH2 t0d t2d t0 t2 p0 p1 r0 r1 r2 HSV hb89 hwo hlm hbz0 hz8
   go_wp2_with fail
   refine HADD.out.mono ?_
   rintro e w10 ⟨s3,v3,rfl,hs3,hb10⟩
   have HROW10:=Lib.hid (HROW9.out.below hb10.out)
   have HQ10:=Lib.hid (HQ9.out.below hb10.out HQ9.out.lt)
   have hpre:PreP W.heap.size w10 len m nb v' lab labP F i x l ws s3 w9.heap.size v3 w8.heap.size (.slice xv0 ws.length xc0):=by
    refine⟨HDOM9.out.below hb10.out,HMD.out.1,HMD.out.2.2,by omega,HMD.out.2.1,hlen,HSTEP.out.2.1,HSTEP.out.2.2.1,HSTEP.out.2.2.2.1,hs3.out,ownsRow_kept HWO.out (fun q hq=>hb10.out.block q (World.ownsRow.lt HWO.out q hq).2),fun q hq=>?_,Nat.le_trans HROW8.out.bel.size (Nat.le_refl _),HROW10.out.bel.size⟩
    have h1:=(World.ownsRow.lt HWO.out q hq).2
    refine⟨by have :=hs3.out.base;omega,fun e=>?_⟩
    have h2:=hs3.out.own
    unfold OwnPtrs at h2
    have :=(World.ownsRow.lt h2 q e).1
    omega
   have HPRE:=Lib.hid hpre
   have hls:NamesIn w10 xa x.ls xc:=⟨HAT.out.1.ls.below HROW10.out.bel,HAT.out.1.cap,HAT.out.1.lsn,HAT.out.1.lsz⟩
   have HLS:=Lib.hid hls
   have hnew:∀(u:Option Nat) (wz:World) (lab2:Nat→NodeD) (m2:Nat) (F2:Wd),(∀q,u=some q→w8.heap.size≤q)→StepP u W.heap.size m nb (i+1) m2 lab2 F2 w10 wz→WOk m2 F2→len≤m2→ChainR len mf labf Ff (xs.drop (i+1)) m2 lab2 F2→∃nb2 v2 labP2,ChgPMid mf labf Ff xs W g bl len s0 d p (i+1) m2 nb2 v2 lab2 labP2 F2 wz:=by
    intro u wz lab2 m2 F2 hu hs hok hle hre
    obtain⟨nb2,v2,labP2,b1,b2,b3⟩:=HROW10.out.step hu (fun q hq=>by have :=HLT.out q hq;have :=HSZ.out.1;have :=HSZ.out.2.1;omega) HMD.out.2.1 hs
    exact⟨nb2,v2,labP2,b3,b1,hok,hle,b2,hre⟩
   have HNEW:=Lib.hid hnew
   have HKIND:=Lib.hid (HSTEP.out.2.2.2.2.1.kinds HSTEP.out.2.2.1)
   have HUB:Hid (∀q,(Value.slice xv0 ws.length xc0).ownBlock=some q→w8.heap.size≤q):=Lib.hid (fun q hq=>(World.ownsRow.lt HWO.out q hq).1)
   have y0:=HQ10.out.cell (i:=0) (v:=.int .i64 xo) rfl
   have y1:=HQ10.out.cell (i:=1) (v:=.slice a1 n1 c1) rfl
   have y2:=HQ10.out.cell (i:=2) (v:=.slice a2 n2 c2) rfl
   have y3:=HQ10.out.cell (i:=3) (v:=.string xk) rfl
   have y4:=HQ10.out.cell (i:=4) (v:=.string xv) rfl
   have y5:=HQ10.out.cell (i:=5) (v:=.slice xa xn xc) rfl
   clear hpre hls hnew hs3 HADD z1 HQ9 HROW9 HDOM9 HROW8 HDOM8 HQO HB08
   rcases HKIND.out with hop | ⟨hm,hF,hk3,hns,hky,hA⟩
   ·have hmk:=marksNot_any hop (s:=s3) a1 a2 xa n1 c1 n2 c2 x.ls.length xc x.key x.val w10
    have hmv:=fun(wq:World) (hb:Below w10.heap.size w10 wq)=>progMoves_any (HPRE.out.below hb) HSTEP.out.1 HSTEP.out.2.2.2.2.1 hop a1 a2 xa n1 c1 n2 c2 x.ls.length xc
    rw [HXX.out.1,HXX.out.2.1,HXX.out.2.2.1,HXX.out.2.2.2]at hmk
    simp only [HXX.out.1,HXX.out.2.1,HXX.out.2.2.1,HXX.out.2.2.2]at hmv
    have HMK:=Lib.hid hmk
    have HMV:=Lib.hid hmv
    clear hmk hmv hop
    go_wp2_with fail
    refine HMK.out.mono ?_
    rintro e w11 ⟨rfl,hb11⟩
    have HM2:=Lib.hid (HMV.out w11 hb11.out)
    have HQ11:=HQ10.out.below hb11.out HQ10.out.lt
    have y0:=HQ11.cell (i:=0) (v:=.int .i64 xo) rfl
    have y1:=HQ11.cell (i:=1) (v:=.slice a1 n1 c1) rfl
    have y2:=HQ11.cell (i:=2) (v:=.slice a2 n2 c2) rfl
    have y3:=HQ11.cell (i:=3) (v:=.string xk) rfl
    have y4:=HQ11.cell (i:=4) (v:=.string xv) rfl
    have y5:=HQ11.cell (i:=5) (v:=.slice xa xn xc) rfl
    have HB11:=Lib.hid hb11.out
    clear HMK HMV HQ11 hb11
    go_wp2_with fail
    refine HM2.out.mono ?_
    rintro e w12 ⟨rfl,hsp⟩
    have hsp2:=((hsp.out.ahead HB11.out HPRE.out.size).more)
    obtain⟨g1,g2,_⟩:=HSTEP.out.2.2.2.2.1.ok HMD.out.1 HMD.out.2.1 HSTEP.out.2.1 HSTEP.out.2.2.2.1
    obtain⟨nb2,v2,labP2,hfin⟩:=HNEW.out _ _ _ _ _ HUB.out hsp2 g1 (Nat.le_trans HMD.out.2.1 g2) HSTEP.out.2.2.2.2.2
    have HFIN:=Lib.hid hfin
    clear HM2 hsp hsp2 g1 g2 hfin y0 y1 y2 y3 y4 y5
    go_wp2
    refine⟨?rel,?measure⟩
    case rel=>exact⟨i+1,m',nb2,v2,lab',labP2,F',by go_num,by omega,HFIN⟩
    case measure=>simp [intOf];omega
   ·have hmk:=progMarks_any HPRE.out hk3 hns hky hA HAT.out.1.val a1 a2 xa n1 c1 n2 c2 xc HLS.out
    rw [HXX.out.1,HXX.out.2.1,HXX.out.2.2.1,HXX.out.2.2.2]at hmk
    have HMK:=Lib.hid hmk
    clear hmk hk3 hns hky hA
    go_wp2_with fail
    refine HMK.out.mono ?_
    rintro e w11 ⟨rfl,hsp⟩
    obtain⟨nb2,v2,labP2,hfin⟩:=HNEW.out none _ _ _ _ (fun q hq=>by cases hq) hsp.out HMD.out.1 HMD.out.2.1 (by have h9:=HSTEP.out.2.2.2.2.2;rw [hm,hF]at h9;exact h9)
    have HFIN:=Lib.hid hfin
    clear HMK hsp hfin y0 y1 y2 y3 y4 y5
    go_wp2
    refine⟨?rel,?measure⟩
    case rel=>exact⟨i+1,m,nb2,v2,lab',labP2,F,by go_num,by omega,HFIN⟩
    case measure=>simp [intOf];omega
  ·obtain rfl:i=xs.length:=by omega
   have hend:=hmid.out.rest
   rw [List.drop_length]at hend
   cases hend with
   | nil hm hlb hF=>
   subst hm hlb hF
   have hm0:0<mf:=Nat.lt_of_lt_of_le hpos hmid.out.le
   have hord:(C.map (·.1)).Nodup∧(∀y∈C,y.1<mf)∧C.length≤mf:=by
    obtain⟨C',h1,h2,h3,h4⟩:=hmid.out.ok.sized hm0
    rw [HC.out.det h1]
    exact⟨h2,h3,h4⟩
   obtain⟨z1,z2,z3⟩:=hord
   have hends:=ends_manyK hmid.out.le hmid.out.dom hmid.out.ok (fun i hi=>(hmid.out.pair i hi).ok) hpos hlen g bl o0 (fun i hi=>hrow.cell i hi) C HC.out z1 z2 (by omega)
   have HE:=Lib.hid hends
   have HB2:=Lib.hid hrow.bel
   have HPP:=Lib.hid hmid.out.pair
   clear hends hrow z1 z2 z3 hmid
   go_wp2_with fail
   refine HE.out.mono ?_
   rintro e w3 ⟨tv,pv,rfl,hot,hz,hb3⟩
   have hbs:=HB2.out.size
   have HB3:=Lib.hid (HB2.out.trans (hb3.out.mono hbs))
   have HOT:=Lib.hid (hot.out.base hbs)
   have HZ:=Lib.hid (ownsRow_base hz.out hbs)
   clear hot hz hb3 HE
   go_wp2
   go_ret3
   exact⟨_,_,_,rfl,HOT,HZ,HPP,HB3⟩
set_option maxRecDepth 100000 in
set_option maxHeartbeats 1000000 in
theorem fits4_any(k v:ByteArray)(w:World)(hk:k.size≤maxLen)(hv:v.size≤maxLen):
  Calls Tryz.prog 64 #[.agg #[.string k,.string v]] w (SomeBoolB (fun _=>True) w):=by
 unfold maxLen at hk hv
 have hbel:∀o,Below w.heap.size w (w.alloc o):=fun o=>(Below.refl _ _).alloc (Nat.le_refl _) o
 have HB:=Lib.hid hbel
 clear hbel
 go_enter Tryz.func64,Tryz.ntmps64
 go_wp2
 all_goals (go_ret;exact⟨_,trivial,rfl,HB.out _⟩)
set_option maxRecDepth 100000 in
set_option maxHeartbeats 1000000 in
theorem fits3_any(a:Option Addr)(len cap:Nat)(l:List (ByteArray×ByteArray))(w:World)(h:AttrsAt w a len l):
  Calls Tryz.prog 29 #[.slice a len cap] w (SomeBoolB (fun _=>True) w):=by
 have hm:=h.2.1
 unfold maxLen at hm
 have HA:=Lib.hid h
 clear h
 go_enter Tryz.func29,Tryz.ntmps29
 go_wp2
 ·go_ret
  exact⟨_,trivial,rfl,Below.refl _ _⟩
 ·go_loopw [10] (fun i wr=>∃k:Nat,k≤len∧i=.int .i64 k∧Below w.heap.size w wr) (fun i _=>len-(intOf i).toNat)
  case atStart=>exact⟨0,Nat.zero_le _,rfl,Below.refl _ _⟩
  case round=>
   obtain⟨k,hk,rfl,hbel⟩:=hrel
   have HB:=Lib.hid hbel
   have HA1:=Lib.hid (HA.out.below hbel)
   clear hbel
   by_cases hlt:k<len
   ·obtain⟨q1,q2,q3,q4⟩:=HA1.out
    obtain⟨b,off,rfl,hc⟩:=q4 (by omega)
    have ck:=(hc k hlt).1
    have cv:=(hc k hlt).2
    have hs:=q3 _ (getD_mem' (d:=default) (by omega:k<l.length))
    obtain⟨key,hkey⟩:∃y,(l.getD k default).1=y:=⟨_,rfl⟩
    obtain⟨val,hval⟩:∃y,(l.getD k default).2=y:=⟨_,rfl⟩
    rw [hkey]at ck hs
    rw [hval]at cv hs
    have HS:=Lib.hid hs
    clear q1 q2 q3 q4 hc hkey hval hs
    go_wp2_with fail
    refine(fits4_any key val _ HS.out.1 HS.out.2).mono ?_
    rintro e w2 ⟨r,_,rfl,hb2⟩
    have hb3:Below w.heap.size w w2:=(HB.out.alloc HB.out.size _).trans (hb2.mono (by have :=HB.out.size;simp;omega))
    have HB3:=Lib.hid hb3
    clear hb2 hb3
    cases r
    ·go_wp2
     go_ret
     exact⟨_,trivial,rfl,HB3.out⟩
    ·go_wp2
     go_roundw
     case rel=>exact⟨k+1,by omega,by go_num,HB3.out⟩
     case measure=>simp [intOf];omega
   ·go_wp2
    go_ret
    exact⟨_,trivial,rfl,HB.out⟩
set_option maxRecDepth 100000 in
set_option maxHeartbeats 1000000 in
theorem fits2_any(k z:Int)(tag text:ByteArray)(aa:Option Addr)(al ac:Nat)(l:List (ByteArray×ByteArray))(w:World)(h:AttrsAt w aa al l)(h1:tag.size≤maxLen)(h2:text.size≤maxLen):
  Calls Tryz.prog 15 #[.agg #[.int .i64 k,.string tag,.string text,.slice aa al ac,.int .i64 z]] w (SomeBoolB (fun _=>True) w):=by
 unfold maxLen at h1 h2
 have hbel:∀o,Below w.heap.size w (w.alloc o):=fun o=>(Below.refl _ _).alloc (Nat.le_refl _) o
 have hcall:=fun(o:Obj)=>fits3_any aa al ac l (w.alloc o) (h.below (hbel o))
 have HB:=Lib.hid hbel
 have HC:=Lib.hid hcall
 clear hbel hcall h
 go_enter Tryz.func15,Tryz.ntmps15
 go_wp2_with fail
 ·go_ret;exact⟨_,trivial,rfl,HB.out _⟩
 ·go_ret;exact⟨_,trivial,rfl,HB.out _⟩
 ·refine(HC.out _).mono ?_
  rintro e w2 ⟨r,_,rfl,hb2⟩
  have hb3:Below w.heap.size w w2:=(HB.out _).trans (hb2.mono (by simp))
  have HB3:=Lib.hid hb3
  clear hb2 hb3
  cases r
  all_goals
   go_wp2
   go_ret
   exact⟨_,trivial,rfl,HB3.out⟩
set_option maxRecDepth 100000 in
set_option maxHeartbeats 1000000 in
theorem fits1_any(a:Option Addr)(len cap:Nat)(ts:List NodeD)(w:World)(h:Nodes w a len ts):
  Calls Tryz.prog 5 #[.slice a len cap] w (SomeBoolB (fun _=>True) w):=by
 have hm:=h.len.2
 have HN:=Lib.hid h
 clear h
 go_enter Tryz.func5,Tryz.ntmps5
 go_wp2
 ·go_ret
  exact⟨_,trivial,rfl,Below.refl _ _⟩
 ·go_loopw [10] (fun i wr=>∃k:Nat,k≤len∧i=.int .i64 k∧Below w.heap.size w wr) (fun i _=>len-(intOf i).toNat)
  case atStart=>exact⟨0,Nat.zero_le _,rfl,Below.refl _ _⟩
  case round=>
   obtain⟨k,hk,rfl,hbel⟩:=hrel
   have HB:=Lib.hid hbel
   have HN1:=Lib.hid (HN.out.below hbel)
   clear hbel
   by_cases hlt:k<len
   ·obtain⟨b,off,rfl,hc⟩:=HN1.out.at (by omega)
    have c:=hc k hlt
    have c0:=c.kind
    have c1:=c.tag
    have c2:=c.text
    have c3:=c.attrs
    have c4:=c.size
    have hcall:=fun(o:Obj)=>fits2_any (ts.getD k default).kind (ts.getD k default).size (ts.getD k default).tag (ts.getD k default).text (ts.getD k default).aa (ts.getD k default).al (ts.getD k default).ac (ts.getD k default).attrs (wr.alloc o)
     (c.at_.below ((Below.refl _ _).alloc (Nat.le_refl _) o)) c.wt.1 c.wt.2
    have HC:=Lib.hid hcall
    clear c hc hcall
    generalize ts.getD k default=n at *
    obtain⟨nk,tag,text,aa,al,ac,attrs,size⟩:=n
    simp only at c0 c1 c2 c3 c4
    go_wp2_with fail
    refine(HC.out _).mono ?_
    rintro e w2 ⟨r,_,rfl,hb2⟩
    have hb3:Below w.heap.size w w2:=(HB.out.alloc HB.out.size _).trans (hb2.mono (by have :=HB.out.size;simp;omega))
    have HB3:=Lib.hid hb3
    clear hb2 hb3
    cases r
    ·go_wp2
     go_ret
     exact⟨_,trivial,rfl,HB3.out⟩
    ·go_wp2
     go_roundw
     case rel=>exact⟨k+1,by omega,by go_num,HB3.out⟩
     case measure=>simp [intOf];omega
   ·go_wp2
    go_ret
    exact⟨_,trivial,rfl,HB.out⟩
end Go.Proofs.YtkdomegcacgpnaaGreat
