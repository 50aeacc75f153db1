/- Parts of a proof: Sure, SameZZ, FnChangedWalk, ViewsAll. -/
import Derived.Test.YtkdomegcacgpnaaGreatG49
import Derived.Test.YtkdomegcacgpnaaGreatG37
import Derived.Test.YtkdomegcacgpnaaGreatG38
import Derived.Test.YtkdomegcacgpnaaGreatG39
import Derived.Test.YtkdomegcacgpnaaGreatG00
import Derived.OpenShut
import Derived.ShutString
import Derived.ChangeOld
import Derived.Below
import Derived.Test.YtkdomegcacgpnaaGreatG11
import Derived.Deep.SlicePairs
import Derived.Deep.Grids
import Derived.ChangeArms
import Derived.ChangeSlices
set_option linter.unusedVariables false
set_option linter.unusedSimpArgs false
namespace Go.Proofs.YtkdomegcacgpnaaGreat
open Go.RowKit
structure FitN (n:NodeD):Prop where
 wk: -9223372036854775808≤n.kind∧n.kind≤9223372036854775807
 wt:n.tag.size≤maxLen∧n.text.size≤maxLen
 wa:∀x∈n.attrs,x.1.size≤maxLen∧x.2.size≤maxLen
 dist:DistKV n.attrs
 vals:∀x∈n.attrs,x.2.size≤4000
 few:n.attrs.length≤100
structure FitM (n:NodeD):Prop where
 wk: -9223372036854775808≤n.kind∧n.kind≤9223372036854775807
 wt:n.tag.size≤maxLen∧n.text.size≤maxLen
 wa:∀x∈n.attrs,x.1.size≤maxLen∧x.2.size≤maxLen
theorem FitN.fitM{n:NodeD}(h:FitN n):FitM n:=⟨h.wk,h.wt,h.wa⟩
theorem fit_of{W:World}{a:Option Addr}{len:Nat}{ts:List NodeD}(hR:RightT ts len)(hN:Nodes W a len ts):∀i,i<len→FitN (ts.getD i default):=fun i hi=>by
 obtain⟨b,off,_,hc⟩:=hN.at (by omega)
 have h1:=hc i hi
 have h2:=hR.node i hi
 have h3:(ts.getD i default).attrs.length≤20∧DistKV (ts.getD i default).attrs:=by
  by_cases e:(ts.getD i default).kind=3
  ·obtain⟨q1,q2⟩:=h2.attrs e
   exact⟨q1,dist_of (fun x hx y hy=>q2 x y hy hx)⟩
  ·rw [(h2.bare e).2]
   exact⟨by simp,List.Pairwise.nil⟩
 exact⟨h1.wk,h1.wt,h1.at_.2.2.1,h3.2,hR.vals i hi,by omega⟩
theorem outD_cells(lab:Nat→NodeD):∀(D:List (Nat×Nat×Value)) (i:Nat),i<D.length→∀j,j<5→(outD lab D)[i*5+j]? =(nodeCells (lab (D.getD i default).1) (D.getD i default).2.2 ((D.getD i default).2.1:Int))[j]? :=by
 intro D
 induction D with
 | nil=>intro i hi;simp at hi
 | cons y D ih=>
  intro i hi j hj
  have hc:outD lab (y::D)=nodeCells (lab y.1) y.2.2 (y.2.1:Int)++outD lab D:=by simp [outD]
  have hl:(nodeCells (lab y.1) y.2.2 (y.2.1:Int)).length=5:=rfl
  rw [hc]
  cases i with
  | zero=>
   rw [List.getElem?_append_left (by rw [hl];omega)]
   simp
  | succ i=>
   rw [List.getElem?_append_right (by rw [hl];omega),hl,show(i+1)*5+j-5=i*5+j by omega]
   exact ih i (by simpa using hi) j hj
theorem OutAt.nodesM{w:World}{B:Nat}{v:Value}{lab:Nat→NodeD}{C:List (Nat×Nat)}(h:OutAt w B v lab C)(hf:∀y∈C,FitM (lab y.1))(hs:∀y∈C,y.2≤100000)(hC:C.length≤100000):
  ∃a cap ts',v=.slice a C.length cap∧Nodes w a C.length ts'∧∀i,i<C.length→(ts'.getD i default).kind=(lab (C.getD i default).1).kind∧(ts'.getD i default).tag=(lab (C.getD i default).1).tag∧(ts'.getD i default).text=(lab (C.getD i default).1).text∧(ts'.getD i default).attrs=(lab (C.getD i default).1).attrs∧(ts'.getD i default).size=((C.getD i default).2:Int):=by
 obtain⟨D,rfl,ho,hk⟩:=h.ex
 obtain⟨a,cap,rfl⟩:=ownsRow_slice ho
 have hmem:∀i,i<D.length→D.getD i default∈D:=fun i hi=>by rw [List.getD_eq_getElem?_getD,List.getElem?_eq_getElem hi];exact List.getElem_mem _
 have hex:∀i,∃m:NodeD,i<D.length→(D.getD i default).2.2=.slice m.aa m.al m.ac∧m.kind=(lab (D.getD i default).1).kind∧m.tag=(lab (D.getD i default).1).tag∧m.text=(lab (D.getD i default).1).text∧m.attrs=(lab (D.getD i default).1).attrs∧m.size=((D.getD i default).2.1:Int)∧AttrsAt w m.aa m.al m.attrs:=fun i=>by
  by_cases hi:i<D.length
  ·have h1:=hk _ (hmem i hi)
   have h2:=hf ((D.getD i default).1,(D.getD i default).2.1) (List.mem_map_of_mem (f:=fun y:Nat×Nat×Value=>(y.1,y.2.1)) (hmem i hi))
   obtain⟨aa,ac,e1,e2⟩:=h1.at_ h2.wa
   exact⟨⟨(lab (D.getD i default).1).kind,(lab (D.getD i default).1).tag,(lab (D.getD i default).1).text,aa,(lab (D.getD i default).1).attrs.length,ac,(lab (D.getD i default).1).attrs,((D.getD i default).2.1:Int)⟩,fun _=>⟨e1,rfl,rfl,rfl,rfl,rfl,e2⟩⟩
  ·exact⟨default,fun h=>absurd h hi⟩
 obtain⟨f,hfm⟩:=Classical.axiomOfChoice hex
 have hget:∀i,i<D.length→((List.range D.length).map f).getD i default=f i:=fun i hi=>by simp [List.getD,hi]
 have hCD:∀i,i<D.length→(szs D).getD i default=((D.getD i default).1,(D.getD i default).2.1):=fun i hi=>by simp [szs,List.getD,hi]
 refine⟨a,cap,(List.range D.length).map f,by rw [szs_len],⟨by simp [szs_len],by rw [szs_len]at hC ⊢;unfold maxLen;omega,fun h0=>?_⟩,fun i hi=>?_⟩
 ·rw [szs_len]at h0 ⊢
  rcases ho.2 with ⟨hv,hz⟩ | ⟨g,cap',cur,hv,hb,hg,hn,hm,hcs,ht⟩
  ·omega
  ·simp at hv
   obtain⟨rfl,rfl⟩:=hv
   refine⟨g,0,rfl,fun i hi=>?_⟩
   rw [hget i hi]
   obtain⟨q1,q2,q3,q4,q5,q6,q7⟩:=hfm i hi
   have hadd:∀j,(⟨g,0,none⟩:Addr).add j=⟨g,0+j,none⟩:=fun j=>by unfold Addr.add;split <;> simp_all
   have cell:∀j u,j<5→(nodeCells (lab (D.getD i default).1) (D.getD i default).2.2 ((D.getD i default).2.1:Int))[j]? =some u→w.cell? ⟨g,0+i*5+j,none⟩=some u:=fun j u hj hu=>by
    have :=World.ownsRow.cells (h:=ho) (g:=g) rfl (i*5+j) u (by rw [outD_cells lab D i hi j hj];exact hu)
    rw [hadd]at this
    rw [Nat.add_assoc]
    exact this
   have h2:=hf ((D.getD i default).1,(D.getD i default).2.1) (List.mem_map_of_mem (f:=fun y:Nat×Nat×Value=>(y.1,y.2.1)) (hmem i hi))
   have h3:=hs ((D.getD i default).1,(D.getD i default).2.1) (List.mem_map_of_mem (f:=fun y:Nat×Nat×Value=>(y.1,y.2.1)) (hmem i hi))
   simp only at h3
   refine⟨?_,?_,?_,?_,?_,q7,?_,?_,?_⟩
   ·rw [q2];exact cell 0 _ (by omega) rfl
   ·rw [q3];exact cell 1 _ (by omega) rfl
   ·rw [q4];exact cell 2 _ (by omega) rfl
   ·rw [←q1];exact cell 3 _ (by omega) rfl
   ·rw [q6];exact cell 4 _ (by omega) rfl
   ·rw [q2];exact h2.wk
   ·rw [q6];omega
   ·rw [q3,q4];exact h2.wt
 ·rw [szs_len]at hi
  rw [hget i hi,hCD i hi]
  obtain⟨q1,q2,q3,q4,q5,q6,q7⟩:=hfm i hi
  exact⟨q2,q3,q4,q5,q6⟩
theorem OutAt.nodes{w:World}{B:Nat}{v:Value}{lab:Nat→NodeD}{C:List (Nat×Nat)}(h:OutAt w B v lab C)(hf:∀y∈C,FitN (lab y.1))(hs:∀y∈C,y.2≤100000)(hC:C.length≤100000):
  ∃a cap ts',v=.slice a C.length cap∧Nodes w a C.length ts'∧∀i,i<C.length→(ts'.getD i default).kind=(lab (C.getD i default).1).kind∧(ts'.getD i default).tag=(lab (C.getD i default).1).tag∧(ts'.getD i default).text=(lab (C.getD i default).1).text∧(ts'.getD i default).attrs=(lab (C.getD i default).1).attrs∧(ts'.getD i default).size=((C.getD i default).2:Int):=h.nodesM (fun y hy=>(hf y hy).fitM) hs hC
theorem Fs.sizes{kids:Nat→List Nat}{xs:List Nat}{C:List (Nat×Nat)}(h:Fs kids xs C):∀y∈C,y.2≤C.length:=by
 induction h with
 | nil=>intro y hy;cases hy
 | cons h1 h2 ih1 ih2=>
  intro y hy
  simp only [List.length_cons,List.length_append]
  rcases List.mem_cons.1 hy with rfl | hy
  ·simp only;omega
  ·rcases List.mem_append.1 hy with hy | hy
   ·have :=ih1 y hy;omega
   ·have :=ih2 y hy;omega
def StepPost(op:Int)(a1:Option Addr)(n1 c1:Nat)(a2:Option Addr)(n2 c2:Nat)(w:World)(e:Ending)(w':World):Prop:=e=.returned (.agg #[.int .i64 op,.slice a1 n1 c1,.slice a2 n2 c2,.string ⟨#[]⟩,.string ⟨#[]⟩,.slice none 0 0])∧Hid (Below w.heap.size w w')
def StepSays(len:Nat)(ts:List NodeD)(op:Int)(a1:Option Addr)(n1 c1:Nat)(a2:Option Addr)(n2 c2:Nat)(Φ:Nat→(Nat→Int)→(Nat→NodeD)→Wd→Prop)(W:World):Prop:=
 ∀W',Below W.heap.size W W'→∀(w:World) (f:Nat) (vf:Value) (kn:Nat→Nat) (kv av:Nat→Value),RightT ts len→Knots W'.heap.size w len kn kv av (fun i=>(i:Int)) (fun i=>ts.getD i default) (wd0 (sz ts) len)→ForestK W'.heap.size w f vf len kn len false→Below W'.heap.size W' w→
    Calls Tryz.prog 27 #[.pointer (some ⟨f,0,none⟩),.agg #[.int .i64 op,.slice a1 n1 c1,.slice a2 n2 c2,.string ⟨#[]⟩,.string ⟨#[]⟩,.slice none 0 0]] w (fun e w'=>StepKPost W'.heap.size f len vf kn Φ e w' w)
theorem StepSays.later{len:Nat}{ts:List NodeD}{op:Int}{a1:Option Addr}{n1 c1:Nat}{a2:Option Addr}{n2 c2:Nat}{Φ:Nat→(Nat→Int)→(Nat→NodeD)→Wd→Prop}{W W':World}(h:StepSays len ts op a1 n1 c1 a2 n2 c2 Φ W)(hb:Below W.heap.size W W'):StepSays len ts op a1 n1 c1 a2 n2 c2 Φ W':=
 fun W2 hb2=>h W2 (hb.trans (hb2.mono hb.size))
set_option maxRecDepth 100000 in
set_option maxHeartbeats 1000000 in
theorem sameZ_any(a1:Option Addr)(c1:Nat)(a2:Option Addr)(c2 n:Nat)(l:List Int)(w:World)(h1:Ints w a1 n l)(h2:Ints w a2 n l):
  Calls Tryz.prog 14 #[.slice a1 n c1,.slice a2 n c2] w (YesB w):=by
 obtain⟨hl,hm,b1,off1,ha1,hc1⟩:=h1.open
 obtain⟨_,_,b2,off2,ha2,hc2⟩:=h2.open
 have HA1:=Lib.hid ha1
 have HC1:=Lib.hid hc1
 have HA2:=Lib.hid ha2
 have HC2:=Lib.hid hc2
 clear h1 h2 ha1 ha2 hc1 hc2
 have gl:((n:Int) !=(n:Int))=false:=by simp
 go_enter Tryz.func14,Tryz.ntmps14
 go_wp2
 go_loopw [5] (fun i wr=>∃k:Nat,k≤n∧i=.int .i64 (k:Int)∧Below w.heap.size w wr) (fun i _=>n-(intOf i).toNat)
 case atStart=>exact⟨0,by omega,by go_num,Below.refl _ _⟩
 case round=>
  obtain⟨k,hk,rfl,hbel⟩:=hrel
  have HBEL:=Lib.hid hbel
  clear hbel
  by_cases hlt:k<n
  ·obtain rfl:=HA1.out (by omega)
   obtain rfl:=HA2.out (by omega)
   have ck1:=cell_below HBEL.out (HC1.out k hlt)
   have ck2:=cell_below HBEL.out (HC2.out k hlt)
   obtain⟨x,hx⟩:∃x,l.getD k 0=x:=⟨_,rfl⟩
   rw [hx]at ck1 ck2
   have hkI:(k:Int)<(n:Int):=by omega
   have gx:(x !=x)=false:=by simp
   clear hx
   go_wp2
   go_quiet (fail)
   go_wp2
   go_roundw
   case rel=>exact⟨k+1,by omega,by go_num,below_drewN HBEL.out _⟩
   case measure=>simp [intOf];omega
  ·obtain rfl:k=n:=by omega
   go_wp2
   go_ret
   exact⟨rfl,HBEL.out⟩
end Go.Proofs.YtkdomegcacgpnaaGreat
namespace Go.Proofs.YtkdomegcacgpnaaGreat.lawFnChanged
open Go.RowKit
theorem stepsP_below{W w:World}{a:Option Addr}{xs:List StepD}(h:StepsP W a xs)(hb:Below W.heap.size W w):StepsP w a xs:=fun h0=>by
 obtain⟨b,off,ha,hc⟩:=h h0
 refine⟨b,off,ha,fun i hi=>?_⟩
 obtain⟨a1,n1,c1,a2,n2,c2,xa,xc,⟨h1,h2,h3,h4⟩,q0,q1,q2,q3,q4,q5⟩:=hc i hi
 exact⟨a1,n1,c1,a2,n2,c2,xa,xc,⟨⟨h1.on.below hb,h1.wi.below hb,h1.ls.below hb,h1.lsn,h1.lsz,h1.key,h1.val,h1.cap⟩,h2,h3,h4.below hb⟩,cell_below hb q0,cell_below hb q1,cell_below hb q2,cell_below hb q3,cell_below hb q4,cell_below hb q5⟩
set_option maxRecDepth 100000 in
set_option maxHeartbeats 4000000 in
theorem fits10_any(o:Int)(a1:Option Addr)(n1 c1:Nat)(a2:Option Addr)(n2 c2:Nat)(key val:ByteArray)(xa:Option Addr)(ls:List ByteArray)(xc:Nat)(w:World)(hs:Strs w xa ls.length ls)(hk:key.size≤1048576)(hv:val.size≤1048576):
  Calls Tryz.prog 24 #[.agg #[.int .i64 o,.slice a1 n1 c1,.slice a2 n2 c2,.string key,.string val,.slice xa ls.length xc]] w (SomeBoolB (fun _=>True) w):=by
 have hb0:Below w.heap.size w (w.alloc (.cells #[.int .i64 o,.slice a1 n1 c1,.slice a2 n2 c2,.string key,.string val,.slice xa ls.length xc] 28)):=(Below.refl _ _).alloc (Nat.le_refl _) _
 have hobj:World.objAt (w.alloc (.cells #[.int .i64 o,.slice a1 n1 c1,.slice a2 n2 c2,.string key,.string val,.slice xa ls.length xc] 28)) w.heap.size #[.int .i64 o,.slice a1 n1 c1,.slice a2 n2 c2,.string key,.string val,.slice xa ls.length xc] 28:=objAt_alloc_new w _ _
 obtain⟨w0,hw0⟩:∃w0,w.alloc (.cells #[.int .i64 o,.slice a1 n1 c1,.slice a2 n2 c2,.string key,.string val,.slice xa ls.length xc] 28)=w0:=⟨_,rfl⟩
 rw [hw0]at hb0 hobj
 have k1:=hobj.cell (i:=1) (v:=.slice a1 n1 c1) rfl
 have k2:=hobj.cell (i:=2) (v:=.slice a2 n2 c2) rfl
 have k3:=hobj.cell (i:=3) (v:=.string key) rfl
 have k4:=hobj.cell (i:=4) (v:=.string val) rfl
 have k5:=hobj.cell (i:=5) (v:=.slice xa ls.length xc) rfl
 have HF:=Lib.hid (fits8_few xa ls.length xc ls w0 (hs.below hb0))
 have HB:=Lib.hid hb0
 have g3:decide ((2147483647:Int)<(key.size:Int))=false:=decide_eq_false (by omega)
 have g4:decide ((2147483647:Int)<(val.size:Int))=false:=decide_eq_false (by omega)
 clear hb0 hobj hs
 cases g1:decide ((2147483647:Int)<(n1:Int))
 case true=>
  go_enter Tryz.func24,Tryz.ntmps24
  go_wp2
  go_ret
  exact⟨_,trivial,rfl,HB.out⟩
 cases g2:decide ((2147483647:Int)<(n2:Int))
 case true=>
  go_enter Tryz.func24,Tryz.ntmps24
  go_wp2
  go_ret
  exact⟨_,trivial,rfl,HB.out⟩
 go_enter Tryz.func24,Tryz.ntmps24
 go_wp2_with fail
 refine HF.out.mono ?_
 rintro e w2 ⟨b2,_,rfl,rfl⟩
 clear HF
 cases b2
 ·go_wp2
  go_ret
  exact⟨_,trivial,rfl,HB.out⟩
 ·go_wp2
  go_ret
  exact⟨_,trivial,rfl,HB.out⟩
set_option maxRecDepth 100000 in
set_option maxHeartbeats 4000000 in
theorem fits9_any(a:Option Addr)(cap:Nat)(xs:List StepD)(w:World)(h:StepsP w a xs)(hm:xs.length≤9223372036854775807):
  Calls Tryz.prog 12 #[.slice a xs.length cap] w (SomeBoolB (fun _=>True) w):=by
 have HS:=Lib.hid h
 clear h
 obtain⟨m,hmm⟩:∃m,xs.length=m:=⟨_,rfl⟩
 have HM:=Lib.hid hmm
 rw [hmm]at hm ⊢
 clear hmm
 cases g1:decide ((2147483647:Int)<(m:Int))
 case true=>
  go_enter Tryz.func12,Tryz.ntmps12
  go_wp2
  go_ret
  exact⟨_,trivial,rfl,Below.refl _ _⟩
 go_enter Tryz.func12,Tryz.ntmps12
 go_wp2
 go_loopw [10] (fun iv wr=>∃i:Nat,iv=.int .i64 (i:Int)∧i≤m∧Hid (Below w.heap.size w wr)) (fun iv _=>m-(intOf iv).toNat)
 case atStart=>exact⟨0,by go_num,by omega,Lib.hid (Below.refl _ _)⟩
 case round=>
  obtain⟨i,rfl,hi,HB⟩:=hrel
  by_cases hlt:i<m
  ·have hmx:=HM.out
   obtain⟨b,off,rfl,hc⟩:=HS.out (by omega)
   obtain⟨a1,n1,c1,a2,n2,c2,xa,xc,⟨h1,_,_,h4⟩,q0,q1,q2,q3,q4,q5⟩:=hc i (by omega)
   have q0:=cell_below HB.out q0
   have q1:=cell_below HB.out q1
   have q2:=cell_below HB.out q2
   have q3:=cell_below HB.out q3
   have q4:=cell_below HB.out q4
   have q5:=cell_below HB.out q5
   obtain⟨x,hxe⟩:∃x,xs.getD i default=x:=⟨_,rfl⟩
   rw [hxe]at q0 q3 q4 q5 h1 h4
   have hft:=fun(wq:World) (hb:Below wr.heap.size wr wq)=>fits10_any x.op a1 n1 c1 a2 n2 c2 x.key x.val xa x.ls xc wq ((h4.below HB.out).below hb) h1.key h1.val
   obtain⟨xo,hxo⟩:∃o,x.op=o:=⟨_,rfl⟩
   obtain⟨xk,hxk⟩:∃o,x.key=o:=⟨_,rfl⟩
   obtain⟨xv,hxv⟩:∃o,x.val=o:=⟨_,rfl⟩
   obtain⟨xn,hxn⟩:∃o,x.ls.length=o:=⟨_,rfl⟩
   rw [hxo]at q0
   rw [hxk]at q3
   rw [hxv]at q4
   rw [hxn]at q5
   simp only [hxo,hxk,hxv,hxn]at hft
   have HBS:=Lib.hid HB.out.size
   have hb0:Below wr.heap.size wr (wr.alloc (.cells #[.int .i64 xo,.slice a1 n1 c1,.slice a2 n2 c2,.string xk,.string xv,.slice xa xn xc] 28)):=(Below.refl _ _).alloc (Nat.le_refl _) _
   have hobj:World.objAt (wr.alloc (.cells #[.int .i64 xo,.slice a1 n1 c1,.slice a2 n2 c2,.string xk,.string xv,.slice xa xn xc] 28)) wr.heap.size #[.int .i64 xo,.slice a1 n1 c1,.slice a2 n2 c2,.string xk,.string xv,.slice xa xn xc] 28:=objAt_alloc_new wr _ _
   obtain⟨w0,hw0⟩:∃w0,wr.alloc (.cells #[.int .i64 xo,.slice a1 n1 c1,.slice a2 n2 c2,.string xk,.string xv,.slice xa xn xc] 28)=w0:=⟨_,rfl⟩
   rw [hw0]at hb0 hobj
   have r0:=hobj.cell (i:=0) (v:=.int .i64 xo) rfl
   have r1:=hobj.cell (i:=1) (v:=.slice a1 n1 c1) rfl
   have r2:=hobj.cell (i:=2) (v:=.slice a2 n2 c2) rfl
   have r3:=hobj.cell (i:=3) (v:=.string xk) rfl
   have r4:=hobj.cell (i:=4) (v:=.string xv) rfl
   have r5:=hobj.cell (i:=5) (v:=.slice xa xn xc) rfl
   have HFT:=Lib.hid (hft w0 hb0)
   have HB0:=Lib.hid (HB.out.trans (hb0.mono HBS.out))
   have hiI:(i:Int)<(m:Int):=by omega
   clear hft hc h1 h4 hxe hxo hxk hxv hxn hb0 hobj hmx
   go_wp2_with fail
   refine HFT.out.mono ?_
   rintro e w2 ⟨b2,_,rfl,hb2⟩
   have HB2:=Lib.hid (HB0.out.trans (hb2.mono HB0.out.size))
   clear hb2 HFT
   cases b2
   ·go_wp2
    go_ret
    exact⟨_,trivial,rfl,HB2.out⟩
   ·go_wp2
    refine⟨?rel,?measure⟩
    case rel=>exact⟨i+1,by go_num,by omega,HB2⟩
    case measure=>simp [intOf];omega
  ·obtain rfl:i=m:=by omega
   go_wp2
   go_ret
   exact⟨_,trivial,rfl,HB.out⟩
theorem out_pair{w:World}{B mf k:Nat}{labf labP:Nat→NodeD}{C:List (Nat×Nat)}(hk:k≤12)(hL:∀i,i<mf→LabOk k (labf i))(hP:∀i,i<mf→LabPair k (labf i) (labP i))(hlt:∀y∈C,y.1<mf)(hsz:∀y∈C,y.2≤100000)(hC:C.length≤100000)(hfR:∀i,i<mf→FitM (labf i))(hfP:∀i,i<mf→FitM (labP i)){tv ov:Value}{B2:Nat}(h1:OutAt w B tv labP C)(h2:OutAt w B2 ov labf C):
  ∃a1 c1 ts1 a2 c2 ts2,tv=.slice a1 C.length c1∧Nodes w a1 C.length ts1∧ov=.slice a2 C.length c2∧Nodes w a2 C.length ts2∧∀i,i<C.length→AlikeC (ts1.getD i default) (ts2.getD i default):=by
 obtain⟨a1,c1,ts1,e1,n1,l1⟩:=h1.nodesM (fun y hy=>hfP _ (hlt y hy)) hsz hC
 obtain⟨a2,c2,ts2,e2,n2,l2⟩:=h2.nodesM (fun y hy=>hfR _ (hlt y hy)) hsz hC
 refine⟨a1,c1,ts1,a2,c2,ts2,e1,n1,e2,n2,fun i hi=>?_⟩
 obtain⟨p1,p2,p3,p4,p5⟩:=l1 i hi
 obtain⟨r1,r2,r3,r4,r5⟩:=l2 i hi
 have hy:(C.getD i default).1< mf:=hlt _ (by rw [List.getD_eq_getElem?_getD,List.getElem?_eq_getElem hi];exact List.getElem_mem _)
 have ha:=(hP _ hy).alike hk (hL _ hy)
 refine⟨?_,?_,?_,?_,?_,?_⟩
 ·rw [p1,r1];exact ha.kind.symm
 ·rw [p2,r2];exact ha.tag.symm
 ·rw [p3,r3];exact ha.text.symm
 ·rw [p5,r5]
 ·rw [p4,r4];exact ha.two
 ·rw [p4,r4];exact ha.one
theorem ownZ_ints{w:World}{B:Nat}{v:Value}{l:List Int}(h:OwnZ w B v l):∃a cap,v=.slice a l.length cap∧Ints w a l.length l:=by
 obtain⟨a,cap,rfl⟩:=ownsRow_slice h
 refine⟨a,cap,rfl,?_⟩
 obtain⟨a',c',he,_,_,hr⟩:=owns_reads (l:=l.map intZ) (by simpa [OwnZ]using h)
 simp at he
 obtain⟨rfl,rfl⟩:=he
 unfold Ints
 simpa using hr
theorem ChainR.all{len mf:Nat}{labf:Nat→NodeD}{Ff:Wd}{xs:List StepD}{m:Nat}{lab:Nat→NodeD}{F:Wd}(h:ChainR len mf labf Ff xs m lab F):WOk m F→len≤m→∀P:NodeD→Prop,(∀A A':NodeD,P A→A'.tag=A.tag→A'.text=A.text→P A')→(∀i,i<m→P (lab i))→len≤mf∧∀i,i<mf→P (labf i):=by
 induction h with
 | nil hm hl hF=>intro _ hle P _ hP;subst hm hl;exact⟨hle,hP⟩
 | @cons x xs l ws m m' lab lab' F F' h6 hl h0 hw hs h ih=>
  intro hok hle P hAA hP
  obtain⟨a1,a2,a3⟩:=hs.ok hok hle hl hw
  refine ih a1 (by omega) P hAA (a3 P P (fun A hA=>hA) (fun A A' hA _ _ hN=>?_) hP)
  rcases hN with ⟨_,rfl⟩ | ⟨_,rfl⟩ | ⟨_,_,_,r,rfl,_⟩
  ·exact hAA _ _ hA rfl rfl
  ·exact hAA _ _ hA rfl rfl
  ·exact hAA _ _ hA rfl rfl
set_option maxRecDepth 100000 in
set_option maxHeartbeats 8000000 in
theorem walk{W:World}(a:Option Addr)(len cap:Nat)(ts:List NodeD)(h:Nodes W a len ts∧len≤cap∧cap≤maxLen)(a1:Option Addr)(c1:Nat)(xs:List StepD)(h1:StepsP W a1 xs∧xs.length≤c1∧c1≤maxLen):
  Calls Tryz.prog 4 #[.slice a len cap,.slice a1 xs.length c1] W (YesB W):=by
 obtain⟨hN,hN2⟩:=h
 obtain⟨h1,hc1⟩:=h1
 have hm1:xs.length≤9223372036854775807:=by have :=hc1.1;have :=hc1.2;unfold maxLen at *;omega
 have hlm:=hN.len.2
 have HN:=Lib.hid hN
 have H1:=Lib.hid h1
 obtain⟨m,hmm⟩:∃m,xs.length=m:=⟨_,rfl⟩
 have HM:=Lib.hid hmm
 have HF9:=fun(wq:World) (hb:Below W.heap.size W wq)=>fits9_any a1 c1 xs wq (stepsP_below h1 hb) hm1
 rw [hmm]at hm1 HF9 ⊢
 have HF9':=Lib.hid HF9
 clear hN hN2 h1 hc1 hmm HF9
 go_enter Tryz.func4,Tryz.ntmps4
 go_wp2_with fail
 refine(fits1_any a len cap ts W HN.out).mono ?_
 rintro e w1 ⟨b1,_,rfl,hb1⟩
 have HB1:=Lib.hid hb1
 clear hb1
 cases b1
 ·go_wp2
  go_ret
  exact⟨rfl,HB1.out⟩
 go_wp2_with fail
 refine(HF9'.out w1 HB1.out).mono ?_
 rintro e w2 ⟨b2,_,rfl,hb2⟩
 have HB2:=Lib.hid (HB1.out.trans (hb2.mono HB1.out.size))
 clear hb2 HF9' HB1
 cases b2
 ·go_wp2
  go_ret
  exact⟨rfl,HB2.out⟩
 cases g12:decide ((12:Int)<(m:Int))
 case true=>
  go_wp2
  go_ret
  exact⟨rfl,HB2.out⟩
 have hx12:xs.length≤12:=by have h9:=of_decide_eq_false g12;have :=HM.out;omega
 have hsp:=changedG_any w2 a len cap ts (HN.out.below HB2.out) a1 c1 xs (stepsP_below H1.out HB2.out).steps hx12
 rw [HM.out]at hsp
 have HSP:=Lib.hid hsp
 have HX:=Lib.hid hx12
 clear hsp hx12
 go_wp2_with fail
 refine HSP.out.mono ?_
 intro e w3 hp
 rcases hp with ⟨rfl,hb3⟩ | ⟨mf,labf,Ff,C,ov,pv,hR,hch,h6,hok,hL,hC,rfl,hout,hz,hb3⟩
 ·have HB3:=Lib.hid (HB2.out.trans (hb3.out.mono HB2.out.size))
  clear hb3 HSP
  go_wp2
  go_ret
  exact⟨rfl,HB3.out⟩
 have HB3:=Lib.hid (HB2.out.trans (hb3.out.mono HB2.out.size))
 have hN3:=HN.out.below HB3.out
 have hpg:=changedP_any w3 a len cap ts hR hN3 a1 c1 xs (stepsP_below H1.out HB3.out) HX.out hch h6 C hC
 rw [HM.out]at hpg
 have HPG:=Lib.hid hpg
 have HOUT:=Lib.hid hout.out
 have HZ:=Lib.hid hz.out
 have hfit0:=fit_of hR hN3
 have HALL:=Lib.hid (And.intro hR (And.intro hch (And.intro h6 (And.intro hok (And.intro hL (And.intro hC hfit0))))))
 clear hpg hR hch h6 hok hL hC hout hz hb3 HSP hN3 hfit0
 go_wp2_with fail
 refine HPG.out.mono ?_
 rintro e w4 ⟨tv,qv,labP,rfl,hot,hqz,hpair,hb4⟩
 obtain⟨hR,hch,h6,hok,hL,hC,hfit0⟩:=HALL.out
 have hpos:=hR.pos
 have hall:=ChainR.all hch (wd0_ok hR.nest) (Nat.le_refl _) (fun A=>A.tag.size≤maxLen∧A.text.size≤maxLen) (fun A A' hA e1 e2=>by rw [e1,e2];exact hA) (fun i hi=>(hfit0 i hi).wt)
 have hm0:0<mf:=Nat.lt_of_lt_of_le hpos hall.1
 have hord:(C.map (·.1)).Nodup∧(∀y∈C,y.1<mf)∧C.length≤mf:=by
  obtain⟨C',d1,d2,d3,d4⟩:=hok.sized hm0
  rw [hC.det d1]
  exact⟨d2,d3,d4⟩
 obtain⟨z1,z2,z3⟩:=hord
 have h12:xs.length≤12:=HX.out
 have hsz:=szB_12 h12
 have hkd:∀k:Int,(k=1∨k=2∨k=3∨k=4∨k=5)→ -9223372036854775808≤k∧k≤9223372036854775807:=fun k hk=>by omega
 have hpr:∀i,i<mf→LabPair xs.length (labf i) (labP i):=fun i hi=>by rw [HM.out];exact hpair.out i hi
 have hL':∀i,i<mf→LabOk xs.length (labf i):=hL
 have hfR:∀i,i<mf→FitM (labf i):=fun i hi=>⟨by rw [(hpr i hi).kind];exact hkd _ (hpr i hi).ok.kinds,hall.2 i hi,fun z hz=>by have :=(hL' i hi).size z hz;unfold maxLen;omega⟩
 have hfP:∀i,i<mf→FitM (labP i):=fun i hi=>⟨hkd _ (hpr i hi).ok.kinds,by rw [←(hpr i hi).tag,←(hpr i hi).text];exact hall.2 i hi,fun z hz=>by have :=(hpr i hi).vals z hz;unfold maxLen;omega⟩
 obtain⟨oa1,oc1,ts1,oa2,oc2,ts2,e1,n1,e2,n2,hal⟩:=out_pair h12 hL' hpr z2 (fun y hy=>by have :=hC.sizes y hy;omega) (by omega) hfR hfP hot.out (HOUT.out.below hb4.out)
 subst e1 e2
 have hpl:atSet (plC len) (List.replicate len (-1)) 0 C=placesW len C:=atSet_many (n:=mf) (fun i hi=>by unfold plC;rw [if_pos hi]) (fun i h1 h2=>by unfold plC;rw [if_neg (by omega)]) z1 z2
 have hz4:=HZ.out.below hb4.out
 rw [hpl]at hz4
 obtain⟨pa,pc,rfl,hpi⟩:=ownZ_ints hz4
 obtain⟨qa,qc,rfl,hqi⟩:=ownZ_ints hqz.out
 have HAL:=Lib.hid (alikeC_any oa1 oa2 C.length oc1 oc2 ts1 ts2 w4 n1 n2 hal)
 have HZZ:=Lib.hid (And.intro hqi hpi)
 have HB4:=Lib.hid (HB3.out.trans (hb4.out.mono HB3.out.size))
 clear HPG HALL hot hqz hpair hb4 hR hch h6 hok hL hC hfit0 hall z1 z2 z3 hkd hpr hL' hfR hfP n1 n2 hal hpl hz4 hpi hqi hsz h12 HOUT HZ
 go_wp2_with fail
 refine HAL.out.mono ?_
 rintro e w5 ⟨rfl,hb5⟩
 have HSZ:=Lib.hid (sameZ_any qa qc pa pc (placesW len C).length (placesW len C) w5 (HZZ.out.1.below hb5) (HZZ.out.2.below hb5))
 have HB5:=Lib.hid (HB4.out.trans (hb5.mono HB4.out.size))
 clear hb5 HAL HZZ
 go_wp2_with fail
 refine HSZ.out.mono ?_
 rintro e w6 ⟨rfl,hb6⟩
 have HB6:=Lib.hid (HB5.out.trans (hb6.mono HB5.out.size))
 clear hb6 HSZ
 go_wp2
 go_ret
 exact⟨rfl,HB6.out⟩
end Go.Proofs.YtkdomegcacgpnaaGreat.lawFnChanged
namespace Go.Proofs.YtkdomegcacgpnaaGreat
open Go.RowKit Go.ChangeShapes Go.WideShapes
theorem Tryz.own:ownKnob Tryz.prog.godebug=none:=by kernel_rfl
theorem Tryz.laidOut:laidOutB Tryz.prog=true:=by kernel_rfl
theorem row_of_cells{w:World}{x:Addr}{len:Nat}(vs:List Value)(hl:vs.length=len)(hm:len≤maxLen)(hc:∀i,i<len→w.cell? (x.add i)=some (vs.getD i undef)):Row w (some x) len vs:=by
 refine⟨hl,hm,fun h0=>?_⟩
 obtain⟨b,off,spot⟩:=x
 have h:=hc 0 h0
 have hspot:spot=none:=by simpa [Addr.add]using World.cell?_spot h
 subst hspot
 refine⟨b,off,rfl,fun i hi=>?_⟩
 have :=hc i hi
 by_cases h0:i=0
 ·subst h0;simpa [Addr.add]using this
 ·simpa [Addr.add,h0]using this
theorem row_nil(w:World):Row w none 0 []:=⟨rfl,Nat.zero_le _,fun h=>absurd h (Nat.lt_irrefl 0)⟩
section
variable {H:Type} {enc:TypeId×Value→H} {W:World}
theorem strs_of{a:Option Addr}{len cap:Nat}{d:DataW H}{p:List MemPlace}(h:DataW.Trod enc Tryz.prog W 0 (fun _=>true) true 24 (.slice a len cap) d p):
  ∃ss:List ByteArray,Strs W a len ss∧∀s∈ss,s.size≤maxLen:=by
 obtain⟨fuel,hf⟩:=h
 rcases open_strings Tryz.underlying24 Tryz.underlying9 (by kernel_rfl) hf with ⟨hcs,_⟩ | ⟨x,l,c,ss,hcs,_,hl,hm,hz,_,hcell,hws⟩
 ·simp [Value.cells]at hcs
  obtain⟨rfl,rfl,rfl⟩:=hcs
  exact⟨[],row_nil _,by simp⟩
 ·simp [Value.cells]at hcs
  obtain⟨rfl,rfl,rfl⟩:=hcs
  have hz':ss.length=cap:=by simpa using hz
  refine⟨ss.take len,row_of_cells _ (by simp;omega) (by omega) (fun i hi=>?_),fun s hs=>hws s (List.mem_of_mem_take hs)⟩
  rw [hcell i (by omega)]
  have hi':i<ss.length:=by omega
  simp [List.getD,hi,hi',List.getElem?_take]
end
end Go.Proofs.YtkdomegcacgpnaaGreat
namespace Go.Proofs.YtkdomegcacgpnaaGreat
open Go.RowKit Go.ChangeShapes Go.WideShapes Go.Deep
section
variable {H:Type} {enc:TypeId×Value→H} {W:World}
theorem wf_range{n:Int}(h:(Lit.int .i64 n).wf=true): -9223372036854775808≤n∧n≤9223372036854775807:=by
 simp [Lit.wf,IntKind.min,IntKind.max,IntKind.bits,IntKind.signed]at h
 omega
theorem attrs_in{fuel:Nat}{cs:List Value}{x:DataW H×List MemPlace}(h:DataW.trod enc Tryz.prog W 0 (fun _=>true) true fuel 36 cs=some x):
  ∃a len cap l,cs=[.slice a len cap]∧AttrsAt W a len l∧len≤cap∧cap≤maxLen:=by
 rcases open_slice_pairs Tryz.underlying36 Tryz.underlying61 (by kernel_rfl) rfl rfl (by kernel_rfl) (by kernel_rfl) h with ⟨rfl,_⟩ | ⟨x,len,cap,m,n,V0,V1,D0,D1,P0,P1,rfl,_,hl,hm,hmm,_,hx⟩
 ·exact⟨none,0,0,[],rfl,⟨rfl,Nat.zero_le _,by simp,fun h=>absurd h (Nat.lt_irrefl 0)⟩,Nat.le_refl _,Nat.zero_le _⟩
 ·have hmm':m=cap:=by simpa using hmm
  have hs:∀i,i<m→∃q:ByteArray×ByteArray,V0 i=.string q.1∧V1 i=.string q.2∧q.1.size≤maxLen∧q.2.size≤maxLen:=fun i hi=>by
   obtain⟨_,_,t0,t1⟩:=hx i hi
   obtain⟨s0,h0,_,z0⟩:=DataW.trod_string Tryz.underlying9 t0
   obtain⟨s1,h1,_,z1⟩:=DataW.trod_string Tryz.underlying9 t1
   simp at h0 h1
   exact⟨(s0,s1),h0,h1,z0,z1⟩
  obtain⟨q,hq⟩:=choose_lt hs
  have hget:∀i,i<len→((List.range len).map q).getD i default=q i:=fun i hi=>by simp [List.getD,hi]
  refine⟨some x,len,cap,(List.range len).map q,rfl,⟨by simp,by omega,fun y hy=>?_,fun h0=>?_⟩,hl,hm⟩
  ·simp at hy
   obtain⟨i,hi,rfl⟩:=hy
   exact(hq i (by omega)).2.2
  ·obtain⟨b,off,spot⟩:=x
   have c0:=(hx 0 (by omega)).1
   have hspot:spot=none:=by simpa [Addr.add]using World.cell?_spot c0
   subst hspot
   have hadd:∀j,(⟨b,off,none⟩:Addr).add j=⟨b,off+j,none⟩:=fun j=>by unfold Addr.add;split <;> simp_all
   refine⟨b,off,rfl,fun i hi=>?_⟩
   obtain⟨e0,e1,_,_⟩:=hx i (by omega)
   rw [hadd]at e0 e1
   rw [hget i hi,←(hq i (by omega)).1,←(hq i (by omega)).2.1]
   exact⟨e0,by rw [Nat.add_assoc];exact e1⟩
set_option maxRecDepth 100000 in
theorem nodes_of{a:Option Addr}{len cap:Nat}{d:DataW H}{p:List MemPlace}(h:DataW.Trod enc Tryz.prog W 0 (fun _=>true) true 22 (.slice a len cap) d p):
  ∃ts,Nodes W a len ts∧len≤cap∧cap≤maxLen:=by
 obtain⟨fuel,hf⟩:=h
 rcases open_slice Tryz.underlying22 hf with ⟨he,_⟩ | ⟨x,l,c,m,n,D,Pl,he,_,hl,hm,hmm,_,hx⟩
 ·simp [Value.cells]at he
  obtain⟨rfl,rfl,rfl⟩:=he
  exact⟨[],⟨rfl,Nat.zero_le _,fun h=>absurd h (Nat.lt_irrefl 0)⟩,Nat.le_refl _,Nat.zero_le _⟩
 ·simp [Value.cells]at he
  obtain⟨rfl,rfl,rfl⟩:=he
  have hmm':m=cap:=by simpa using hmm
  have hce:Program.cellsOf Tryz.prog 38=5:=by kernel_rfl
  have hspot0:∀i,i<m→x.spot=none:=fun i hi=>by
   obtain⟨cs',h1,h2⟩:=hx 0 (by omega)
   rw [hce]at h1
   obtain⟨_,hlen,hcell⟩:=World.cells?_some h1
   have h0:=hcell 0 (by omega)
   match cs',hlen with
   | [v0,v1,v2,v3,v4],_=>
    simp at h0
    have :=World.cell?_spot h0
    simpa [Addr.add]using this
  have each:∀i,i<m→∃nd:NodeD,NodeCells W x.block (x.off+i*5) nd:=fun i hi=>by
   have hsp:=hspot0 i hi
   obtain⟨cs',h1,h2⟩:=hx i hi
   rw [hce]at h1
   obtain⟨_,hlen,hcell⟩:=World.cells?_some h1
   obtain⟨xs,k,_,_,_,hxl,hf5⟩:=DataW.trod_struct Tryz.underlying38 h2
   have ca:∀j,(x.add (i*5)).add j=⟨x.block,x.off+i*5+j,none⟩:=fun j=>by
    rw [Go.Deep.add_add]
    obtain⟨b,off,spot⟩:=x
    simp only at hsp
    subst hsp
    have hadd:∀j,(⟨b,off,none⟩:Addr).add j=⟨b,off+j,none⟩:=fun j=>by unfold Addr.add;split <;> simp_all
    rw [hadd,Nat.add_assoc]
   match xs,hxl,cs',hlen with
   | [y0,y1,y2,y3,y4],_,[v0,v1,v2,v3,v4],_=>
    have g0:=hf5 0 _ rfl
    have g1:=hf5 1 _ rfl
    have g2:=hf5 2 _ rfl
    have g3:=hf5 3 _ rfl
    have g4:=hf5 4 _ rfl
    have n1:Program.cellsOf Tryz.prog 3=1:=by kernel_rfl
    have n2:Program.cellsOf Tryz.prog 9=1:=by kernel_rfl
    have n3:Program.cellsOf Tryz.prog 36=1:=by kernel_rfl
    simp only [n1,n2,n3,List.drop,List.take,List.getElem?_cons_zero,List.getElem?_cons_succ]at g0 g1 g2 g3 g4
    obtain⟨k0,e0,_,w0⟩:=DataW.trod_int Tryz.underlying3 g0
    obtain⟨s1,e1,_,z1⟩:=DataW.trod_string Tryz.underlying9 g1
    obtain⟨s2,e2,_,z2⟩:=DataW.trod_string Tryz.underlying9 g2
    obtain⟨aa,al,ac,l,e3,hat,_,_⟩:=attrs_in g3
    obtain⟨k4,e4,_,w4⟩:=DataW.trod_int Tryz.underlying3 g4
    simp [n1,n2,n3]at e0 e1 e2 e3 e4
    subst e0 e1 e2 e3 e4
    have c0:=hcell 0 (by omega)
    have c1:=hcell 1 (by omega)
    have c2:=hcell 2 (by omega)
    have c3:=hcell 3 (by omega)
    have c4:=hcell 4 (by omega)
    rw [ca]at c0 c1 c2 c3 c4
    have q0:=wf_range w0
    have q4:=wf_range w4
    exact⟨⟨k0,s1,s2,aa,al,ac,l,k4⟩,c0,c1,c2,c3,c4,hat,q0,q4,z1,z2⟩
  obtain⟨f,hf'⟩:=choose_lt each
  refine⟨(List.range len).map f,⟨by simp,by omega,fun h0=>⟨x.block,x.off,?_,fun i hi=>?_⟩⟩,hl,hm⟩
  ·have hsp:=hspot0 0 (by omega)
   obtain⟨b,off,spot⟩:=x
   simp only at hsp
   subst hsp
   rfl
  ·have :((List.range len).map f).getD i default=f i:=by simp [List.getD,hi]
   rw [this]
   exact hf' i (by omega)
end
end Go.Proofs.YtkdomegcacgpnaaGreat
