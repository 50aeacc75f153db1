/- Parts of a proof: Marks, StepOk, LabPair. -/
import Derived.Test.YtkdomegcacgpnaaGreatG39
import Derived.Test.YtkdomegcacgpnaaGreatG40
import Derived.Test.YtkdomegcacgpnaaGreatG41
import Derived.Test.YtkdomegcacgpnaaGreatG35
import Derived.Test.YtkdomegcacgpnaaGreatG31
set_option linter.unusedVariables false
set_option linter.unusedSimpArgs false
namespace Go.Proofs.YtkdomegcacgpnaaGreat
open Go.RowKit
structure SelEl (w:World) (sp:Nat) (B n:Nat) (nb:Nat→Nat) (v:Nat→Value) (lab:Nat→NodeD) (F:Wd) (l:List Nat) (sa:Option Addr) (sg scap:Nat):Prop where
 dom:DomAt B w n nb v lab F
 hin:∀x∈l,x<n
 once:Once l
 few:l.length≤200
 hsa:0<l.length→sa=some ⟨sg,0,none⟩
 c0:w.cell? ⟨sp,0,none⟩=some (.slice sa l.length scap)
 crow:∀i,i<l.length→w.cell? ⟨sg,i,none⟩=some (.pointer (some ⟨nb (l.getD i 0),0,none⟩))
 ne:0<l.length→∀i,i<n→sg≠nb i∧(v i).ownBlock≠some sg
theorem SelEl.below{w w':World}{sp B n:Nat}{nb:Nat→Nat}{v:Nat→Value}{lab:Nat→NodeD}{F:Wd}{l:List Nat}{sa:Option Addr}{sg scap:Nat}(h:SelEl w sp B n nb v lab F l sa sg scap)(hb:Below w.heap.size w w'):SelEl w' sp B n nb v lab F l sa sg scap:=
 ⟨h.dom.below hb,h.hin,h.once,h.few,h.hsa,cell_below hb h.c0,fun i hi=>cell_below hb (h.crow i hi),h.ne⟩
set_option maxRecDepth 100000 in
set_option maxHeartbeats 2000000 in
theorem elements_any{w:World}{sp B n:Nat}{nb:Nat→Nat}{v:Nat→Value}{lab:Nat→NodeD}{F:Wd}{l:List Nat}{sa:Option Addr}{sg scap:Nat}(h:SelEl w sp B n nb v lab F l sa sg scap)(hel:∀x∈l,(lab x).kind=3):
  Calls Tryz.prog 37 #[.pointer (some ⟨sp,0,none⟩)] w (fun e w'=>e=.returned (.bool true)∧w=w'):=by
 have c0:=h.c0
 have hm:l.length≤200:=h.few
 have HH:=Lib.hid h
 have HE:=Lib.hid hel
 clear h hel
 go_enter Tryz.func37,Tryz.ntmps37
 go_wp2
 go_loopw [10] (fun iv wr=>∃i:Nat,iv=.int .i64 (i:Int)∧i≤l.length∧w=wr) (fun iv _=>l.length-(intOf iv).toNat)
 case atStart=>exact⟨0,by go_num,by omega,rfl⟩
 case round=>
  obtain⟨i,rfl,hi,rfl⟩:=hrel
  by_cases hlt:i<l.length
  ·obtain rfl:=HH.out.hsa (by omega)
   have ck:=HH.out.crow i hlt
   have hxm:=getD_mem' (d:=0) hlt
   obtain⟨x,hx⟩:∃x,l.getD i 0=x:=⟨_,rfl⟩
   rw [hx]at ck hxm
   have c5:=(HH.out.dom.node x (HH.out.hin x hxm)).ty
   rw [show(linkR F nb (lab x) (v x) x).ty=3 by show tyOf (lab x).kind=3;rw [HE.out x hxm];rfl]at c5
   have hiI:(i:Int)<(l.length:Int):=by omega
   clear hx hxm
   go_wp2
   refine⟨?rel,?measure⟩
   case rel=>exact⟨i+1,by go_num,by omega,by first | rfl | trivial⟩
   case measure=>simp [intOf];omega
  ·obtain rfl:i=l.length:=by omega
   go_wp2
   go_ret
   exact⟨rfl,rfl⟩
def clsOp(o:Int):Wds→Wds→Wds:=if o=14 then moreW else if o=15 then lessW else togW
def MarksPost(op:Wds→Wds→Wds)(N:Wds)(m s:Nat)(B n:Nat)(nb:Nat→Nat)(v:Nat→Value)(lab:Nat→NodeD)(F:Wd)(l:List Nat)(w:World)(e:Ending)(w':World):Prop:=
 e=.returned (.bool true)∧∃v' lab',Hid (DomAt B w' n nb v' lab' F)∧Hid (LabC op N m s lab lab' l)∧Hid (OnlyC B n nb v w w')
set_option maxRecDepth 100000 in
set_option maxHeartbeats 4000000 in
theorem marks_any{w:World}{sp B n:Nat}{nb:Nat→Nat}{v:Nat→Value}{lab:Nat→NodeD}{F:Wd}{l:List Nat}{sa:Option Addr}{sg scap:Nat}(h:SelEl w sp B n nb v lab F l sa sg scap)(h0:0<n)(m s:Nat)(hm:m≤60)(hs:s≤15000000000000)(hgood:∀x∈l,(lab x).kind=3∧GoodC (lab x).attrs (Wc (lab x).attrs) m s)
  (a:Option Addr) (xs:List ByteArray) (c:Nat) (hx:NamesAt w a xs c) (o:Int) (ho:o=14∨o=15∨o=16) (on wi:Value) (key val:ByteArray) (hon:∃a n c,on=.slice a n c) (hwi:∃a n c,wi=.slice a n c):
  Calls Tryz.prog 19 #[.pointer (some ⟨sp,0,none⟩),.agg #[.int .i64 o,on,wi,.string key,.string val,.slice a xs.length c]] w (MarksPost (clsOp o) (xs.map (·.data.toList)) (m+1) (s+1100000000000) B n nb v lab F l w):=by
 obtain⟨oa,on_,oc,rfl⟩:=hon
 obtain⟨wa,wn_,wc_,rfl⟩:=hwi
 have hb0:Below w.heap.size w (w.alloc (.cells #[.int .i64 o,.slice oa on_ oc,.slice wa wn_ wc_,.string key,.string val,.slice a xs.length c] 28)):=(Below.refl _ _).alloc (Nat.le_refl _) _
 have k0:(w.alloc (.cells #[.int .i64 o,.slice oa on_ oc,.slice wa wn_ wc_,.string key,.string val,.slice a xs.length c] 28)).cell? ⟨w.heap.size,0,none⟩=some (.int .i64 o):=cell_alloc_new' _ _ _ rfl rfl
 have k5:(w.alloc (.cells #[.int .i64 o,.slice oa on_ oc,.slice wa wn_ wc_,.string key,.string val,.slice a xs.length c] 28)).cell? ⟨w.heap.size,5,none⟩=some (.slice a xs.length c):=cell_alloc_new' _ _ _ rfl rfl
 obtain⟨w0,hw0⟩:∃w0,w.alloc (.cells #[.int .i64 o,.slice oa on_ oc,.slice wa wn_ wc_,.string key,.string val,.slice a xs.length c] 28)=w0:=⟨_,rfl⟩
 rw [hw0]at hb0 k0 k5
 have hS:=h.below hb0
 have hX:=hx.below hb0
 have hE:=elements_any hS (fun x hx=>(hgood x hx).1)
 have hold:∀w9,OnlyC B n nb v w0 w9→OnlyC B n nb v w w9:=fun w9 h9=>OnlyC.ahead hb0 (fun B' h1 h2=>by have :=h2 0 h0;have :=(h.dom.node 0 h0).lt;omega) h9
 have hadd:=addMany_any h0 hS.dom l hS.hin hS.once hS.few m s hm hs hgood hS.hsa hS.c0 hS.crow hS.ne a xs c hX
 have hrem:=remMany_any h0 hS.dom l hS.hin hS.once hS.few m s hm hs hgood hS.hsa hS.c0 hS.crow hS.ne a xs c hX
 have htog:=togMany_any h0 hS.dom l hS.hin hS.once hS.few m s hm hs hgood hS.hsa hS.c0 hS.crow hS.ne a xs c hX
 have HE:=Lib.hid hE
 have HADD:=Lib.hid hadd
 have HREM:=Lib.hid hrem
 have HTOG:=Lib.hid htog
 have HOLD:=Lib.hid hold
 clear hS hX hE hadd hrem htog hold h hx hgood hb0
 rcases ho with rfl | rfl | rfl
 ·clear HREM HTOG
  go_enter Tryz.func19,Tryz.ntmps19
  go_wp2_with fail
  refine HE.out.mono ?_
  rintro e w1 ⟨rfl,rfl⟩
  go_wp2_with fail
  refine HADD.out.mono ?_
  rintro e w1 ⟨rfl,v',lab',h1,h2,h3,_⟩
  have H3:=Lib.hid (HOLD.out w1 h3.out)
  clear h3 HADD HE HOLD k0 k5
  go_wp2
  go_ret
  exact⟨rfl,v',lab',h1,h2,H3⟩
 ·clear HADD HTOG HE
  go_enter Tryz.func19,Tryz.ntmps19
  go_wp2_with fail
  refine HREM.out.mono ?_
  rintro e w1 ⟨rfl,v',lab',h1,h2,h3,_⟩
  have H3:=Lib.hid (HOLD.out w1 h3.out)
  clear h3 HREM HOLD k0 k5
  go_wp2
  go_ret
  exact⟨rfl,v',lab',h1,h2,H3⟩
 ·clear HADD HREM
  go_enter Tryz.func19,Tryz.ntmps19
  go_wp2_with fail
  refine HE.out.mono ?_
  rintro e w1 ⟨rfl,rfl⟩
  go_wp2_with fail
  refine HTOG.out.mono ?_
  rintro e w1 ⟨rfl,v',lab',h1,h2,h3,_⟩
  have H3:=Lib.hid (HOLD.out w1 h3.out)
  clear h3 HTOG HE HOLD k0 k5
  go_wp2
  go_ret
  exact⟨rfl,v',lab',h1,h2,H3⟩
theorem StepR.ok{len:Nat}{x:StepD}{l ws:List Nat}{m:Nat}{lab:Nat→NodeD}{F:Wd}{m':Nat}{lab':Nat→NodeD}{F':Wd}(h:StepR len x l ws m lab F m' lab' F')(hF:WOk m F)(hlm:len≤m)(hl:Picks len x.on l)(hw:Picks len x.wi ws):
  WOk m' F'∧m≤m'∧∀P Q:NodeD→Prop,(∀A,P A→Q A)→(∀A A',P A→NamesSure x.ls→(x.op=12∨x.op=13→x.key.size≤40)→AttrN x.op x.key x.val x.ls A A'→Q A')→(∀i,i<m→P (lab i))→∀i,i<m'→Q (lab' i):=by
 have hll:∀y∈l,y<m:=fun y hy=>Nat.lt_of_lt_of_le (hl.lt y hy) hlm
 have hwl:∀y∈ws,y<m:=fun y hy=>Nat.lt_of_lt_of_le (hw.lt y hy) hlm
 cases h with
 | @put op' L G0 hop hne hap h5 hsp hL hM hF'=>
  obtain⟨a1,a2,a3,a4⟩:=hM.ok (SideW.of hF hap hL hw.nd hwl hll) (MidW.refl hF L)
  refine⟨?_,a2,fun P Q hPQ _ hP i hi=>hPQ _ (a4 P hP i hi)⟩
  rw [hF']
  split
  ·exact a1.cuts l
  ·exact a1
 | rem hop hm hlb hF'=>subst hm hlb hF';exact⟨hF.cuts l,Nat.le_refl _,fun P Q hPQ _ hP i hi=>hPQ _ (hP i hi)⟩
 | empty hop hm hlb hk hF'=>subst hm hlb hF';exact⟨hF.empt l,Nat.le_refl _,fun P Q hPQ _ hP i hi=>hPQ _ (hP i hi)⟩
 | unw hop hm hlb hg hU=>subst hm hlb;exact⟨hU.ok hF,Nat.le_refl _,fun P Q hPQ _ hP i hi=>hPQ _ (hP i hi)⟩
 | @wrap wd L hop hwd hL hin hs hk hW=>
  have hmid:WgMid m F lab L (grpsOf x.op F l) m lab F:=⟨hF,Nat.le_refl _,fun _ _ _=>rfl,fun _ _=>rfl,fun _ _=>rfl⟩
  obtain⟨a1,a2⟩:=hW.ok hs hmid
  obtain⟨_,src,_,b2,_⟩:=hW.relab hs hmid (lb:=lab) (fun _ _=>rfl)
  exact⟨a1,a2,fun P Q hPQ _ hP i hi=>by rw [(b2 i hi).2.1];exact hPQ _ (hP _ (b2 i hi).1)⟩
 | attr hm hF' hk hn hky hA=>
  subst hm hF'
  refine⟨hF,Nat.le_refl _,fun P Q hPQ hQ hP i hi=>?_⟩
  by_cases e:i∈l
  ·exact hQ _ _ (hP i hi) hn hky ((hA i).2 e)
  ·rw [(hA i).1 e];exact hPQ _ (hP i hi)
def szB(k:Nat):Nat:=1048576+k*1200000000000
theorem szB_succ(k:Nat):szB (k+1)=szB k+1200000000000:=by
 unfold szB
 rw [Nat.add_mul,Nat.one_mul,Nat.add_assoc]
theorem szB_12{k:Nat}(h:k≤12):szB k≤15000000000000:=by
 unfold szB
 have :=Nat.mul_le_mul_right 1200000000000 h
 omega
theorem szB_base(k:Nat):1048576≤szB k:=Nat.le_add_right _ _
structure LabOk (k:Nat) (A:NodeD):Prop where
 dist:DistKV A.attrs
 len:A.attrs.length≤20+k
 size:∀z∈A.attrs,z.1.size≤200∧z.2.size≤szB k
theorem LabOk.more{k:Nat}{A:NodeD}(h:LabOk k A):LabOk (k+1) A:=⟨h.dist,by have :=h.len;omega,fun z hz=>⟨(h.size z hz).1,by have :=(h.size z hz).2;rw [szB_succ];omega⟩⟩
theorem LabOk.cls{k:Nat}{A:NodeD}(h:LabOk k A):(ClsVal A.attrs).size≤szB k:=by
 unfold ClsVal
 cases hq:lookKV A.attrs clsK with
 | none=>exact Nat.zero_le _
 | some v=>
  obtain⟨z,hz,_,hv⟩:=look_eq hq
  rw [←hv]
  exact(h.size z hz).2
theorem set_mem{l:KVs}{k v:ByteArray}{P:ByteArray×ByteArray→Prop}(hl:∀z∈l,P z)(hk:P (k,v))(hkv:∀z∈l,z.1.toList=k.toList→P (z.1,v)):∀z∈setKV l k v,P z:=by
 induction l with
 | nil=>intro z hz;simp [setKV]at hz;rw [hz];exact hk
 | cons a r ih=>
  intro z hz
  simp only [setKV]at hz
  split at hz
  ·rename_i h
   rcases List.mem_cons.1 hz with rfl | hz
   ·exact hkv a (by simp) (by simpa using h)
   ·exact hl z (List.mem_cons_of_mem _ hz)
  ·rcases List.mem_cons.1 hz with rfl | hz
   ·exact hl z (by simp)
   ·exact ih (fun y hy=>hl y (List.mem_cons_of_mem _ hy)) (fun y hy=>hkv y (List.mem_cons_of_mem _ hy)) z hz
theorem set_len(l:KVs)(k v:ByteArray):(setKV l k v).length≤l.length+1:=by
 induction l with
 | nil=>simp [setKV]
 | cons a r ih=>
  simp only [setKV]
  split <;> simp <;> omega
theorem LabOk.step{k:Nat}{o:Int}{key val:ByteArray}{xs:List ByteArray}{A A':NodeD}(h:LabOk k A)(hv:val.size≤1048576)(hky:o=12∨o=13→key.size≤40)(hA:AttrN o key val xs A A'):LabOk (k+1) A':=by
 have hcs:=h.cls
 have hb:=szB_base k
 rcases hA with ⟨ho,rfl⟩ | ⟨ho,rfl⟩ | ⟨_,_,_,r,rfl,_,hr⟩
 ·have hk40:=hky (.inl ho)
  refine⟨dist_set h.dist _ _,?_,?_⟩
  ·have :=set_len A.attrs key val
   have :=h.len
   show(setKV A.attrs key val).length≤_
   omega
  ·exact set_mem (fun z hz=>h.more.size z hz) ⟨by simp only;omega,by simp only;rw [szB_succ];omega⟩ (fun z hz _=>⟨(h.size z hz).1,by simp only;rw [szB_succ];omega⟩)
 ·refine⟨?_,?_,fun z hz=>?_⟩
  ·exact List.Pairwise.filter _ h.dist
  ·have :=List.length_filter_le (fun y:ByteArray×ByteArray=> !(y.1.toList==key.toList)) A.attrs
   have :=h.len
   exact Nat.le_trans (List.length_filter_le _ _) (by omega)
  ·exact h.more.size z (List.mem_filter.1 hz).1
 ·refine⟨dist_set h.dist _ _,?_,?_⟩
  ·have :=set_len A.attrs clsK r
   have :=h.len
   show(setKV A.attrs clsK r).length≤_
   omega
  ·exact set_mem (fun z hz=>h.more.size z hz) ⟨by show clsK.size≤200;decide,by simp only;rw [szB_succ];omega⟩ (fun z hz _=>⟨(h.size z hz).1,by simp only;rw [szB_succ];omega⟩)
inductive ChainR (len mf:Nat) (labf:Nat→NodeD) (Ff:Wd):List StepD→Nat→(Nat→NodeD)→Wd→Prop
 | nil {m:Nat} {lab:Nat→NodeD} {F:Wd} (hm:mf=m) (hl:labf=lab) (hF:Ff=F):ChainR len mf labf Ff [] m lab F
 | cons {x:StepD} {xs:List StepD} {l ws:List Nat} {m m':Nat} {lab lab':Nat→NodeD} {F F':Wd} (h6:m'≤600) (hl:Picks len x.on l) (h0:0<l.length) (hw:Picks len x.wi ws) (hs:StepR len x l ws m lab F m' lab' F') (h:ChainR len mf labf Ff xs m' lab' F'):ChainR len mf labf Ff (x::xs) m lab F
structure LabPair (k:Nat) (R P:NodeD):Prop where
 kind:R.kind=P.kind
 tag:R.tag=P.tag
 text:R.text=P.text
 size:R.size=P.size
 dist:DistKV R.attrs
 distP:DistKV P.attrs
 len:P.attrs.length≤20+k
 vals:∀z∈P.attrs,z.1.size≤200∧z.2.size≤szB k
 near:∀q:ByteArray,q.toList≠clsK.toList→lookKV R.attrs q=lookKV P.attrs q
 words:∀u,u∈Wc R.attrs↔u∈Wc P.attrs
 good:SimpleC (ClsVal R.attrs)→(Wc P.attrs).Nodup∧∀b∈(ClsVal P.attrs).data.toList,clsB b
 ok:KindOk P
theorem LabPair.more{k:Nat}{R P:NodeD}(h:LabPair k R P):LabPair (k+1) R P:=
 ⟨h.kind,h.tag,h.text,h.size,h.dist,h.distP,by have :=h.len;omega,fun z hz=>⟨(h.vals z hz).1,by have :=(h.vals z hz).2;rw [szB_succ];omega⟩,h.near,h.words,h.good,h.ok⟩
theorem near_look{l l2:KVs}(h:NearC l l2){q:ByteArray}(hq:q.toList≠clsK.toList):lookKV l q=lookKV l2 q:=by
 cases h1:lookKV l q with
 | some v=>
  obtain⟨x,hx,e1,e2⟩:=look_eq h1
  have :=h.1 x hx (by rw [e1];exact hq)
  rw [look_key e1]at this
  rw [this,e2]
 | none=>
  cases h2:lookKV l2 q with
  | none=>rfl
  | some v=>
   obtain⟨x,hx,e1,e2⟩:=look_eq h2
   have :=h.2 x hx (by rw [e1];exact hq)
   rw [look_key e1,h1]at this
   cases this
theorem look_gone{K:List UInt8}{l l':KVs}(hd:DistKV l)(h:RemSayK K l l')(q:ByteArray):lookKV l' q=if q.toList=K then none else lookKV l q:=by
 by_cases e:q.toList=K
 ·rw [if_pos e]
  cases h2:lookKV l' q with
  | none=>rfl
  | some v=>
   obtain⟨x,hx,e1,e2⟩:=look_eq h2
   have :=((h.mem x).1 hx).2
   rw [e1,e]at this
   simp at this
 ·rw [if_neg e]
  cases h1:lookKV l q with
  | some v=>
   obtain⟨x,hx,e1,e2⟩:=look_eq h1
   have hm:x∈l':=(h.mem x).2 ⟨hx,by rw [e1];simpa using e⟩
   have :=look_mem h.dist hm
   rw [look_key e1]at this
   rw [this,e2]
  | none=>
   cases h2:lookKV l' q with
   | none=>rfl
   | some v=>
    obtain⟨x,hx,e1,e2⟩:=look_eq h2
    have :=look_mem hd ((h.mem x).1 hx).1
    rw [look_key e1,h1]at this
    cases this
theorem rem_filter{l:KVs}(hd:DistKV l)(key:ByteArray):RemSayK key.toList l (remKV l key):=by
 refine⟨List.Pairwise.filter _ hd,fun x=>?_,List.length_filter_le _ _⟩
 unfold remKV
 rw [List.mem_filter]
 constructor
 ·rintro⟨h1,h2⟩;exact⟨h1,by simpa [bne]using h2⟩
 ·rintro⟨h1,h2⟩;exact⟨h1,by rw [bne,h2];rfl⟩
theorem flat_words:∀{l:List ByteArray},(∀x∈l,x.data.toList≠[]∧NoSp x.data.toList)→wl (flatS l)=l.map (·.data.toList)
 | [],_=>rfl
 | x::r,h=>by
  obtain⟨h0,h1⟩:=h x (by simp)
  have ih:=flat_words (l:=r) (fun y hy=>h y (List.mem_cons_of_mem _ hy))
  have e:flatS (x::r)=32::(x.data.toList++flatS r):=by simp [flatS]
  rw [e,wl_space (by decide)]
  cases r with
  | nil=>
   have :flatS []=[]:=rfl
   rw [this,List.append_nil,wl_word h1 h0]
   rfl
  | cons y t=>
   have e2:flatS (y::t)=32::(y.data.toList++flatS t):=by simp [flatS]
   rw [e2,wl_space (by decide)]at ih
   rw [e2,wl_app (by decide),wl_word h1 h0,ih]
   rfl
theorem flat_drop(l:List ByteArray):wl ((flatS l).drop 1)=wl (flatS l):=by
 cases l with
 | nil=>rfl
 | cons x r=>
  have e:flatS (x::r)=32::(x.data.toList++flatS r):=by simp [flatS]
  rw [e,wl_space (by decide)]
  rfl
theorem inW_dec{ws:List ByteArray}{x:ByteArray}:(inW ws x ws.length=true)↔x.data.toList∈ws.map (·.data.toList):=by rw [inW_all,decide_eq_true_iff]
theorem classes_words{o:Int}(ho:o=14∨o=15∨o=16){had r:ByteArray}{xs:List ByteArray}(hx:∀x∈xs,NameOk x.data.toList)(hr:r.data.toList=(flatS (classesF o had xs)).drop 1)(u:List UInt8):u∈wl r.data.toList↔u∈clsOp o (wl had.data.toList) (xs.map (·.data.toList)):=by
 have hw:∀x∈wordsF had,x.data.toList≠[]∧NoSp x.data.toList:=fun x hx=>by
  have :x.data.toList∈(wordsF had).map (·.data.toList):=List.mem_map_of_mem hx
  rw [wordsF_wl]at this
  exact wl_ok this
 have hall:∀x∈classesF o had xs,x.data.toList≠[]∧NoSp x.data.toList:=fun x hm=>by
  unfold classesF at hm
  rcases List.mem_append.1 hm with h | h
  ·exact hw x (List.mem_filter.1 h).1
  ·exact⟨(hx x (List.mem_filter.1 h).1).ne,(hx x (List.mem_filter.1 h).1).sp⟩
 rw [hr,flat_drop,flat_words hall]
 have hm1:u∈(classesF o had xs).map (·.data.toList)↔(u∈wl had.data.toList∧(o=14∨u∉xs.map (·.data.toList)))∨(u∈xs.map (·.data.toList)∧o≠15∧u∉wl had.data.toList):=by
  unfold classesF
  rw [List.map_append,List.mem_append]
  refine or_congr ?_ ?_
  ·rw [←wordsF_wl]
   constructor
   ·intro h
    obtain⟨x,hx2,rfl⟩:=List.mem_map.1 h
    obtain⟨h1,h2⟩:=List.mem_filter.1 hx2
    refine⟨List.mem_map_of_mem h1,?_⟩
    unfold keep1 at h2
    rw [Bool.or_eq_true]at h2
    rcases h2 with h2 | h2
    ·exact .inl (by simpa using h2)
    ·exact .inr (fun hm=>by rw [inW_dec.2 hm]at h2;cases h2)
   ·rintro⟨h1,h2⟩
    obtain⟨x,hx2,rfl⟩:=List.mem_map.1 h1
    refine List.mem_map_of_mem (List.mem_filter.2 ⟨hx2,?_⟩)
    unfold keep1
    rw [Bool.or_eq_true]
    rcases h2 with h2 | h2
    ·exact .inl (by simpa using h2)
    ·right
     cases hq:inW xs x xs.length
     ·rfl
     ·exact absurd (inW_dec.1 hq) h2
  ·constructor
   ·intro h
    obtain⟨x,hx2,rfl⟩:=List.mem_map.1 h
    obtain⟨h1,h2⟩:=List.mem_filter.1 hx2
    unfold keep2 at h2
    rw [Bool.and_eq_true]at h2
    refine⟨List.mem_map_of_mem h1,by simpa using h2.1,fun hm=>?_⟩
    rw [←wordsF_wl]at hm
    rw [inW_dec.2 hm]at h2
    simp at h2
   ·rintro⟨h1,h2,h3⟩
    obtain⟨x,hx2,rfl⟩:=List.mem_map.1 h1
    refine List.mem_map_of_mem (List.mem_filter.2 ⟨hx2,?_⟩)
    unfold keep2
    rw [Bool.and_eq_true]
    refine⟨by simpa using h2,?_⟩
    cases hq:inW (wordsF had) x (wordsF had).length
    ·rfl
    ·have :=inW_dec.1 hq
     rw [wordsF_wl]at this
     exact absurd this h3
 rw [hm1]
 generalize wl had.data.toList=W
 generalize xs.map (·.data.toList)=N
 have hless:u∈lessW W N↔u∈W∧u∉N:=by unfold lessW;simp
 rcases ho with rfl | rfl | rfl
 ·have e:clsOp 14 W N=moreW W N:=rfl
  rw [e,mem_more]
  by_cases h1:u∈W <;> by_cases h2:u∈N <;> simp [h1,h2]
 ·have e:clsOp 15 W N=lessW W N:=rfl
  rw [e,hless]
  by_cases h1:u∈W <;> by_cases h2:u∈N <;> simp [h1,h2]
 ·have e:clsOp 16 W N=togW W N:=rfl
  rw [e]
  unfold togW
  rw [List.mem_append,hless,List.mem_filter,decide_eq_true_iff]
  by_cases h1:u∈W <;> by_cases h2:u∈N <;> simp [h1,h2]
theorem clsOp_congr{o:Int}(ho:o=14∨o=15∨o=16){W V N:Wds}(h:∀u,u∈W↔u∈V)(u:List UInt8):u∈clsOp o W N↔u∈clsOp o V N:=by
 rcases ho with rfl | rfl | rfl
 ·have e:∀W,clsOp 14 W N=moreW W N:=fun _=>rfl
  rw [e,e,mem_more,mem_more,h]
 ·have e:∀W,clsOp 15 W N=lessW W N:=fun _=>rfl
  rw [e,e]
  unfold lessW
  simp [h]
 ·have e:∀W,clsOp 16 W N=togW W N:=fun _=>rfl
  rw [e,e]
  unfold togW lessW
  simp [h]
theorem LabPair.goodC{k:Nat}{R P:NodeD}(h:LabPair k R P)(hs:SimpleC (ClsVal R.attrs)):GoodC P.attrs (Wc P.attrs) (20+k) (szB k):=
 ⟨h.distP,rfl,(h.good hs).1,(h.good hs).2,h.len,h.vals⟩
theorem clsVal_set(l:KVs)(key val:ByteArray):ClsVal (setKV l key val)=if key.toList=clsK.toList then val else ClsVal l:=by
 unfold ClsVal
 rw [look_set]
 split <;> rfl
theorem simple_good{s:ByteArray}(h:SimpleC s):(wl s.data.toList).Nodup∧∀b∈s.data.toList,clsB b:=by
 have e:ClsVal [(clsK,s)]=s:=by unfold ClsVal;simp [lookKV]
 have h1:=goodC_start (l:=[(clsK,s)]) (s:=s.size) (by unfold DistKV;simp) (by simp) (fun x hx=>by
  simp at hx
  subst hx
  exact⟨by show clsK.size≤200;decide,Nat.le_refl _⟩) (by rw [e];exact h)
 have h2:=h1.nodup
 have h3:=h1.asc
 unfold Wc at h2
 rw [e]at h2 h3
 exact⟨h2,h3⟩
theorem LabPair.attr{k:Nat}{o:Int}{key val:ByteArray}{xs:List ByteArray}{R P R':NodeD}{A:KVs}(h:LabPair k R P)(hk12:k≤12)(h3:P.kind=3)(hv:val.size≤1048576)(hky:o=12∨o=13→key.size≤40)(hx:∀x∈xs,NameOk x.data.toList)(hA:AttrN o key val xs R R')
  (hP:(o=12∧A=setKV P.attrs key val)∨(o=13∧RemK key.toList P.attrs A)∨((o=14∨o=15∨o=16)∧GoodC A (clsOp o (Wc P.attrs) (xs.map (·.data.toList))) (20+k+1) (szB k+1100000000000)∧NearC P.attrs A)):LabPair (k+1) R' {P with attrs:=A}:=by
 have hb:=szB_base k
 have hs:=szB_succ k
 have hok:A.length≤20+(k+1)→KindOk {P with attrs:=A}:=fun hl=>⟨h.ok.kinds,fun hq=>absurd h3 hq,by show A.length≤100;omega,h.ok.txt⟩
 rcases hA with ⟨ho,rfl⟩ | ⟨ho,rfl⟩ | ⟨ho,hsc,hp,r,rfl,hr,_⟩
 ·rcases hP with ⟨_,rfl⟩ | ⟨h2,_⟩ | ⟨h2,_⟩
  ·have hk40:=hky (.inl ho)
   have hl9:(setKV P.attrs key val).length≤20+(k+1):=by
    have :=set_len P.attrs key val
    have :=h.len
    omega
   refine⟨h.kind,h.tag,h.text,h.size,dist_set h.dist _ _,dist_set h.distP _ _,hl9,?_,fun q hq=>?_,fun u=>?_,fun hg=>?_,hok hl9⟩
   ·exact set_mem (fun z hz=>h.more.vals z hz) ⟨by simp only;omega,by simp only;omega⟩ (fun z hz _=>⟨(h.vals z hz).1,by simp only;omega⟩)
   ·show lookKV (setKV _ _ _) q=lookKV (setKV _ _ _) q
    rw [look_set,look_set,h.near q hq]
   ·show u∈wl (ClsVal (setKV _ _ _)).data.toList↔u∈wl (ClsVal (setKV _ _ _)).data.toList
    rw [clsVal_set,clsVal_set]
    by_cases e:key.toList=clsK.toList
    ·rw [if_pos e,if_pos e]
    ·rw [if_neg e,if_neg e];exact h.words u
   ·have hg':SimpleC (ClsVal (setKV R.attrs key val)):=hg
    show(wl (ClsVal (setKV _ _ _)).data.toList).Nodup∧∀b∈(ClsVal (setKV _ _ _)).data.toList,clsB b
    rw [clsVal_set]at hg' ⊢
    by_cases e:key.toList=clsK.toList
    ·rw [if_pos e]at hg' ⊢;exact simple_good hg'
    ·rw [if_neg e]at hg' ⊢;exact h.good hg'
  ·omega
  ·omega
 ·rcases hP with ⟨h2,_⟩ | ⟨_,hrem⟩ | ⟨h2,_⟩
  ·omega
  ·have s1:=rem_filter h.dist key
   have s2:=remK_say h.distP hrem
   have c1:∀(l l':KVs),DistKV l→RemSayK key.toList l l'→ClsVal l'=if clsK.toList=key.toList then ByteArray.empty else ClsVal l:=fun l l' hd hs=>by
    unfold ClsVal
    rw [look_gone hd hs]
    split <;> rfl
   have hl9:A.length≤20+(k+1):=by
    have :=s2.len
    have :=h.len
    omega
   refine⟨h.kind,h.tag,h.text,h.size,s1.dist,s2.dist,hl9,fun z hz=>?_,fun q hq=>?_,fun u=>?_,fun hg=>?_,hok hl9⟩
   ·have :=h.vals z ((s2.mem z).1 hz).1
    exact⟨this.1,by omega⟩
   ·show lookKV (remKV _ _) q=lookKV A q
    rw [look_gone h.dist s1,look_gone h.distP s2,h.near q hq]
   ·show u∈wl (ClsVal (remKV _ _)).data.toList↔u∈wl (ClsVal A).data.toList
    rw [c1 _ _ h.dist s1,c1 _ _ h.distP s2]
    by_cases e:clsK.toList=key.toList
    ·rw [if_pos e,if_pos e]
    ·rw [if_neg e,if_neg e];exact h.words u
   ·have hg':SimpleC (ClsVal (remKV R.attrs key)):=hg
    show(wl (ClsVal A).data.toList).Nodup∧∀b∈(ClsVal A).data.toList,clsB b
    rw [c1 _ _ h.dist s1]at hg'
    rw [c1 _ _ h.distP s2]
    by_cases e:clsK.toList=key.toList
    ·rw [if_pos e]at hg' ⊢;exact simple_good hg'
    ·rw [if_neg e]at hg' ⊢;exact h.good hg'
  ·omega
 ·rcases hP with ⟨h2,_⟩ | ⟨h2,_⟩ | ⟨_,hg,hn⟩
  ·omega
  ·omega
  ·have hw:Wc A=clsOp o (Wc P.attrs) (xs.map (·.data.toList)):=hg.words
   refine⟨h.kind,h.tag,h.text,h.size,dist_set h.dist _ _,hg.dist,by have :=hg.len;show A.length≤_;omega,fun z hz=>?_,fun q hq=>?_,fun u=>?_,fun _=>⟨?_,hg.asc⟩,hok (by have :=hg.len;omega)⟩
   ·have :=hg.size z hz
    exact⟨this.1,by omega⟩
   ·show lookKV (setKV _ _ _) q=lookKV A q
    rw [look_set,if_neg (fun e=>hq e.symm),h.near q hq]
    exact near_look hn hq
   ·show u∈wl (ClsVal (setKV _ _ _)).data.toList↔u∈Wc A
    rw [clsVal_set,if_pos rfl,hw,classes_words ho hx hr]
    exact clsOp_congr ho h.words u
   ·show(Wc A).Nodup
    rw [hw]
    exact hg.nodup
theorem LabPair.alike{k:Nat}{R P:NodeD}(h:LabPair k R P)(hk:k≤12)(hR:LabOk k R):AlikeC R P:=by
 have h12:=szB_12 hk
 have hz1:∀x∈R.attrs,x.2.size≤16000000000000:=fun x hx=>by have :=(hR.size x hx).2;omega
 have hz2:∀x∈P.attrs,x.2.size≤16000000000000:=fun x hx=>by have :=(h.vals x hx).2;omega
 refine⟨h.kind,h.tag,h.text,h.size,half_of h.dist (fun x hx hq=>?_) hz1 hz2 (fun u hu=>(h.words u).1 hu),half_of h.distP (fun x hx hq=>?_) hz2 hz1 (fun u hu=>(h.words u).2 hu)⟩
 ·rw [←h.near x.1 hq];exact look_mem h.dist hx
 ·rw [h.near x.1 hq];exact look_mem h.distP hx
end Go.Proofs.YtkdomegcacgpnaaGreat
