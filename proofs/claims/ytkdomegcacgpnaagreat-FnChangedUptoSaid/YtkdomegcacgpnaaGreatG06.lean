/- Parts of a proof: SelBase, Cells, MovesDoor. -/
import Derived.Test.YtkdomegcacgpnaaGreatG01
import Derived.Test.YtkdomegcacgpnaaGreatG05
import Derived.Test.YtkdomegcacgpnaaGreatG00
import Derived.Deep.RegionHeld3
set_option linter.unusedVariables false
set_option linter.unusedSimpArgs false
namespace Go.Proofs.YtkdomegcacgpnaaGreat
open Go.RowKit
def DocPost(w:World)(e:Ending)(w':World):Prop:=
 ∃d s a,e=.returned (.pointer (some ⟨d,0,none⟩))∧w'.cell? ⟨d,0,none⟩=some (.pointer (some ⟨s,0,none⟩))∧w'.cell? ⟨s,0,none⟩=some (.slice a 1 1)∧w'.cell? ⟨s,1,none⟩=some (.pointer (some ⟨d,0,none⟩))∧Below w.heap.size w w'
set_option maxRecDepth 100000 in
set_option maxHeartbeats 1000000 in
theorem newDoc_any(p:Nat)(w:World):Calls Tryz.prog 31 #[.pointer (some ⟨p,0,none⟩)] w (DocPost w):=by
 go_enter Tryz.func31,Tryz.ntmps31
 go_wp2
 go_ret
 refine⟨w.heap.size,w.heap.size+2,some ⟨w.heap.size+1,0,none⟩,rfl,?_,?_,?_,?_⟩
 ·exact cell_alloc_old (cell_alloc_old (cell_alloc_new' _ _ _ rfl rfl) _) _
 ·exact cell_alloc_new' _ _ _ (by simp) rfl
 ·exact cell_alloc_new' _ _ _ (by simp) rfl
 ·exact(((Below.refl _ w).alloc (Nat.le_refl _) _).alloc (by simp) _).alloc (by simp;omega) _
def EmptyPost(d:Nat)(w:World)(e:Ending)(w':World):Prop:=
 ∃s,e=.returned (.pointer (some ⟨s,0,none⟩))∧w'.cell? ⟨s,0,none⟩=some (.slice none 0 0)∧w'.cell? ⟨s,1,none⟩=some (.pointer (some ⟨d,0,none⟩))∧Below w.heap.size w w'
set_option maxRecDepth 100000 in
set_option maxHeartbeats 1000000 in
theorem eq1_any(s d:Nat)(a:Option Addr)(w:World)(c0:w.cell? ⟨s,0,none⟩=some (.slice a 1 1))(c1:w.cell? ⟨s,1,none⟩=some (.pointer (some ⟨d,0,none⟩))):
  Calls Tryz.prog 32 #[.pointer (some ⟨s,0,none⟩),.int .i64 1] w (EmptyPost d w):=by
 go_enter Tryz.func32,Tryz.ntmps32
 go_wp2
 go_ret
 refine⟨w.heap.size,rfl,?_,?_,?_⟩
 ·exact cell_alloc_new' _ _ _ (by simp) rfl
 ·exact cell_alloc_new' _ _ _ (by simp) rfl
 ·exact(Below.refl _ w).alloc (Nat.le_refl _) _
structure SelAt (w:World) (s:Nat) (v:Value) (l:List Nat) (B:Nat):Prop where
 nodes:w.cell? ⟨s,0,none⟩=some v
 doc:∃d,w.cell? ⟨s,1,none⟩=some (.pointer (some ⟨d,0,none⟩))
 own:OwnPtrs w B v l
 base:B≤s
def SelPost(l:List Nat)(w:World)(e:Ending)(w':World):Prop:=
 ∃s v,e=.returned (.pointer (some ⟨s,0,none⟩))∧Hid (SelAt w' s v l w.heap.size)∧Hid (Below w.heap.size w w')
set_option maxRecDepth 100000 in
set_option maxHeartbeats 1000000 in
theorem addNodes_any(s d:Nat)(v:Value)(l:List Nat)(w:World)(c0:w.cell? ⟨s,0,none⟩=some (.slice none 0 0))(c1:w.cell? ⟨s,1,none⟩=some (.pointer (some ⟨d,0,none⟩)))(h:PtrsOf w v l)(hal:∀i,i<l.length→Alive w (l.getD i 0))(hon:Once l)(hn:l.length≤200):
  Calls Tryz.prog 18 #[.pointer (some ⟨s,0,none⟩),v] w (SelPost l w):=by
 have hno:=noDup_any v l w h hal hon hn
 have HNO:=Lib.hid hno
 clear h hal hon hno
 go_enter Tryz.func18,Tryz.ntmps18
 go_wp2_with fail
 refine HNO.out.mono ?_
 rintro e w1 ⟨v',rfl,ho,hb⟩
 have c1':=cell_below hb.out c1
 obtain⟨a',cap',hv,_⟩:=ho.out.ptrs.nil
 rw [List.length_map]at hv
 subst hv
 clear c0 c1 HNO
 go_wp2
 go_ret
 refine⟨w1.heap.size,.slice a' l.length cap',rfl,Lib.hid ⟨?_,⟨d,?_⟩,?_,hb.out.size⟩,Lib.hid ?_⟩
 ·exact cell_alloc_new' _ _ _ (by simp) rfl
 ·exact cell_alloc_new' _ _ _ (by simp) rfl
 ·exact ho.out.alloc _
 ·exact hb.out.alloc hb.out.size _
theorem SelAt.below{w w':World}{s:Nat}{v:Value}{l:List Nat}{B:Nat}(h:SelAt w s v l B)(hb:Below w.heap.size w w'):SelAt w' s v l B:=by
 obtain⟨d,hd⟩:=h.doc
 exact⟨cell_below hb h.nodes,⟨d,cell_below hb hd⟩,ownsRow_kept h.own (fun k hk=>hb.block k (World.ownsRow.lt h.own k hk).2),h.base⟩
theorem SelAt.weaken{w:World}{s:Nat}{v:Value}{l:List Nat}{B B':Nat}(h:SelAt w s v l B)(hB:B'≤B):SelAt w s v l B':=⟨h.nodes,h.doc,ownsRow_base h.own hB,Nat.le_trans hB h.base⟩
theorem Forest.alive{B:Nat}{w:World}{bl len:Nat}{nb:Nat→Nat}{v:Nat→Value}{ts:List NodeD}(h:Forest B w bl len nb v ts){l:List Nat}(hl:∀i∈l,i<len):∀i,i<(l.map nb).length→Alive w ((l.map nb).getD i 0):=fun i hi=>by
 have hi':i<l.length:=by simpa using hi
 have :(l.map nb).getD i 0=nb (l.getD i 0):=by simp [List.getD,hi']
 rw [this]
 exact(h.node (hl _ (getD_mem' hi'))).alive
theorem Forest.once{B:Nat}{w:World}{bl len:Nat}{nb:Nat→Nat}{v:Nat→Value}{ts:List NodeD}(h:Forest B w bl len nb v ts){l:List Nat}(hl:∀i∈l,i<len)(ho:Once l):Once (l.map nb):=fun i j hi hj he=>by
 have hi':i<l.length:=by simpa using hi
 have hj':j<l.length:=by simpa using hj
 have e1:(l.map nb).getD i 0=nb (l.getD i 0):=by simp [List.getD,hi']
 have e2:(l.map nb).getD j 0=nb (l.getD j 0):=by simp [List.getD,hj']
 rw [e1,e2]at he
 exact ho i j hi' hj' (h.seg.inj _ _ (Nat.zero_le _) (hl _ (getD_mem' hi')) (Nat.zero_le _) (hl _ (getD_mem' hj')) he)
def World.objAt(w:World)(b:Nat)(cs:Array Value)(t:TypeId):Prop:=w.heap[b]? =some (.cells cs t (0,0))
theorem World.objAt.lt{w:World}{b:Nat}{cs:Array Value}{t:TypeId}(h:World.objAt w b cs t):b<w.heap.size:=by
 unfold World.objAt at h
 obtain⟨h,_⟩:=Array.getElem?_eq_some_iff.1 h
 exact h
theorem World.objAt.cell{w:World}{b:Nat}{cs:Array Value}{t:TypeId}(h:World.objAt w b cs t){i:Nat}{v:Value}(hv:cs[i]? =some v):w.cell? ⟨b,i,none⟩=some v:=by
 unfold World.objAt at h
 simp [World.cell?,h,hv]
theorem World.objAt.free{w:World}{b:Nat}{cs:Array Value}{t:TypeId}(h:World.objAt w b cs t)(o:Nat):w.frozen? ⟨b,o,none⟩=false:=by
 unfold World.objAt at h
 simp [World.frozen?,h]
theorem setCell_heap{w:World}{b:Nat}{cs:Array Value}{t:TypeId}(h:World.objAt w b cs t)(i:Nat)(v:Value):
  w.setCell ⟨b,i,none⟩ v={w with heap:=w.heap.setIfInBounds b (.cells (cs.setIfInBounds i v) t (0,0))}:=by
 have hlt:=h.lt
 unfold World.objAt at h
 unfold World.setCell
 congr 1
 apply Array.ext_getElem?
 intro k
 simp only [Array.getElem?_modify]
 by_cases hk:b=k
 ·subst hk
  rw [if_pos rfl,h,Array.getElem?_setIfInBounds_self_of_lt hlt]
  simp
 ·rw [Array.getElem?_setIfInBounds_ne hk,if_neg hk]
theorem World.objAt.set{w:World}{b:Nat}{cs:Array Value}{t:TypeId}(h:World.objAt w b cs t)(i:Nat)(v:Value):World.objAt (w.setCell ⟨b,i,none⟩ v) b (cs.setIfInBounds i v) t:=by
 have hlt:=h.lt
 rw [setCell_heap h]
 unfold World.objAt
 exact Array.getElem?_setIfInBounds_self_of_lt hlt
theorem World.objAt.setBelow{w:World}{b:Nat}{cs:Array Value}{t:TypeId}(h:World.objAt w b cs t)(i:Nat)(v:Value){B:Nat}{a:World}(ha:Below B a w)(hb:B≤b):Below B a (w.setCell ⟨b,i,none⟩ v):=by
 rw [setCell_heap h]
 exact ha.trans ⟨rfl,rfl,rfl,by simp,fun k hk=>Array.getElem?_setIfInBounds_ne (by omega)⟩
theorem objAt_alloc_new(w:World)(cs:Array Value)(t:TypeId):World.objAt (w.alloc (.cells cs t)) w.heap.size cs t:=by
 unfold World.objAt World.alloc
 simp
theorem World.objAt.below{w w':World}{b B:Nat}{cs:Array Value}{t:TypeId}(h:World.objAt w b cs t)(hb:Below B w w')(hlt:b<B):World.objAt w' b cs t:=by
 unfold World.objAt at h ⊢
 rw [hb.block b hlt]
 exact h
set_option maxRecDepth 100000 in
set_option maxHeartbeats 4000000 in
theorem wraps_any{X:World→Prop}{f:FuncId}{o:Int}(hf:(o=9∧f=93)∨(o=10∧f=94)∨(o=11∧f=95))(s y:Nat)(a1 a2 a3:Option Addr)(n1 c1 n2 c2 n3 c3:Nat)(key val:ByteArray)(w:World)
  (hcall:∀w1,Below w.heap.size w w1→Calls Tryz.prog f #[.pointer (some ⟨s,0,none⟩),.pointer (some ⟨y,0,none⟩)] w1 (fun e w'=>e=.returned (.pointer (some ⟨s,0,none⟩))∧Hid (X w'))):
  Calls Tryz.prog 49 #[.pointer (some ⟨s,0,none⟩),.agg #[.int .i64 o,.slice a1 n1 c1,.slice a2 n2 c2,.string key,.string val,.slice a3 n3 c3],.pointer (some ⟨y,0,none⟩)] w (fun e w'=>e=.returned (.bool true)∧Hid (X w')):=by
 have hb0:Below w.heap.size w (w.alloc (.cells #[.int .i64 o,.slice a1 n1 c1,.slice a2 n2 c2,.string key,.string val,.slice a3 n3 c3] 28)):=(Below.refl _ _).alloc (Nat.le_refl _) _
 have k0:(w.alloc (.cells #[.int .i64 o,.slice a1 n1 c1,.slice a2 n2 c2,.string key,.string val,.slice a3 n3 c3] 28)).cell? ⟨w.heap.size,0,none⟩=some (.int .i64 o):=cell_alloc_new' _ _ _ rfl rfl
 obtain⟨w0,hw0⟩:∃w0,w.alloc (.cells #[.int .i64 o,.slice a1 n1 c1,.slice a2 n2 c2,.string key,.string val,.slice a3 n3 c3] 28)=w0:=⟨_,rfl⟩
 rw [hw0]at hb0 k0
 have HC:=Lib.hid (hcall w0 hb0)
 clear hcall hb0
 rcases hf with ⟨rfl,rfl⟩ | ⟨rfl,rfl⟩ | ⟨rfl,rfl⟩
 all_goals
  go_enter Tryz.func49,Tryz.ntmps49
  go_wp2_with fail
  refine HC.out.mono ?_
  rintro e w1 ⟨rfl,hx⟩
  clear HC k0
  go_wp2
  go_ret
  exact⟨rfl,hx⟩
def MoveFn(o:Int)(f:FuncId)(args:Array Value)(s:Nat)(nv:Value):Prop:=
 (o=1∧f=41∧args= #[.pointer (some ⟨s,0,none⟩),nv])∨
 (o=2∧f=42∧args= #[.pointer (some ⟨s,0,none⟩),nv])∨
 (o=3∧f=43∧args= #[.pointer (some ⟨s,0,none⟩),nv])∨
 (o=4∧f=44∧args= #[.pointer (some ⟨s,0,none⟩),nv])∨
 (o=5∧f=45∧args= #[.pointer (some ⟨s,0,none⟩),nv])∨
 (o=6∧f=46∧args= #[.pointer (some ⟨s,0,none⟩)])∨
 (o=7∧f=47∧args= #[.pointer (some ⟨s,0,none⟩)])∨
 (o=8∧f=48∧args= #[.pointer (some ⟨s,0,none⟩)])
set_option maxRecDepth 100000 in
set_option maxHeartbeats 8000000 in
theorem moves_any{X:World→Prop}{f:FuncId}{o:Int}{args:Array Value}{s:Nat}{na:Option Addr}{nn nc:Nat}(hf:MoveFn o f args s (.slice na nn nc))(a1 a2 a3:Option Addr)(n1 c1 n2 c2 n3 c3:Nat)(key val:ByteArray)(w:World)
  (hcall:∀w1,Below w.heap.size w w1→Calls Tryz.prog f args w1 (fun e w'=>(∃q,e=.returned (.pointer (some ⟨q,0,none⟩)))∧Hid (X w'))):
  Calls Tryz.prog 20 #[.pointer (some ⟨s,0,none⟩),.agg #[.int .i64 o,.slice a1 n1 c1,.slice a2 n2 c2,.string key,.string val,.slice a3 n3 c3],.slice na nn nc] w (fun e w'=>e=.returned (.bool true)∧Hid (X w')):=by
 have hb0:Below w.heap.size w (w.alloc (.cells #[.int .i64 o,.slice a1 n1 c1,.slice a2 n2 c2,.string key,.string val,.slice a3 n3 c3] 28)):=(Below.refl _ _).alloc (Nat.le_refl _) _
 have k0:(w.alloc (.cells #[.int .i64 o,.slice a1 n1 c1,.slice a2 n2 c2,.string key,.string val,.slice a3 n3 c3] 28)).cell? ⟨w.heap.size,0,none⟩=some (.int .i64 o):=cell_alloc_new' _ _ _ rfl rfl
 obtain⟨w0,hw0⟩:∃w0,w.alloc (.cells #[.int .i64 o,.slice a1 n1 c1,.slice a2 n2 c2,.string key,.string val,.slice a3 n3 c3] 28)=w0:=⟨_,rfl⟩
 rw [hw0]at hb0 k0
 have HC:=Lib.hid (hcall w0 hb0)
 clear hcall hb0
 rcases hf with ⟨rfl,rfl,rfl⟩ | ⟨rfl,rfl,rfl⟩ | ⟨rfl,rfl,rfl⟩ | ⟨rfl,rfl,rfl⟩ | ⟨rfl,rfl,rfl⟩ | ⟨rfl,rfl,rfl⟩ | ⟨rfl,rfl,rfl⟩ | ⟨rfl,rfl,rfl⟩
 all_goals
  go_enter Tryz.func20,Tryz.ntmps20
  go_wp2_with fail
  refine HC.out.mono ?_
  rintro e w1 ⟨⟨q,rfl⟩,hx⟩
  clear HC k0
  go_wp2
  go_ret
  exact⟨rfl,hx⟩
def KeepsO(w w':World):Prop:=∀b cs t,World.objAt w b cs t→t≠117→t≠119→World.objAt w' b cs t
set_option maxRecDepth 100000 in
set_option maxHeartbeats 4000000 in
theorem movesWrap_any{X:World→Prop}{o:Int}(ho:o=9∨o=10∨o=11){s y ng nc:Nat}(a1 a2 a3:Option Addr)(n1 c1 n2 c2 n3 c3:Nat)(key val:ByteArray)(w:World){cs:Array Value}(hno:World.objAt w ng cs 75)(hcs:cs[0]? =some (.pointer (some ⟨y,0,none⟩)))
  (hcall:∀w1,Below w.heap.size w w1→Calls Tryz.prog 49 #[.pointer (some ⟨s,0,none⟩),.agg #[.int .i64 o,.slice a1 n1 c1,.slice a2 n2 c2,.string key,.string val,.slice a3 n3 c3],.pointer (some ⟨y,0,none⟩)] w1 (fun e w'=>e=.returned (.bool true)∧Hid (X w'∧KeepsO w1 w'))):
  Calls Tryz.prog 20 #[.pointer (some ⟨s,0,none⟩),.agg #[.int .i64 o,.slice a1 n1 c1,.slice a2 n2 c2,.string key,.string val,.slice a3 n3 c3],.slice (some ⟨ng,0,none⟩) 1 nc] w (fun e w'=>e=.returned (.bool true)∧Hid (X w')):=by
 have hb0:Below w.heap.size w (w.alloc (.cells #[.int .i64 o,.slice a1 n1 c1,.slice a2 n2 c2,.string key,.string val,.slice a3 n3 c3] 28)):=(Below.refl _ _).alloc (Nat.le_refl _) _
 have hobj:World.objAt (w.alloc (.cells #[.int .i64 o,.slice a1 n1 c1,.slice a2 n2 c2,.string key,.string val,.slice a3 n3 c3] 28)) w.heap.size #[.int .i64 o,.slice a1 n1 c1,.slice a2 n2 c2,.string key,.string val,.slice a3 n3 c3] 28:=objAt_alloc_new w _ _
 obtain⟨w0,hw0⟩:∃w0,w.alloc (.cells #[.int .i64 o,.slice a1 n1 c1,.slice a2 n2 c2,.string key,.string val,.slice a3 n3 c3] 28)=w0:=⟨_,rfl⟩
 rw [hw0]at hb0 hobj
 have k0:=hobj.cell (i:=0) (v:=.int .i64 o) rfl
 have hno0:=hno.below hb0 hno.lt
 have hobd:World.objAt w0.drew w.heap.size #[.int .i64 o,.slice a1 n1 c1,.slice a2 n2 c2,.string key,.string val,.slice a3 n3 c3] 28:=hobj
 have hnod:World.objAt w0.drew ng cs 75:=hno0
 have d0:=hobd.cell (i:=0) (v:=.int .i64 o) rfl
 have d1:=hobd.cell (i:=1) (v:=.slice a1 n1 c1) rfl
 have d2:=hobd.cell (i:=2) (v:=.slice a2 n2 c2) rfl
 have d3:=hobd.cell (i:=3) (v:=.string key) rfl
 have d4:=hobd.cell (i:=4) (v:=.string val) rfl
 have d5:=hobd.cell (i:=5) (v:=.slice a3 n3 c3) rfl
 have dn:=hnod.cell (i:=0) (v:=.pointer (some ⟨y,0,none⟩)) hcs
 have HC:=Lib.hid (hcall w0.drew hb0.drew)
 have HOD:=Lib.hid (And.intro hobd hnod)
 have HCS:=Lib.hid hcs
 clear hcall hb0 hobj hno hno0 hcs hobd hnod
 have qs:(o==1)=false∧(o==2)=false∧(o==3)=false∧(o==4)=false∧(o==5)=false∧(o==6)=false∧(o==7)=false∧(o==8)=false:=by
  rcases ho with rfl | rfl | rfl <;> decide
 obtain⟨q1,q2,q3,q4,q5,q6,q7,q8⟩:=qs
 clear ho
 go_enter Tryz.func20,Tryz.ntmps20
 go_wp2
 go_region_held3 (fun w'=>w'.cell? ⟨w.heap.size,0,none⟩=some (.int .i64 o)∧w'.cell? ⟨w.heap.size,1,none⟩=some (.slice a1 n1 c1)∧w'.cell? ⟨w.heap.size,2,none⟩=some (.slice a2 n2 c2)∧w'.cell? ⟨w.heap.size,3,none⟩=some (.string key)∧w'.cell? ⟨w.heap.size,4,none⟩=some (.string val)∧w'.cell? ⟨w.heap.size,5,none⟩=some (.slice a3 n3 c3)∧w'.cell? ⟨ng,0,none⟩=some (.pointer (some ⟨y,0,none⟩))) (first | exact⟨(hx.out.2 _ _ _ HOD.out.1 (by decide) (by decide)).cell (i:=0) rfl,(hx.out.2 _ _ _ HOD.out.1 (by decide) (by decide)).cell (i:=1) rfl,(hx.out.2 _ _ _ HOD.out.1 (by decide) (by decide)).cell (i:=2) rfl,(hx.out.2 _ _ _ HOD.out.1 (by decide) (by decide)).cell (i:=3) rfl,(hx.out.2 _ _ _ HOD.out.1 (by decide) (by decide)).cell (i:=4) rfl,(hx.out.2 _ _ _ HOD.out.1 (by decide) (by decide)).cell (i:=5) rfl,(hx.out.2 _ _ _ HOD.out.2 (by decide) (by decide)).cell (i:=0) HCS.out⟩ | exact⟨d0,d1,d2,d3,d4,d5,dn⟩) (first | (go_at_call 49;refine HC.out.mono ?_;rintro e w8 ⟨rfl,hx⟩))
 have HX:=Lib.hid hx.out.1
 clear HC hx k0 d0 d1 d2 d3 d4 d5 dn
 go_wp2
 go_ret
 exact⟨rfl,HX⟩
def OpMoves(o:Int):Prop:=o=1∨o=2∨o=3∨o=4∨o=5∨o=6∨o=7∨o=8∨o=9∨o=10∨o=11
set_option maxRecDepth 100000 in
set_option maxHeartbeats 4000000 in
theorem marksNot_any{o:Int}(ho:OpMoves o){s:Nat}(a1 a2 a3:Option Addr)(n1 c1 n2 c2 n3 c3:Nat)(key val:ByteArray)(w:World):
  Calls Tryz.prog 19 #[.pointer (some ⟨s,0,none⟩),.agg #[.int .i64 o,.slice a1 n1 c1,.slice a2 n2 c2,.string key,.string val,.slice a3 n3 c3]] w (fun e w'=>e=.returned (.bool false)∧Hid (Below w.heap.size w w')):=by
 have hb0:Below w.heap.size w (w.alloc (.cells #[.int .i64 o,.slice a1 n1 c1,.slice a2 n2 c2,.string key,.string val,.slice a3 n3 c3] 28)):=(Below.refl _ _).alloc (Nat.le_refl _) _
 have k0:(w.alloc (.cells #[.int .i64 o,.slice a1 n1 c1,.slice a2 n2 c2,.string key,.string val,.slice a3 n3 c3] 28)).cell? ⟨w.heap.size,0,none⟩=some (.int .i64 o):=cell_alloc_new' _ _ _ rfl rfl
 obtain⟨w0,hw0⟩:∃w0,w.alloc (.cells #[.int .i64 o,.slice a1 n1 c1,.slice a2 n2 c2,.string key,.string val,.slice a3 n3 c3] 28)=w0:=⟨_,rfl⟩
 rw [hw0]at hb0 k0
 have HB:=Lib.hid hb0
 clear hb0
 rcases ho with rfl | rfl | rfl | rfl | rfl | rfl | rfl | rfl | rfl | rfl | rfl
 all_goals
  go_enter Tryz.func19,Tryz.ntmps19
  go_wp2
  go_ret
  exact⟨rfl,HB⟩
end Go.Proofs.YtkdomegcacgpnaaGreat
