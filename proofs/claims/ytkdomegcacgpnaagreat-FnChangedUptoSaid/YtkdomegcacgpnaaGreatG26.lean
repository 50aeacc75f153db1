/- Parts of a proof: WrapDoor, WrapStepG. -/
import Derived.Test.YtkdomegcacgpnaaGreatG06
import Derived.Test.YtkdomegcacgpnaaGreatG17
import Derived.Test.YtkdomegcacgpnaaGreatG25
set_option linter.unusedVariables false
set_option linter.unusedSimpArgs false
namespace Go.Proofs.YtkdomegcacgpnaaGreat
open Go.RowKit
set_option maxRecDepth 100000 in
set_option maxHeartbeats 1000000 in
theorem wrapNodes_any{X:World→Prop}(s g y:Nat)(w:World)(hg:g<w.heap.size)(cg:w.cell? ⟨g,0,none⟩=some (.pointer (some ⟨y,0,none⟩)))
  (hE:∀w1 box,Below w.heap.size w w1→w.heap.size≤box→w1.cell? ⟨box,0,none⟩=some (.slice (some ⟨g,0,none⟩) 1 1)→w1.cell? ⟨g,0,none⟩=some (.pointer (some ⟨y,0,none⟩))→Calls Tryz.prog 89 #[.pointer (some ⟨s,0,none⟩),.func (.func 143) #[] #[.pointer (some ⟨box,0,none⟩)]] w1 (fun e w'=>e=.returned (.pointer (some ⟨s,0,none⟩))∧Hid (X w'))):
  Calls Tryz.prog 131 #[.pointer (some ⟨s,0,none⟩),.slice (some ⟨g,0,none⟩) 1 1] w (fun e w'=>e=.returned (.pointer (some ⟨s,0,none⟩))∧Hid (X w')):=by
 have HE:=Lib.hid hE
 have HCG:=Lib.hid cg
 have hmf:∀(fn:Fn) (first cap:Array Value) (w:World),(Instr.makeFunc fn first cap).run Tryz.prog w=.ok (.func fn first cap) w:=fun _ _ _ _=>rfl
 clear hE cg
 go_enter Tryz.func131,Tryz.ntmps131
 go_wp2_with fail
 refine(HE.out _ w.heap.size ((Below.refl _ _).alloc (Nat.le_refl _) _) (Nat.le_refl _) (cell_alloc_new' _ _ _ rfl rfl) (cell_alloc_old HCG.out _)).mono ?_
 rintro e w1 ⟨rfl,hx⟩
 clear HE
 go_wp2
 go_ret
 exact⟨rfl,hx⟩
set_option maxRecDepth 100000 in
set_option maxHeartbeats 1000000 in
theorem wrapNode_any{X:World→Prop}(s y:Nat)(w:World)
  (hE:∀w1 g box,Below w.heap.size w w1→w.heap.size≤g→w.heap.size≤box→w1.cell? ⟨box,0,none⟩=some (.slice (some ⟨g,0,none⟩) 1 1)→w1.cell? ⟨g,0,none⟩=some (.pointer (some ⟨y,0,none⟩))→Calls Tryz.prog 89 #[.pointer (some ⟨s,0,none⟩),.func (.func 143) #[] #[.pointer (some ⟨box,0,none⟩)]] w1 (fun e w'=>e=.returned (.pointer (some ⟨s,0,none⟩))∧Hid (X w'))):
  Calls Tryz.prog 93 #[.pointer (some ⟨s,0,none⟩),.pointer (some ⟨y,0,none⟩)] w (fun e w'=>e=.returned (.pointer (some ⟨s,0,none⟩))∧Hid (X w')):=by
 have hw:∀w0,Below w.heap.size w w0→w0.heap.size=w.heap.size+1→w0.cell? ⟨w.heap.size,0,none⟩=some (.pointer (some ⟨y,0,none⟩))→Calls Tryz.prog 131 #[.pointer (some ⟨s,0,none⟩),.slice (some ⟨w.heap.size,0,none⟩) 1 1] w0 (fun e w'=>e=.returned (.pointer (some ⟨s,0,none⟩))∧Hid (X w')):=fun w0 hb hs hc=>
  wrapNodes_any s w.heap.size y w0 (by omega) hc (fun w1 box hb1 hbox c1 c2=>hE w1 _ _ (hb.trans (hb1.mono hb.size)) (Nat.le_refl _) (by omega) c1 c2)
 have HW:=Lib.hid hw
 clear hw hE
 go_enter Tryz.func93,Tryz.ntmps93
 go_wp2_with fail
 refine(HW.out _ ((Below.refl _ _).alloc (Nat.le_refl _) _) (by simp) (cell_alloc_new' _ _ _ rfl rfl)).mono ?_
 rintro e w1 ⟨rfl,hx⟩
 clear HW
 go_wp2
 go_ret
 exact⟨rfl,hx⟩
set_option maxRecDepth 100000 in
set_option maxHeartbeats 1000000 in
theorem wrapInnerNodes_any{X:World→Prop}(s g y:Nat)(w:World)(hg:g<w.heap.size)(cg:w.cell? ⟨g,0,none⟩=some (.pointer (some ⟨y,0,none⟩)))
  (hE:∀w1 box,Below w.heap.size w w1→w.heap.size≤box→w1.cell? ⟨box,0,none⟩=some (.slice (some ⟨g,0,none⟩) 1 1)→w1.cell? ⟨g,0,none⟩=some (.pointer (some ⟨y,0,none⟩))→Calls Tryz.prog 89 #[.pointer (some ⟨s,0,none⟩),.func (.func 145) #[] #[.pointer (some ⟨box,0,none⟩)]] w1 (fun e w'=>e=.returned (.pointer (some ⟨s,0,none⟩))∧Hid (X w'))):
  Calls Tryz.prog 134 #[.pointer (some ⟨s,0,none⟩),.slice (some ⟨g,0,none⟩) 1 1] w (fun e w'=>e=.returned (.pointer (some ⟨s,0,none⟩))∧Hid (X w')):=by
 have HE:=Lib.hid hE
 have HCG:=Lib.hid cg
 have hmf:∀(fn:Fn) (first cap:Array Value) (w:World),(Instr.makeFunc fn first cap).run Tryz.prog w=.ok (.func fn first cap) w:=fun _ _ _ _=>rfl
 clear hE cg
 go_enter Tryz.func134,Tryz.ntmps134
 go_wp2_with fail
 refine(HE.out _ w.heap.size ((Below.refl _ _).alloc (Nat.le_refl _) _) (Nat.le_refl _) (cell_alloc_new' _ _ _ rfl rfl) (cell_alloc_old HCG.out _)).mono ?_
 rintro e w1 ⟨rfl,hx⟩
 clear HE
 go_wp2
 go_ret
 exact⟨rfl,hx⟩
set_option maxRecDepth 100000 in
set_option maxHeartbeats 1000000 in
theorem wrapInnerNode_any{X:World→Prop}(s y:Nat)(w:World)
  (hE:∀w1 g box,Below w.heap.size w w1→w.heap.size≤g→w.heap.size≤box→w1.cell? ⟨box,0,none⟩=some (.slice (some ⟨g,0,none⟩) 1 1)→w1.cell? ⟨g,0,none⟩=some (.pointer (some ⟨y,0,none⟩))→Calls Tryz.prog 89 #[.pointer (some ⟨s,0,none⟩),.func (.func 145) #[] #[.pointer (some ⟨box,0,none⟩)]] w1 (fun e w'=>e=.returned (.pointer (some ⟨s,0,none⟩))∧Hid (X w'))):
  Calls Tryz.prog 95 #[.pointer (some ⟨s,0,none⟩),.pointer (some ⟨y,0,none⟩)] w (fun e w'=>e=.returned (.pointer (some ⟨s,0,none⟩))∧Hid (X w')):=by
 have hw:∀w0,Below w.heap.size w w0→w0.heap.size=w.heap.size+1→w0.cell? ⟨w.heap.size,0,none⟩=some (.pointer (some ⟨y,0,none⟩))→Calls Tryz.prog 134 #[.pointer (some ⟨s,0,none⟩),.slice (some ⟨w.heap.size,0,none⟩) 1 1] w0 (fun e w'=>e=.returned (.pointer (some ⟨s,0,none⟩))∧Hid (X w')):=fun w0 hb hs hc=>
  wrapInnerNodes_any s w.heap.size y w0 (by omega) hc (fun w1 box hb1 hbox c1 c2=>hE w1 _ _ (hb.trans (hb1.mono hb.size)) (Nat.le_refl _) (by omega) c1 c2)
 have HW:=Lib.hid hw
 clear hw hE
 go_enter Tryz.func95,Tryz.ntmps95
 go_wp2_with fail
 refine(HW.out _ ((Below.refl _ _).alloc (Nat.le_refl _) _) (by simp) (cell_alloc_new' _ _ _ rfl rfl)).mono ?_
 rintro e w1 ⟨rfl,hx⟩
 clear HW
 go_wp2
 go_ret
 exact⟨rfl,hx⟩
theorem ty_el{k:Int}(h:k=1∨k=2∨k=3∨k=4∨k=5):k=3↔tyOf k=3:=by
 rcases h with rfl | rfl | rfl | rfl | rfl <;> simp [tyOf]
theorem EachInvG.few{B n:Nat}{w0:World}{nb:Nat→Nat}{F:Wd}{lab0:Nat→NodeD}{wd:Nat}{L:List Nat}{rest:List (List Nat)}{n2:Nat}{lab2:Nat→NodeD}{G2:Wd}{m:Nat}{nbi:Nat→Nat}{vi:Nat→Value}{labi:Nat→NodeD}{Gi:Wd}{wr:World}(h:EachInvG B n w0 nb F lab0 wd L rest n2 lab2 G2 m nbi vi labi Gi wr):m≤n2:=by
 obtain⟨lab',hl,hw⟩:=h.wraps
 have hle:=h.mid.le
 exact(hw.ok h.side (lab0:=lab0) ⟨h.mid.ok,hle,h.mid.up,h.mid.tree,fun y hy=>by rw [hl y (by omega)];exact h.mid.lab y hy⟩).2
set_option maxRecDepth 100000 in
set_option maxHeartbeats 1000000 in
theorem innerClo_any{B n:Nat}{w0:World}{nb:Nat→Nat}{F:Wd}{lab0:Nat→NodeD}{wd:Nat}{L:List Nat}{g0:List Nat}{gs:List (List Nat)}{n2:Nat}{lab2:Nat→NodeD}{G2:Wd}{m:Nat}{nbi:Nat→Nat}{vi:Nat→Value}{labi:Nat→NodeD}{Gi:Wd}{w:World}(h:EachInvG B n w0 nb F lab0 wd L (g0::gs) n2 lab2 G2 m nbi vi labi Gi w)
  (hL:Fl F.kids [wd] L) (hkw:(lab0 wd).kind=3) (hB:B≤w0.heap.size) (hn2:n2≤600) {y:Nat} (hy:y<n) (hky:F.kids y=g0) (hg0:g0≠[]) (i:Int) {s sg d box g cap:Nat} (hO:OneAt w s sg (nb y) d) (cb:w.cell? ⟨box,0,none⟩=some (.slice (some ⟨g,0,none⟩) 1 cap)) (cr:w.cell? ⟨g,0,none⟩=some (.pointer (some ⟨nb wd,0,none⟩))):
  Calls Tryz.prog 145 #[.int .i64 i,.pointer (some ⟨s,0,none⟩),.pointer (some ⟨box,0,none⟩)] w (fun e w'=>e=.returned (.tuple #[])∧Hid (EachG B n w0 nb F lab0 wd L n2 lab2 G2 gs w')):=by
 have hm:=h.few
 have hle:=h.mid.le
 have hkg:Gi.kids y=g0:=by rw [h.keep y hy (by rw [hky];simp),hky]
 have cs:=hO.one
 rw [←h.num y hy]at cs
 have hct:=contents_any y s sg d w h.dom h.mid.ok (by omega) (by omega) hO.nodes hO.doc cs
 rw [hkg]at hct
 have hgl:g0.length≤600:=by rw [←hkg];exact Nat.le_trans (h.mid.ok.few y) (by omega)
 have hgp:0<g0.length:=List.length_pos_iff.2 hg0
 have HCT:=Lib.hid hct
 have HH:=Lib.hid (And.intro h (And.intro hL (And.intro hkw (And.intro hB hgl))))
 have HCB:=Lib.hid cb
 have HCR:=Lib.hid cr
 clear hct h hL hkw hB hgl hO cs hkg hky hg0 hn2 hm cb cr
 go_enter Tryz.func145,Tryz.ntmps145
 go_wp2_with fail
 refine HCT.out.mono ?_
 rintro e w1 ⟨s2,nv,rfl,hsel,hb⟩
 have c2:=hsel.out.nodes
 have ho2:=hsel.out.own
 unfold OwnPtrs at ho2
 rw [List.length_map]at ho2
 obtain⟨na,nc,rfl⟩:=ownsRow_slice ho2
 have cb1:=cell_below hb.out HCB.out
 have cr1:=cell_below hb.out HCR.out
 have hcall:=(HH.out.1.below hb.out).call HH.out.2.1 HH.out.2.2.1 HH.out.2.2.2.1 HH.out.2.2.2.2 hsel.out
 have HW:=Lib.hid (wrapAllNodes_one s2 g cap _ w1 cr1 hcall)
 have HSZ:=Lib.hid (size_any s2 _ _ _ w1 c2)
 have hgI:(g0.length:Int)>0:=by omega
 clear hcall cr1 ho2 hsel hb HCT HH HCB HCR
 go_wp2_with fail
 refine HSZ.out.mono ?_
 rintro e w3 ⟨rfl,rfl⟩
 clear HSZ
 go_wp2_with fail
 refine HW.out.mono ?_
 rintro e w4 ⟨rfl,hx⟩
 clear HW
 go_wp2
 go_end0
 exact⟨rfl,hx⟩
def grpAt(op:Int)(F:Wd)(x:Nat):List Nat:=if op=11 then F.kids x else [x]
theorem grpsOf_map{op:Int}{F:Wd}{xs:List Nat}(h:op≠10):grpsOf op F xs=xs.map (grpAt op F):=by
 unfold grpsOf grpAt
 rw [if_neg h]
 split <;> rfl
theorem drop_map{op:Int}{F:Wd}{xs:List Nat}{i:Nat}(h:i<xs.length):(xs.drop i).map (grpAt op F)=grpAt op F (xs.getD i 0)::(xs.drop (i+1)).map (grpAt op F):=by
 rw [drop_cons h,List.map_cons]
theorem MoveP.ahead{B n:Nat}{nb:Nat→Nat}{n2:Nat}{lab2:Nat→NodeD}{G2:Wd}{w w1 w':World}(hb:Below w.heap.size w w1)(h:MoveP none B n nb n2 lab2 G2 w1 w'):MoveP none B n nb n2 lab2 G2 w w':=by
 obtain⟨nb2,v2,a1,a2,a3,a4,wm,a5,a6⟩:=h
 exact⟨nb2,v2,a1,a2,Lib.hid ⟨a3.out.1,fun i h1 h2=>Nat.le_trans hb.size (a3.out.2 i h1 h2)⟩,a4,w,Lib.hid (OnlyRow.refl _ _),Lib.hid (((OnlyG.refl n nb w).of_below hb).trans (OnlyRow.only a5.out a6.out))⟩
theorem getD_map_nb{nb:Nat→Nat}{xs:List Nat}{i:Nat}(h:i<xs.length):(xs.map nb).getD i 0=nb (xs.getD i 0):=by
 simp [List.getD,h]
theorem eachG_any{op:Int}{f:FuncId}(hf:(op=9∧f=143)∨(op=11∧f=145)){B n:Nat}{w:World}{nb:Nat→Nat}{v:Nat→Value}{lab:Nat→NodeD}{F:Wd}(h:DomAt B w n nb v lab F){s S:Nat}{sv:Value}{xs:List Nat}(hs:SelAt w s sv (xs.map nb) S)
  (hki:∀i,i<n→((lab i).kind=3↔tyOf (lab i).kind=3)) (hfit:∀i,i<n→(lab i).attrs.length≤100) {wd:Nat} {L:List Nat} (hside:WgSide n F wd L (grpsOf op F xs)) (hL:Fl F.kids [wd] L) (hkw:(lab wd).kind=3) (hin:InnerOk op lab F wd xs) {n2:Nat} {lab2:Nat→NodeD} {G2:Wd} (hW:WrapsG wd L n2 lab2 G2 (grpsOf op F xs) n lab F) (hn2:n2≤600) (hxs:∀x∈xs,x<n) (hx0:0<xs.length) (hxl:xs.length≤200) (hB:B≤w.heap.size)
  {box g cap:Nat} (cb:w.cell? ⟨box,0,none⟩=some (.slice (some ⟨g,0,none⟩) 1 cap)) (cr:w.cell? ⟨g,0,none⟩=some (.pointer (some ⟨nb wd,0,none⟩))) (hbn:∀i,i<n→box≠nb i∧g≠nb i):
  Calls Tryz.prog 89 #[.pointer (some ⟨s,0,none⟩),.func (.func f) #[] #[.pointer (some ⟨box,0,none⟩)]] w (fun e w'=>e=.returned (.pointer (some ⟨s,0,none⟩))∧Hid (MoveP none B n nb n2 lab2 G2 w w')):=by
 have hop:op≠10:=by rcases hf with ⟨rfl,_⟩ | ⟨rfl,_⟩ <;> decide
 rw [grpsOf_map hop]at hside hW
 have hown:w.ownsRow S 75 1 sv xs.length (xs.map fun y=>ptrV (nb y)):=by
  have h1:=hs.own
  unfold OwnPtrs at h1
  rw [List.length_map,List.map_map]at h1
  exact h1
 have c0:=hs.nodes
 obtain⟨d,cd⟩:=hs.doc
 obtain⟨sa,scap,rfl⟩:=ownsRow_slice hown
 obtain⟨sg,rfl⟩:∃sg,sa=some ⟨sg,0,none⟩:=by
  rcases hown.2 with ⟨_,h2⟩ | ⟨g0,c0_,cur,hv_,_⟩
  ·omega
  ·simp at hv_;exact⟨g0,hv_.1⟩
 have hsn:=sel_ne h c0
 have hgn:=row_ne h hown
 have hkeep:∀(w9:World),OnlyG n nb w w9→∀(q o:Nat) (u:Value),(∀i,i<n→q≠nb i)→w.cell? ⟨q,o,none⟩=some u→w9.cell? ⟨q,o,none⟩=some u:=fun w9 ho q o u hq hc=>(World.cell?_of_block (ho.block q (World.block_lt_of_cell? w _ hc) hq)).trans hc
 have hea:=each_any (X:=fun i w'=>EachG B n w nb F lab wd L n2 lab2 G2 ((xs.drop i).map (grpAt op F)) w') (f:=f) (box:=box) (hf.imp (·.2) (·.2)) s sg scap d (xs.map nb) w (by rw [List.length_map];exact c0) (by simpa using hxl) (.start h hside hki hfit hW) (fun i w' hX hi=>by
  obtain⟨m,nbi,vi,labi,Gi,hinv⟩:=hX
  have hi':i<xs.length:=by simpa using hi
  refine⟨hkeep w' hinv.only s 1 _ hsn cd,?_⟩
  rw [getD_map_nb hi']
  exact hkeep w' hinv.only sg i _ hgn (own_nodes hown i hi')) (fun i w1 w2 hi hX hO hb=>by
  obtain⟨m,nbi,vi,labi,Gi,hinv⟩:=hX
  have hi':i<xs.length:=by simpa using hi
  rw [drop_map hi']at hinv
  rw [getD_map_nb hi']at hO
  have hxm:=getD_mem' (d:=0) hi'
  obtain⟨x,hx⟩:∃x,xs.getD i 0=x:=⟨_,rfl⟩
  rw [hx]at hinv hO hxm
  have hxn:=hxs x hxm
  have hi2:=hinv.below hb
  have cb2:=hkeep w2 hi2.only box 0 _ (fun i hi=>(hbn i hi).1) cb
  have cr2:=hkeep w2 hi2.only g 0 _ (fun i hi=>(hbn i hi).2) cr
  rcases hf with ⟨rfl,rfl⟩ | ⟨rfl,rfl⟩
  ·have hgr:grpAt 9 F x=[x]:=by unfold grpAt;rw [if_neg (by decide)]
   rw [hgr]at hi2
   rw [←hi2.num x hxn]at hO
   exact wrapClo_any (i:Int) (w1.heap.size+1) box g cap (nb wd) w2 cb2 cr2 (hi2.call hL hkw hB (by simp) (hO.sel (B:=w1.heap.size) (Nat.le_refl _) (by omega)))
  ·have hgr:grpAt 11 F x=F.kids x:=by unfold grpAt;rw [if_pos rfl]
   rw [hgr]at hi2
   exact innerClo_any hi2 hL hkw hB hn2 hxn rfl ((hin rfl) x hxm).2.1 (i:Int) hO cb2 cr2)
 refine hea.mono ?_
 rintro e w' ⟨he,hx⟩
 have h9:=hx.out
 rw [List.length_map,List.drop_length]at h9
 exact⟨he,Lib.hid h9.fin⟩
theorem wrapNodeG_any{B n:Nat}{w:World}{nb:Nat→Nat}{v:Nat→Value}{lab:Nat→NodeD}{F:Wd}(h:DomAt B w n nb v lab F){s S:Nat}{sv:Value}{xs:List Nat}(hs:SelAt w s sv (xs.map nb) S)
  (hki:∀i,i<n→((lab i).kind=3↔tyOf (lab i).kind=3)) (hfit:∀i,i<n→(lab i).attrs.length≤100) {wd:Nat} {L:List Nat} (hside:WgSide n F wd L (grpsOf 9 F xs)) (hL:Fl F.kids [wd] L) (hkw:(lab wd).kind=3) {n2:Nat} {lab2:Nat→NodeD} {G2:Wd} (hW:WrapsG wd L n2 lab2 G2 (grpsOf 9 F xs) n lab F) (hn2:n2≤600) (hxs:∀x∈xs,x<n) (hx0:0<xs.length) (hxl:xs.length≤200) (hB:B≤w.heap.size):
  Calls Tryz.prog 93 #[.pointer (some ⟨s,0,none⟩),.pointer (some ⟨nb wd,0,none⟩)] w (fun e w'=>e=.returned (.pointer (some ⟨s,0,none⟩))∧Hid (MoveP none B n nb n2 lab2 G2 w w')):=by
 have hnw:∀i,i<n→nb i<w.heap.size:=fun i hi=>World.nodeAt.lt (h.node i hi)
 refine wrapNode_any s (nb wd) w (fun w1 g box hb hg hbox cb cg=>(eachG_any (.inl ⟨rfl,rfl⟩) (h.below hb) (hs.below hb) hki hfit hside hL hkw (fun e=>by simp at e) hW hn2 hxs hx0 hxl (Nat.le_trans hB hb.size) cb cg (fun i hi=>⟨by have :=hnw i hi;omega,by have :=hnw i hi;omega⟩)).mono ?_)
 rintro e w' ⟨he,hx⟩
 exact⟨he,Lib.hid (hx.out.ahead hb)⟩
theorem wrapInnerG_any{B n:Nat}{w:World}{nb:Nat→Nat}{v:Nat→Value}{lab:Nat→NodeD}{F:Wd}(h:DomAt B w n nb v lab F){s S:Nat}{sv:Value}{xs:List Nat}(hs:SelAt w s sv (xs.map nb) S)
  (hki:∀i,i<n→((lab i).kind=3↔tyOf (lab i).kind=3)) (hfit:∀i,i<n→(lab i).attrs.length≤100) {wd:Nat} {L:List Nat} (hside:WgSide n F wd L (grpsOf 11 F xs)) (hL:Fl F.kids [wd] L) (hkw:(lab wd).kind=3) (hin:InnerOk 11 lab F wd xs) {n2:Nat} {lab2:Nat→NodeD} {G2:Wd} (hW:WrapsG wd L n2 lab2 G2 (grpsOf 11 F xs) n lab F) (hn2:n2≤600) (hxs:∀x∈xs,x<n) (hx0:0<xs.length) (hxl:xs.length≤200) (hB:B≤w.heap.size):
  Calls Tryz.prog 95 #[.pointer (some ⟨s,0,none⟩),.pointer (some ⟨nb wd,0,none⟩)] w (fun e w'=>e=.returned (.pointer (some ⟨s,0,none⟩))∧Hid (MoveP none B n nb n2 lab2 G2 w w')):=by
 have hnw:∀i,i<n→nb i<w.heap.size:=fun i hi=>World.nodeAt.lt (h.node i hi)
 refine wrapInnerNode_any s (nb wd) w (fun w1 g box hb hg hbox cb cg=>(eachG_any (.inr ⟨rfl,rfl⟩) (h.below hb) (hs.below hb) hki hfit hside hL hkw hin hW hn2 hxs hx0 hxl (Nat.le_trans hB hb.size) cb cg (fun i hi=>⟨by have :=hnw i hi;omega,by have :=hnw i hi;omega⟩)).mono ?_)
 rintro e w' ⟨he,hx⟩
 exact⟨he,Lib.hid (hx.out.ahead hb)⟩
theorem wrapAllStep_any{B n:Nat}{w:World}{nb:Nat→Nat}{v:Nat→Value}{lab:Nat→NodeD}{F:Wd}(h:DomAt B w n nb v lab F){s S:Nat}{sv:Value}{xs:List Nat}(hs:SelAt w s sv (xs.map nb) S)
  (hki:∀i,i<n→((lab i).kind=3↔tyOf (lab i).kind=3)) (hfit:∀i,i<n→(lab i).attrs.length≤100) {wd:Nat} {L:List Nat} (hside:WgSide n F wd L (grpsOf 10 F xs)) (hL:Fl F.kids [wd] L) (hkw:(lab wd).kind=3) {n2:Nat} {lab2:Nat→NodeD} {G2:Wd} (hW:WrapsG wd L n2 lab2 G2 (grpsOf 10 F xs) n lab F) (hxl:xs.length≤200) (hB:B≤w.heap.size):
  Calls Tryz.prog 94 #[.pointer (some ⟨s,0,none⟩),.pointer (some ⟨nb wd,0,none⟩)] w (fun e w'=>e=.returned (.pointer (some ⟨s,0,none⟩))∧Hid (MoveP none B n nb n2 lab2 G2 w w')):=by
 have hg:grpsOf 10 F xs=[xs]:=by unfold grpsOf;rw [if_pos rfl]
 rw [hg]at hside hW
 refine((EachInvG.start h hside hki hfit hW).call hL hkw hB (by omega) hs).mono ?_
 rintro e w' ⟨he,hx⟩
 exact⟨he,Lib.hid hx.out.fin⟩
end Go.Proofs.YtkdomegcacgpnaaGreat
