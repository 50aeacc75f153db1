/- Parts of a proof: ProgStep. -/
import Derived.Test.YtkdomegcacgpnaaGreatG06
import Derived.Test.YtkdomegcacgpnaaGreatG26
import Derived.Test.YtkdomegcacgpnaaGreatG35
import Derived.Test.YtkdomegcacgpnaaGreatG37
import Derived.Test.YtkdomegcacgpnaaGreatG42
import Derived.Test.YtkdomegcacgpnaaGreatG39
set_option linter.unusedVariables false
set_option linter.unusedSimpArgs false
namespace Go.Proofs.YtkdomegcacgpnaaGreat
open Go.RowKit
def StepP(u:Option Nat)(B m:Nat)(nb:Nat→Nat)(k m':Nat)(lab':Nat→NodeD)(F':Wd)(w w':World):Prop:=
 ∃nb2 v2 labP2,Hid (DomAt B w' m' nb2 v2 labP2 F')∧Hid (∀i,i<m→nb2 i=nb i)∧Hid (∀i,i<m'→LabPair k (lab' i) (labP2 i))∧Hid (Below B w w')∧Hid (∀b cs t,World.objAt w b cs t→some b≠u→t≠117→t≠119→World.objAt w' b cs t)
theorem StepP.ahead{u:Option Nat}{B m:Nat}{nb:Nat→Nat}{k m':Nat}{lab':Nat→NodeD}{F':Wd}{w w1 w':World}(hb:Below w.heap.size w w1)(hB:B≤w.heap.size)(h:StepP u B m nb k m' lab' F' w1 w'):StepP u B m nb k m' lab' F' w w':=by
 obtain⟨nb2,v2,l2,a1,a2,a3,a4,a5⟩:=h
 exact⟨nb2,v2,l2,a1,a2,a3,Lib.hid ((hb.mono hB).trans a4.out),Lib.hid (fun b cs t ho=>a5.out b cs t (ho.below hb ho.lt))⟩
theorem StepP.any{u:Option Nat}{B m:Nat}{nb:Nat→Nat}{k m':Nat}{lab':Nat→NodeD}{F':Wd}{w w':World}(h:StepP none B m nb k m' lab' F' w w'):StepP u B m nb k m' lab' F' w w':=by
 obtain⟨nb2,v2,l2,a1,a2,a3,a4,a5⟩:=h
 exact⟨nb2,v2,l2,a1,a2,a3,a4,Lib.hid (fun b cs t ho _=>a5.out b cs t ho (by simp))⟩
theorem MoveP.stepP{u:Option Nat}{B m:Nat}{nb:Nat→Nat}{v:Nat→Value}{labP:Nat→NodeD}{F:Wd}{k m':Nat}{lab' lb2:Nat→NodeD}{F':Wd}{w w':World}(hD:DomAt B w m nb v labP F)(hu:∀q,u=some q→B≤q)(hB:B≤w.heap.size)(hl:∀i,i<m'→LabPair k (lab' i) (lb2 i))(h:MoveP u B m nb m' lb2 F' w w'):StepP u B m nb k m' lab' F' w w':=by
 obtain⟨nb2,v2,a1,a2,a3,a4,wm,a5,a6⟩:=h
 refine⟨nb2,v2,lb2,a1,Lib.hid a3.out.1,Lib.hid hl,Lib.hid ((a5.out.below B hu).trans (a6.out.below B (by rw [a5.out.size];exact hB) hD.base)),Lib.hid (fun b cs t ho hne h1 h2=>?_)⟩
 have hk:=(a6.out.block b (by rw [a5.out.size];exact ho.lt) (fun i hi=>objAt_ne_node ho (hD.node i hi) h1)).trans (a5.out.block b ho.lt hne)
 unfold World.objAt at ho ⊢
 rw [hk]
 exact ho
theorem OnlyG.moveP{B m:Nat}{nb:Nat→Nat}{v:Nat→Value}{lab:Nat→NodeD}{F:Wd}{w w':World}(ho:OnlyG m nb w w')(hD:DomAt B w' m nb v lab F)(hF:WOk m F):MoveP none B m nb m lab F w w':=
 ⟨nb,v,Lib.hid hD,Lib.hid hF,Lib.hid ⟨fun _ _=>rfl,fun i h1 h2=>by omega⟩,Lib.hid (Nat.le_refl _),w,Lib.hid (OnlyRow.refl _ _),Lib.hid ho⟩
theorem OnlyN.onlyG{m:Nat}{nb:Nat→Nat}{w w':World}(h:OnlyN m nb w w'):OnlyG m nb w w':=
 (OnlyG.refl m nb w).turn h (fun _ _=>rfl) (fun i h1 h2=>by omega)
structure PreP (B:Nat) (w:World) (len m:Nat) (nb:Nat→Nat) (v:Nat→Value) (lab labP:Nat→NodeD) (F:Wd) (k:Nat) (x:StepD) (l ws:List Nat) (s S:Nat) (sv:Value) (R:Nat) (nv:Value):Prop where
 dom:DomAt B w m nb v labP F
 ok:WOk m F
 pair:∀i,i<m→LabPair k (lab i) (labP i)
 k11:k≤11
 le:len≤m
 l200:len≤200
 hl:Picks len x.on l
 l0:0<l.length
 hw:Picks len x.wi ws
 sel:SelAt w s sv (l.map nb) S
 row:w.ownsRow R 75 1 nv ws.length (ws.map fun y=>ptrV (nb y))
 sep:∀g,nv.ownBlock=some g→g≠s∧sv.ownBlock≠some g
 base:B≤R
 size:B≤w.heap.size
theorem PreP.below{B:Nat}{w w':World}{len m:Nat}{nb:Nat→Nat}{v:Nat→Value}{lab labP:Nat→NodeD}{F:Wd}{k:Nat}{x:StepD}{l ws:List Nat}{s S:Nat}{sv:Value}{R:Nat}{nv:Value}(h:PreP B w len m nb v lab labP F k x l ws s S sv R nv)(hb:Below w.heap.size w w'):PreP B w' len m nb v lab labP F k x l ws s S sv R nv:=
 ⟨h.dom.below hb,h.ok,h.pair,h.k11,h.le,h.l200,h.hl,h.l0,h.hw,h.sel.below hb,ownsRow_kept h.row (fun q hq=>hb.block q (World.ownsRow.lt h.row q hq).2),h.sep,h.base,Nat.le_trans h.size hb.size⟩
theorem PreP.facts{B:Nat}{w:World}{len m:Nat}{nb:Nat→Nat}{v:Nat→Value}{lab labP:Nat→NodeD}{F:Wd}{k:Nat}{x:StepD}{l ws:List Nat}{s S:Nat}{sv:Value}{R:Nat}{nv:Value}(h:PreP B w len m nb v lab labP F k x l ws s S sv R nv):
  (∀y∈l,y<m)∧(∀y∈ws,y<m)∧l.length≤200∧ws.length≤200∧(∀i,i<m→(labP i).kind=(lab i).kind)∧(∀i,i<m→(labP i).attrs.length≤100)∧(∀i,i<m→((labP i).kind=3↔tyOf (labP i).kind=3))∧∀q,nv.ownBlock=some q→B≤q:=
 ⟨fun y hy=>Nat.lt_of_lt_of_le (h.hl.lt y hy) h.le,fun y hy=>Nat.lt_of_lt_of_le (h.hw.lt y hy) h.le,Nat.le_trans h.hl.le h.l200,Nat.le_trans h.hw.le h.l200,fun i hi=>(h.pair i hi).kind.symm,fun i hi=>by have :=(h.pair i hi).len;have :=h.k11;omega,fun i hi=>ty_el (h.pair i hi).ok.kinds,fun q hq=>Nat.le_trans h.base (World.ownsRow.lt h.row q hq).1⟩
theorem putCall_any{B:Nat}{w:World}{len m:Nat}{nb:Nat→Nat}{v:Nat→Value}{lab labP:Nat→NodeD}{F:Wd}{k:Nat}{x:StepD}{l ws:List Nat}{s S:Nat}{sv:Value}{R:Nat}{nv:Value}(h:PreP B w len m nb v lab labP F k x l ws s S sv R nv){m':Nat}{lab':Nat→NodeD}{op':Int}{L:List Nat}{G0 F':Wd}(hop:OpT x.op op')(hap:ApartW F ws l)(hL:Fl F.kids ws L)(hM:Many op' ws L m' lab' G0 l m lab F)(hF':F'=if x.op=5 then cutsW G0 l else G0):
  ∃f,MoveFn x.op f #[.pointer (some ⟨s,0,none⟩),nv] s nv∧Calls Tryz.prog f #[.pointer (some ⟨s,0,none⟩),nv] w (fun e w'=>e=.returned (.pointer (some ⟨s,0,none⟩))∧StepP nv.ownBlock B m nb k m' lab' F' w w'):=by
 obtain⟨hll,hwl,hl2,hw2,hkd,hfit,hki,hub⟩:=h.facts
 obtain⟨lb2,src,hM2,hsrc,_⟩:=hM.relab (SideW.of h.ok hap hL h.hw.nd hwl hll) (MidW.refl h.ok L) (lb:=labP) hkd
 have hpair:∀i,i<m'→LabPair k (lab' i) (lb2 i):=fun i hi=>by
  obtain⟨a1,a2,a3⟩:=hsrc i hi
  rw [a2,a3]
  exact h.pair _ a1
 have hub2:∀rv q,rvU rv nv=some q→B≤q:=fun rv q hq=>by
  cases rv
  ·cases hq
  ·exact hub q hq
 have key:∀{rv:Bool} {cl:Value},CloIs op' rv cl→Calls Tryz.prog 80 #[.pointer (some ⟨s,0,none⟩),nv,.bool rv,cl] w (fun e w'=>e=.returned (.pointer (some ⟨s,0,none⟩))∧MoveP (rvU rv nv) B m nb m' lb2 G0 w w'):=fun{rv cl} hcl=>
  manipAny_any hcl h.dom h.ok s sv S R h.sel hll h.l0 hl2 nv h.row h.sep hwl h.hw.nd (by omega) hap hL hM2 hfit h.size
 have weak:∀{rv:Bool} {w':World},StepP (rvU rv nv) B m nb k m' lab' F' w w'→StepP nv.ownBlock B m nb k m' lab' F' w w':=fun{rv w'} hs=>by
  cases rv
  ·exact StepP.any hs
  ·exact hs
 rcases hop with ⟨h1,h2⟩ | ⟨h1,h2⟩ | ⟨h1,h2⟩ | ⟨h1,h2⟩ | ⟨h1,h2⟩
 ·rw [if_neg (by omega)]at hF'
  subst hF' h2
  exact⟨_,.inl ⟨h1,rfl,rfl⟩,(putAppend (X:=fun e w'=>MoveP (rvU false nv) B m nb m' lb2 F' w w') s nv w (key (.inl ⟨rfl,rfl,rfl⟩))).mono fun e w' hh=>⟨hh.1,weak (hh.2.stepP h.dom (hub2 _) h.size hpair)⟩⟩
 ·rw [if_neg (by omega)]at hF'
  subst hF' h2
  exact⟨_,.inr (.inl ⟨h1,rfl,rfl⟩),(putPrepend (X:=fun e w'=>MoveP (rvU true nv) B m nb m' lb2 F' w w') s nv w (key (.inr (.inr (.inl ⟨rfl,rfl,rfl⟩))))).mono fun e w' hh=>⟨hh.1,weak (hh.2.stepP h.dom (hub2 _) h.size hpair)⟩⟩
 ·rw [if_neg (by omega)]at hF'
  subst hF' h2
  exact⟨_,.inr (.inr (.inl ⟨h1,rfl,rfl⟩)),(putAfter (X:=fun e w'=>MoveP (rvU true nv) B m nb m' lb2 F' w w') s nv w (key (.inr (.inr (.inr ⟨rfl,rfl,rfl⟩))))).mono fun e w' hh=>⟨hh.1,weak (hh.2.stepP h.dom (hub2 _) h.size hpair)⟩⟩
 ·rw [if_neg (by omega)]at hF'
  subst hF' h2
  exact⟨_,.inr (.inr (.inr (.inl ⟨h1,rfl,rfl⟩))),(putBefore (X:=fun e w'=>MoveP (rvU false nv) B m nb m' lb2 F' w w') s nv w (key (.inr (.inl ⟨rfl,rfl,rfl⟩)))).mono fun e w' hh=>⟨hh.1,weak (hh.2.stepP h.dom (hub2 _) h.size hpair)⟩⟩
 ·rw [if_pos h1]at hF'
  subst hF' h2
  have ha:=putAfter (X:=fun e w'=>MoveP (rvU true nv) B m nb m' lb2 G0 w w') s nv w (key (.inr (.inr (.inr ⟨rfl,rfl,rfl⟩))))
  have hr:=replG_any s sv S h.dom h.sel hll hl2 nv h.sep ha
  exact⟨_,.inr (.inr (.inr (.inr (.inl ⟨h1,rfl,rfl⟩)))),hr.mono fun e w' hh=>⟨hh.1,weak (hh.2.stepP h.dom (hub2 _) h.size hpair)⟩⟩
theorem PreP.open{B:Nat}{w:World}{len m:Nat}{nb:Nat→Nat}{v:Nat→Value}{lab labP:Nat→NodeD}{F:Wd}{k:Nat}{x:StepD}{l ws:List Nat}{s S:Nat}{sv:Value}{R:Nat}{nv:Value}(h:PreP B w len m nb v lab labP F k x l ws s S sv R nv):
  ∃g cap d,sv=.slice (some ⟨g,0,none⟩) l.length cap∧w.cell? ⟨s,0,none⟩=some (.slice (some ⟨g,0,none⟩) l.length cap)∧w.cell? ⟨s,1,none⟩=some (.pointer (some ⟨d,0,none⟩))∧(∀i,i<l.length→w.cell? ⟨g,i,none⟩=some (.pointer (some ⟨nb (l.getD i 0),0,none⟩)))∧(∀i,i<m→g≠nb i)∧∀i,i<m→(v i).ownBlock≠some g:=by
 have hown:w.ownsRow S 75 1 sv l.length (l.map fun y=>ptrV (nb y)):=by
  have h1:=h.sel.own
  unfold OwnPtrs at h1
  rw [List.length_map,List.map_map]at h1
  exact h1
 have c0:=h.sel.nodes
 obtain⟨d,cd⟩:=h.sel.doc
 have hl0:=h.l0
 obtain⟨sa,scap,rfl⟩:=ownsRow_slice hown
 obtain⟨sg,rfl⟩:∃sg,sa=some ⟨sg,0,none⟩:=by
  rcases hown.2 with ⟨_,h2⟩ | ⟨g0,c0_,cur,hv_,_⟩
  ·omega
  ·simp at hv_;exact⟨g0,hv_.1⟩
 exact⟨sg,scap,d,rfl,c0,cd,own_nodes hown,row_ne h.dom hown,fun i hi hb=>own_ne_own (h.dom.own i hi) hown (by decide) hb rfl⟩
theorem remCall_any{B:Nat}{w:World}{len m:Nat}{nb:Nat→Nat}{v:Nat→Value}{lab labP:Nat→NodeD}{F:Wd}{k:Nat}{x:StepD}{l ws:List Nat}{s S:Nat}{sv:Value}{R:Nat}{nv:Value}(h:PreP B w len m nb v lab labP F k x l ws s S sv R nv):
  Calls Tryz.prog 46 #[.pointer (some ⟨s,0,none⟩)] w (fun e w'=>e=.returned (.pointer (some ⟨s,0,none⟩))∧StepP none B m nb k m lab (cutsW F l) w w'):=by
 obtain⟨hll,hwl,hl2,hw2,hkd,hfit,hki,hub⟩:=h.facts
 obtain⟨g,cap,d,_,c0,c1,cr,hg,_⟩:=h.open
 refine(removeG_any h.dom h.ok s l c0 (fun _=>rfl) cr (fun _=>hg) hll hl2).mono ?_
 rintro e w' ⟨he,hd,ho⟩
 exact⟨he,((OnlyN.onlyG ho.out).moveP hd.out (h.ok.cuts l)).stepP h.dom (fun q hq=>by cases hq) h.size h.pair⟩
theorem emptyCall_any{B:Nat}{w:World}{len m:Nat}{nb:Nat→Nat}{v:Nat→Value}{lab labP:Nat→NodeD}{F:Wd}{k:Nat}{x:StepD}{l ws:List Nat}{s S:Nat}{sv:Value}{R:Nat}{nv:Value}(h:PreP B w len m nb v lab labP F k x l ws s S sv R nv)(h6:m≤600):
  Calls Tryz.prog 47 #[.pointer (some ⟨s,0,none⟩)] w (fun e w'=>(∃q,e=.returned (.pointer (some ⟨q,0,none⟩)))∧StepP none B m nb k m lab (emptW F l) w w'):=by
 obtain⟨hll,hwl,hl2,hw2,hkd,hfit,hki,hub⟩:=h.facts
 obtain⟨g,cap,d,_,c0,c1,cr,hg,_⟩:=h.open
 refine(emptyG_any h.dom h.ok h6 s l c0 c1 (fun _=>rfl) cr (fun _=>hg) hll hl2).mono ?_
 rintro e w' ⟨he,hd,ho⟩
 exact⟨he,(ho.out.moveP hd.out (h.ok.empt l)).stepP h.dom (fun q hq=>by cases hq) h.size h.pair⟩
theorem unwCall_any{B:Nat}{w:World}{len m:Nat}{nb:Nat→Nat}{v:Nat→Value}{lab labP:Nat→NodeD}{F:Wd}{k:Nat}{x:StepD}{l ws:List Nat}{s S:Nat}{sv:Value}{R:Nat}{nv:Value}(h:PreP B w len m nb v lab labP F k x l ws s S sv R nv)(h6:m≤600){F':Wd}(hg:∀y∈l,UnwGood lab F y)(hU:Unws F' (onceF (l.map (parK F))) F):
  Calls Tryz.prog 48 #[.pointer (some ⟨s,0,none⟩)] w (fun e w'=>e=.returned (.pointer (some ⟨s,0,none⟩))∧StepP none B m nb k m lab F' w w'):=by
 obtain⟨hll,hwl,hl2,hw2,hkd,hfit,hki,hub⟩:=h.facts
 have hgP:∀y∈l,UnwGood labP F y:=fun y hy=>by
  obtain⟨p,g,a1,a2,a3,a4⟩:=hg y hy
  have hpm:=(h.ok.lt p y ((h.ok.iff p y).2 a1)).1
  exact⟨p,g,a1,a2,by rw [hkd p hpm];exact a3,by rw [←(h.pair p hpm).tag];exact a4⟩
 refine(unwrapG_any s sv l w h.sel h.dom h.ok h6 hl2 h.l0 hgP).mono ?_
 rintro e w' ⟨he,G2,h1,h2,h3,h4⟩
 have e2:G2=F':=h1.out.det h.ok hU
 subst e2
 exact⟨he,(h4.out.moveP h3.out h2.out).stepP h.dom (fun q hq=>by cases hq) h.size h.pair⟩
theorem wrapCall_any{B:Nat}{w:World}{len m:Nat}{nb:Nat→Nat}{v:Nat→Value}{lab labP:Nat→NodeD}{F:Wd}{k:Nat}{x:StepD}{l ws:List Nat}{s S:Nat}{sv:Value}{R:Nat}{nv:Value}(h:PreP B w len m nb v lab labP F k x l ws s S sv R nv){wd:Nat}{L:List Nat}{m':Nat}{lab':Nat→NodeD}{F':Wd}(hop:x.op=9∨x.op=10∨x.op=11)(h6:m'≤600)(hL:Fl F.kids [wd] L)(hin:InnerOk x.op lab F wd l)(hs:WgSide m F wd L (grpsOf x.op F l))(hk:(lab wd).kind=3)(hW:WrapsG wd L m' lab' F' (grpsOf x.op F l) m lab F):
  ∃f,((x.op=9∧f=93)∨(x.op=10∧f=94)∨(x.op=11∧f=95))∧Calls Tryz.prog f #[.pointer (some ⟨s,0,none⟩),.pointer (some ⟨nb wd,0,none⟩)] w (fun e w'=>e=.returned (.pointer (some ⟨s,0,none⟩))∧StepP none B m nb k m' lab' F' w w'):=by
 obtain⟨hll,hwl,hl2,hw2,hkd,hfit,hki,hub⟩:=h.facts
 have hmid:WgMid m F lab L (grpsOf x.op F l) m lab F:=⟨h.ok,Nat.le_refl _,fun _ _ _=>rfl,fun _ _=>rfl,fun _ _=>rfl⟩
 obtain⟨lb2,src,hW2,hsrc,_⟩:=hW.relab hs hmid (lb:=labP) hkd
 have hpair:∀i,i<m'→LabPair k (lab' i) (lb2 i):=fun i hi=>by
  obtain⟨a1,a2,a3⟩:=hsrc i hi
  rw [a2,a3]
  exact h.pair _ a1
 have hwm:wd<m:=hs.cp.lt wd (hs.cp.ws wd (by simp))
 have hkP:(labP wd).kind=3:=by rw [hkd wd hwm];exact hk
 have fin:∀{f:FuncId},Calls Tryz.prog f #[.pointer (some ⟨s,0,none⟩),.pointer (some ⟨nb wd,0,none⟩)] w (fun e w'=>e=.returned (.pointer (some ⟨s,0,none⟩))∧Hid (MoveP none B m nb m' lb2 F' w w'))→Calls Tryz.prog f #[.pointer (some ⟨s,0,none⟩),.pointer (some ⟨nb wd,0,none⟩)] w (fun e w'=>e=.returned (.pointer (some ⟨s,0,none⟩))∧StepP none B m nb k m' lab' F' w w'):=fun hc=>hc.mono fun e w' hh=>⟨hh.1,hh.2.out.stepP h.dom (fun q hq=>by cases hq) h.size hpair⟩
 rcases hop with ho | ho | ho <;> rw [ho]at hs hW2 hin
 ·exact⟨_,.inl ⟨ho,rfl⟩,fin (wrapNodeG_any h.dom h.sel hki hfit hs hL hkP hW2 h6 hll h.l0 hl2 h.size)⟩
 ·exact⟨_,.inr (.inl ⟨ho,rfl⟩),fin (wrapAllStep_any h.dom h.sel hki hfit hs hL hkP hW2 hl2 h.size)⟩
 ·refine⟨_,.inr (.inr ⟨ho,rfl⟩),fin (wrapInnerG_any h.dom h.sel hki hfit hs hL hkP (fun _ y hy=>?_) hW2 h6 hll h.l0 hl2 h.size)⟩
  obtain⟨a1,a2,a3⟩:=hin rfl y hy
  exact⟨by rw [hkd y (hll y hy)];exact a1,a2,a3⟩
theorem progMoves_any{B:Nat}{w:World}{len m:Nat}{nb:Nat→Nat}{v:Nat→Value}{lab labP:Nat→NodeD}{F:Wd}{k:Nat}{x:StepD}{l ws:List Nat}{s S:Nat}{sv:Value}{R:Nat}{na:Option Addr}{nn nc:Nat}(h:PreP B w len m nb v lab labP F k x l ws s S sv R (.slice na nn nc)){m':Nat}{lab':Nat→NodeD}{F':Wd}(h6:m'≤600)(hS:StepR len x l ws m lab F m' lab' F')(hop:OpMoves x.op)(a1 a2 a3:Option Addr)(n1 c1 n2 c2 n3 c3:Nat):
  Calls Tryz.prog 20 #[.pointer (some ⟨s,0,none⟩),.agg #[.int .i64 x.op,.slice a1 n1 c1,.slice a2 n2 c2,.string x.key,.string x.val,.slice a3 n3 c3],.slice na nn nc] w (fun e w'=>e=.returned (.bool true)∧Hid (StepP (Value.slice na nn nc).ownBlock B m nb k m' lab' F' w w')):=by
 have hm6:m≤600:=Nat.le_trans (hS.ok h.ok h.le h.hl h.hw).2.1 h6
 have lift:∀{u:Option Nat} {w1 w':World},Below w.heap.size w w1→StepP u B m nb k m' lab' F' w1 w'→StepP u B m nb k m' lab' F' w w':=fun hb hs=>hs.ahead hb h.size
 cases hS with
 | @put op' L G0 hop2 hne hap h5 hsp hL hM hF'=>
  obtain⟨f,hf,_⟩:=putCall_any h hop2 hap hL hM hF'
  refine moves_any hf a1 a2 a3 n1 c1 n2 c2 n3 c3 x.key x.val w (fun w1 hb=>?_)
  obtain⟨f2,hf2,hc⟩:=putCall_any (h.below hb) hop2 hap hL hM hF'
  have e:f2=f:=by
   rcases hf with ⟨g1,g2,_⟩ | ⟨g1,g2,_⟩ | ⟨g1,g2,_⟩ | ⟨g1,g2,_⟩ | ⟨g1,g2,_⟩ | ⟨g1,g2,g3⟩ | ⟨g1,g2,g3⟩ | ⟨g1,g2,g3⟩ <;> rcases hf2 with ⟨k1,k2,_⟩ | ⟨k1,k2,_⟩ | ⟨k1,k2,_⟩ | ⟨k1,k2,_⟩ | ⟨k1,k2,_⟩ | ⟨k1,k2,_⟩ | ⟨k1,k2,_⟩ | ⟨k1,k2,_⟩ <;> first | exact k2.trans g2.symm | (exfalso;omega)
  rw [←e]
  exact hc.mono fun e w' hh=>⟨⟨_,hh.1⟩,Lib.hid (lift hb hh.2)⟩
 | rem hop2 hm hlb hF'=>
  subst hm hlb hF'
  refine moves_any (.inr (.inr (.inr (.inr (.inr (.inl ⟨hop2,rfl,rfl⟩)))))) a1 a2 a3 n1 c1 n2 c2 n3 c3 x.key x.val w (fun w1 hb=>?_)
  exact(remCall_any (h.below hb)).mono fun e w' hh=>⟨⟨_,hh.1⟩,Lib.hid (lift hb hh.2.any)⟩
 | empty hop2 hm hlb hk hF'=>
  subst hm hlb hF'
  refine moves_any (.inr (.inr (.inr (.inr (.inr (.inr (.inl ⟨hop2,rfl,rfl⟩))))))) a1 a2 a3 n1 c1 n2 c2 n3 c3 x.key x.val w (fun w1 hb=>?_)
  exact(emptyCall_any (h.below hb) hm6).mono fun e w' hh=>⟨hh.1,Lib.hid (lift hb hh.2.any)⟩
 | unw hop2 hm hlb hg hU=>
  subst hm hlb
  refine moves_any (.inr (.inr (.inr (.inr (.inr (.inr (.inr ⟨hop2,rfl,rfl⟩))))))) a1 a2 a3 n1 c1 n2 c2 n3 c3 x.key x.val w (fun w1 hb=>?_)
  exact(unwCall_any (h.below hb) hm6 hg hU).mono fun e w' hh=>⟨⟨_,hh.1⟩,Lib.hid (lift hb hh.2.any)⟩
 | @wrap wd L hop2 hwd hL hin hs hk hW=>
  have hrow:=h.row
  rw [hwd]at hrow
  obtain⟨na',cap,hnv,_⟩:∃na' cap,Value.slice na nn nc=.slice na' 1 cap∧True:=by
   obtain⟨q1,q2,q3⟩:=ownsRow_slice hrow
   exact⟨q1,q2,q3,trivial⟩
  simp only [Value.slice.injEq]at hnv
  obtain⟨rfl,rfl,rfl⟩:=hnv
  obtain⟨ng,cap2,cur,hv2,hheap⟩:∃ng cap2 cur,(Value.slice na 1 nc)=.slice (some ⟨ng,0,none⟩) 1 cap2∧World.objAt w ng cur 75:=by
   rcases hrow.2 with ⟨_,h2⟩ | ⟨g0,c0_,cur,hv_,hb_,hg_,_⟩
   ·simp at h2
   ·exact⟨g0,c0_,cur,hv_,hg_⟩
  simp only [Value.slice.injEq]at hv2
  obtain⟨rfl,_,rfl⟩:=hv2
  have hcs:cur[0]? =some (.pointer (some ⟨nb wd,0,none⟩)):=by
   have h1:=own_nodes hrow 0 (by simp)
   unfold World.objAt at hheap
   have h2:w.cell? ⟨ng,0,none⟩=cur[0]? :=by simp [World.cell?,hheap]
   rw [h2]at h1
   exact h1
  refine movesWrap_any hop2 a1 a2 a3 n1 c1 n2 c2 n3 c3 x.key x.val w hheap hcs (fun w1 hb=>?_)
  obtain⟨f,hf,_⟩:=wrapCall_any (h.below hb) hop2 h6 hL hin hs hk hW
  refine(wraps_any (X:=fun w'=>StepP none B m nb k m' lab' F' w1 w') hf s (nb wd) a1 a2 a3 n1 c1 n2 c2 n3 c3 x.key x.val w1 (fun w2 hb2=>?_)).mono ?_
  ·obtain⟨f2,hf2,hc⟩:=wrapCall_any ((h.below hb).below hb2) hop2 h6 hL hin hs hk hW
   have e:f2=f:=by
    rcases hf with ⟨g1,g2⟩ | ⟨g1,g2⟩ | ⟨g1,g2⟩ <;> rcases hf2 with ⟨k1,k2⟩ | ⟨k1,k2⟩ | ⟨k1,k2⟩ <;> first | exact k2.trans g2.symm | (exfalso;omega)
   rw [←e]
   exact hc.mono fun e w' hh=>⟨hh.1,Lib.hid (hh.2.ahead hb2 (h.below hb).size)⟩
  ·rintro e w' ⟨he,hx⟩
   refine⟨he,Lib.hid ⟨lift hb hx.out.any,fun b cs t ho q1 q2=>?_⟩⟩
   obtain⟨_,_,_,_,_,_,_,h5⟩:=hx.out
   exact h5.out b cs t ho (by simp) q1 q2
 | attr hm hF' hk hn hky hA=>
  exfalso
  have h0:=getD_mem' (d:=0) h.l0
  have :=(hA _).2 h0
  unfold OpMoves at hop
  rcases this with ⟨q,_⟩ | ⟨q,_⟩ | ⟨q,_⟩ <;> omega
end Go.Proofs.YtkdomegcacgpnaaGreat
