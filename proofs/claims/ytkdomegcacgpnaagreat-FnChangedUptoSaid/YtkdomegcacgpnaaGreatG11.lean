/- Parts of a proof: KnotTurn, Ints, ChosenK. -/
import Derived.Test.YtkdomegcacgpnaaGreatG08
import Derived.Test.YtkdomegcacgpnaaGreatG09
import Derived.Deep.RegionHeld3
import Derived.Test.YtkdomegcacgpnaaGreatG01
import Derived.Test.YtkdomegcacgpnaaGreatG10
import Derived.Deep.RegionLaw
set_option linter.unusedVariables false
set_option linter.unusedSimpArgs false
namespace Go.Proofs.YtkdomegcacgpnaaGreat
open Go.RowKit
theorem slice_hi{g L cap m:Nat}(h:m≤cap)(w:World):
  (Instr.sliceAt 66 (.slice (some ⟨g,0,none⟩) L cap) none (some (.int .i64 (m:Int))) none).run Tryz.prog w=.ok (.slice (some ⟨g,0,none⟩) m cap) w∧
  (Instr.slice 66 (.slice (some ⟨g,0,none⟩) L cap) none (some (.int .i64 (m:Int))) none).run Tryz.prog w=.ok (.slice (some ⟨g,0,none⟩) m cap) w:=by
 obtain⟨i0,hi,hz0,hz1,hz2⟩:=info_parts Tryz.infoKnotP
 have hmI:(m:Int)≤(cap:Int):=by omega
 have h1:(Instr.slice 66 (.slice (some ⟨g,0,none⟩) L cap) none (some (.int .i64 (m:Int))) none).run Tryz.prog w=.ok (.slice (some ⟨g,0,none⟩) m cap) w:=by
  simp [Instr.slice,run_underlying Tryz.underlying66,Instr.sliceBounds,run_sliceBound,hmI,sizeOf,typeInfo,hi,Result.andThen,Addr.add]
 exact⟨by simp [Instr.sliceAt,run_underlying Tryz.underlying66,h1],h1⟩
theorem slice_lo{g L cap m:Nat}(h:m≤L)(z:Int)(hz:z=(m:Int)):
  ∃A,(∀w,(Instr.sliceAt 66 (.slice (some ⟨g,0,none⟩) L cap) (some (.int .i64 z)) none none).run Tryz.prog w=.ok (.slice A (L-m) (cap-m)) w∧
   (Instr.slice 66 (.slice (some ⟨g,0,none⟩) L cap) (some (.int .i64 z)) none none).run Tryz.prog w=.ok (.slice A (L-m) (cap-m)) w)∧(A=some ⟨g,m,none⟩∨(cap=m∧A=some ⟨g,0,none⟩)):=by
 obtain⟨i0,hi,hz0,hz1,hz2⟩:=info_parts Tryz.infoKnotP
 have hmI:(m:Int)≤(L:Int):=by omega
 subst hz
 have hA:(if m=0 then(⟨g,0,none⟩:Addr)else⟨g,m,none⟩)=⟨g,m,none⟩:=by
  split
  ·rename_i e0;subst e0;rfl
  ·rfl
 refine⟨if cap=m then some ⟨g,0,none⟩else some ⟨g,m,none⟩,fun w=>?_,?_⟩
 ·have h1:(Instr.slice 66 (.slice (some ⟨g,0,none⟩) L cap) (some (.int .i64 (m:Int))) none none).run Tryz.prog w=.ok (.slice (if cap=m then some ⟨g,0,none⟩else some ⟨g,m,none⟩) (L-m) (cap-m)) w:=by
   simp [Instr.slice,run_underlying Tryz.underlying66,Instr.sliceBounds,run_sliceBound,hmI,sizeOf,typeInfo,hi,hz1,Result.andThen,Addr.add,hA]
  exact⟨by simp [Instr.sliceAt,run_underlying Tryz.underlying66,h1],h1⟩
 ·by_cases e:cap=m
  ·rw [if_pos e];exact .inr ⟨e,rfl⟩
  ·rw [if_neg e];exact .inl rfl
theorem ptrK_one{kn:Nat→Nat}{l:List Nat}:∀u∈l.map fun y=>ptrV (kn y),u.oneCell'=true:=by
 intro u hu
 obtain⟨n,_,rfl⟩:=List.mem_map.1 hu
 rfl
def TurnKPost(B n:Nat)(kn:Nat→Nat)(av:Nat→Value)(pl:Nat→Int)(lab:Nat→NodeD)(F:Wd)(w:World)(e:Ending)(w':World):Prop:=∃kv,e=.returned (.tuple #[])∧Hid (Knots B w' n kn kv av pl lab F)∧Hid (OnlyK n kn w w')
def FreshK(w:World)(kv kv':Nat→Value):Prop:=∀i,kv' i=kv i∨∀q,(kv' i).ownBlock=some q→w.heap.size≤q
theorem fresh_upd{w w3:World}{kv:Nat→Value}{p:Nat}{e:TypeId}{size N:Nat}{v:Value}{xs:List Value}(h:w3.ownsRow w.heap.size e size v N xs):FreshK w kv (updV kv p v):=fun i=>by
 unfold updV
 by_cases c:i=p
 ·rw [if_pos c];exact .inr (fun q hq=>(World.ownsRow.lt h q hq).1)
 ·rw [if_neg c];exact .inl rfl
def FreshKPost(B n:Nat)(kn:Nat→Nat)(kv0 av:Nat→Value)(pl:Nat→Int)(lab:Nat→NodeD)(F:Wd)(w:World)(e:Ending)(w':World):Prop:=∃kv,e=.returned (.tuple #[])∧Hid (Knots B w' n kn kv av pl lab F)∧Hid (OnlyK n kn w w')∧Hid (FreshK w kv0 kv)
def StillKPost(w:World)(e:Ending)(w':World):Prop:=e=.returned (.tuple #[])∧w=w'
set_option maxRecDepth 100000 in
set_option maxHeartbeats 1000000 in
theorem cut_none{B:Nat}{w:World}{n:Nat}{kn:Nat→Nat}{kv av:Nat→Value}{pl:Nat→Int}{lab:Nat→NodeD}{F:Wd}(h:Knots B w n kn kv av pl lab F){x:Nat}(hx:x<n)(hu:F.up x=none):
  Calls Tryz.prog 59 #[.pointer (some ⟨kn x,0,none⟩)] w (StillKPost w):=by
 have hpl:=place_none h hx hu
 have HPL:=Lib.hid hpl
 clear h hpl hu
 go_enter Tryz.func59,Tryz.ntmps59
 go_wp2_with fail
 refine HPL.out.mono ?_
 rintro e w1 ⟨rfl,rfl⟩
 go_wp2
 go_end0
 exact⟨rfl,rfl⟩
theorem irrK{n:Nat}{F:Wd}(h:WOk n F){x p:Nat}{a b:List Nat}(hl:F.kids p=a++x::b):x≠p:=fun e=>by
 obtain⟨d,M,h1,h2⟩:=h.deep
 have :=h2 p x ((h.iff p x).1 (by rw [hl];simp))
 subst e
 omega
theorem cell_setCell_far{w:World}{b:Nat}{cs:Array Value}{t:TypeId}(ho:World.objAt w b cs t)(o:Nat)(v:Value){p:Addr}(hp:p.block≠b):(w.setCell ⟨b,o,none⟩ v).cell? p=w.cell? p:=
 World.cell?_of_block (setCell_block ho o v hp)
theorem cutK_end{B:Nat}{w w3:World}{n:Nat}{kn:Nat→Nat}{kv av:Nat→Value}{pl:Nat→Int}{lab:Nat→NodeD}{F:Wd}(h:Knots B w n kn kv av pl lab F)(hF:WOk n F){x p:Nat}{a b:List Nat}(hl:F.kids p=a++x::b)(hp:p<n)(hx:x<n)
  (hb:Below w.heap.size w w3) {v:Value} {N:Nat} {xs:List Value} (ho:w3.ownsRow w.heap.size 69 1 v N xs) (hN:N=(a++b).length) (hxs:xs=(a++b).map fun y=>ptrV (kn y)):
  Knots B ((w3.setCell ⟨kn p,7,none⟩ v).setCell ⟨kn x,6,none⟩ (.pointer none)) n kn (updV kv p v) av pl lab (F.cut x)∧OnlyK n kn w ((w3.setCell ⟨kn p,7,none⟩ v).setCell ⟨kn x,6,none⟩ (.pointer none)):=by
 subst hN hxs
 have hu:F.up x=some p:=(hF.iff p x).1 (by rw [hl];simp)
 have hnd:=hF.nd p
 rw [hl]at hnd
 have hBw:B≤w.heap.size:=Nat.le_trans (h.base p hp) (Nat.le_of_lt (h.node p hp).lt)
 have h3:=h.below hb
 have h4:=h3.set7 hp (ownsRow_base ho hBw)
 have h5:=h4.set6 hx none
 have o3:OnlyK n kn w w3:=OnlyK.of_below hb
 have o4:=o3.set hp (h3.node p hp) 7 v
 have o5:=o4.set hx (h4.node x hx) 6 (.pointer none)
 refine⟨h5.congr (fun i hi=>?_) (fun i hi=>rfl),o5⟩
 simp only [Wd.cut]
 by_cases e:i=p
 ·subst e
  rw [if_pos rfl,hl,filter_ne hnd]
 ·rw [if_neg e,filter_none (fun hm=>by rw [hF.iff,hu]at hm;exact e (Option.some.inj hm).symm)]
set_option maxRecDepth 100000 in
set_option maxHeartbeats 4000000 in
theorem cutK_fresh{B:Nat}{w:World}{n:Nat}{kn:Nat→Nat}{kv av:Nat→Value}{pl:Nat→Int}{lab:Nat→NodeD}{F:Wd}(h:Knots B w n kn kv av pl lab F)(hF:WOk n F)(hn:n≤1000000){x p:Nat}{a b:List Nat}(hl:F.kids p=a++x::b):
  Calls Tryz.prog 59 #[.pointer (some ⟨kn x,0,none⟩)] w (FreshKPost B n kn kv av pl lab (F.cut x) w):=by
 have hpl:=place_some h hF hl
 have hu:F.up x=some p:=(hF.iff p x).1 (by rw [hl];simp)
 obtain⟨hx,hp⟩:=hF.lt p x (by rw [hl];simp) |>.symm
 have c6:=(h.cells hx).2.1
 have c7:=(h.cells hp).2.2
 rw [hu]at c6
 simp only [Option.map_some,lk_some]at c6
 have hrow:=h.row p hp
 obtain⟨s,cap,g,hv,hcap,hcm,hs,hc,_,_⟩:=own_open hrow
 have hlen:(F.kids p).length=a.length+1+b.length:=by rw [hl];simp;omega
 have hs:=hs (by omega)
 have hkc:=hF.few p
 rw [hv,hs]at c7
 obtain⟨i0,hi,hz0,hz1,hz2⟩:=info_parts Tryz.infoKnotP
 have hr1:Row w (some ⟨g,0,none⟩) a.length (a.map fun y=>ptrV (kn y)):=by
  refine⟨by simp,by unfold maxLen;omega,fun h0=>⟨g,0,rfl,fun i hi=>?_⟩⟩
  rw [Nat.zero_add,hc i (by omega),hl]
  simp [List.getD,hi,List.getElem?_append_left hi,ptrV]
 have hr2:Row w (some ⟨g,0+(a.length+1),none⟩) b.length (b.map fun y=>ptrV (kn y)):=by
  refine⟨by simp,by unfold maxLen;omega,fun h0=>⟨g,0+(a.length+1),rfl,fun i hi=>?_⟩⟩
  rw [Nat.zero_add,hc (a.length+1+i) (by omega),hl]
  have :(a++x::b).getD (a.length+1+i) 0=b.getD i 0:=by
   rw [List.getD_eq_getElem?_getD,List.getElem?_append_right (by omega),show a.length+1+i-a.length=i+1 by omega,List.getElem?_cons_succ,List.getD_eq_getElem?_getD]
  rw [this]
  simp [List.getD,hi,ptrV]
 have HPL:=Lib.hid hpl
 have HR1:=Lib.hid hr1
 have HR2:=Lib.hid hr2
 have H:=Lib.hid h
 have HF:=Lib.hid hF
 have HL:=Lib.hid hl
 have HX:=Lib.hid (And.intro hx hp)
 obtain⟨L,hL⟩:∃L,(F.kids p).length=L:=⟨_,rfl⟩
 rw [hL]at c7 hlen hcap hkc
 obtain⟨m,hm⟩:∃m,a.length=m:=⟨_,rfl⟩
 rw [hm]at HR1 HR2 HPL hlen
 have hr:b.length=L-(m+1):=by omega
 rw [hr]at HR2
 obtain⟨k1,hk1⟩:∃k1,m+1=k1:=⟨_,rfl⟩
 rw [hk1]at HR2
 rw [hk1]at hr
 have HLEN:=Lib.hid (And.intro hL (And.intro hm hr))
 have lx:=World.block_lt_of_cell? w _ c6
 have lp:=World.block_lt_of_cell? w _ c7
 have hb0:(0:Int)≤(m:Int):=Int.natCast_nonneg _
 have hb1:(m:Int)≤(cap:Int):=by omega
 have hb2:(k1:Int)≤(L:Int):=by omega
 have hb3:(L:Int)≤(cap:Int):=by omega
 have hb4:¬(m:Int)<0:=by omega
 have hb5:(0:Int)≤(k1:Int):=Int.natCast_nonneg _
 have hb6:IntKind.i64.wrap ((m:Int)+1)=(k1:Int):=by rw [IntKind.wrap_i64];omega
 have hb7:(k1:Int)≤(cap:Int):=by omega
 have hk1L:k1≤L:=by omega
 have hmk:m+(L-k1)≤1000000:=by omega
 have hmL:m≤1000000:=by omega
 have c7a:=cell_alloc_old c7 (.cells #[] 69)
 have n1:=World.new_ne w _ c6
 have n2:=World.new_ne w _ c7
 clear hpl hr1 hr2 h hF hl hu hrow hv hs hc hL hm hr hk1 hlen hx hp
 go_enter Tryz.func59,Tryz.ntmps59
 go_wp2_with fail
 refine HPL.out.mono ?_
 rintro e w1 ⟨rfl,rfl⟩
 go_wp2_with fail
 obtain⟨A,hA,hAc⟩:=slice_lo (g:=g) (L:=L) (cap:=cap) hk1L (k1:Int) rfl
 have hA1:=fun w=>(hA w).1
 have hA2:=fun w=>(hA w).2
 have HRR:=Lib.hid (show Row w A (L-k1) (b.map fun y=>ptrV (kn y)) by
  rcases hAc with rfl | ⟨e,rfl⟩
  ·have :=HR2.out;rwa [Nat.zero_add]at this
  ·exact⟨by have :=HLEN.out.2.2;simp only [List.length_map];omega,by unfold maxLen;omega,fun h0=>by omega⟩)
 clear hA hAc HR2
 have c6d:w.drew.cell? ⟨kn x,6,none⟩=some (.pointer (some ⟨kn p,0,none⟩)):=c6
 have c7d:w.drew.cell? ⟨kn p,7,none⟩=some (.slice (some ⟨g,0,none⟩) L cap):=c7
 refine wp_region_noPanic ?_
 refine wp_region_G (k0:=28) (S:=fun w'=>w'.cell? ⟨kn x,6,none⟩=some (.pointer (some ⟨kn p,0,none⟩))∧w'.cell? ⟨kn p,7,none⟩=some (.slice (some ⟨g,0,none⟩) L cap)) (by kernel_rfl) ⟨c6d,c7d⟩ (fun hHeld=>?_)
 apply gP 0
 apply gP 1
 apply gP 2
 apply gL 3
 apply gP 5
 apply gP 6
 apply gP 7
 apply gL 8
 apply gP 9
 apply gP 10
 apply gL 11
 apply gP 12
 apply gP 13
 apply gP 15
 apply gP 16
 apply gP 17
 apply gL 18
 apply gP 19
 apply gP 20
 apply gL 21
 apply gP 22
 apply gP 23
 apply gP 24
 refine wpAnyG_one (i:=4) (by kernel_rfl) (o:=_) rfl (fun K hK=>?_)
 go_simp
 have hbel1:Below w.heap.size w _:=((Below.refl _ _).alloc (Nat.le_refl _) (.cells #[] 69)).drew
 refine hK.out _ _ (fun _=>⟨cell_below hbel1 c6,cell_below hbel1 c7⟩) ?_
 clear hK K
 try simp only [Act.put,List.setIfInBounds_toArray,List.set_cons_zero,List.set_cons_succ]
 refine wpAnyG_one (i:=14) (by kernel_rfl) (o:=_) rfl (fun K hK=>?_)
 refine step_append_reads (by rfl) _ _ _ (by rfl) w.heap.size 69 i0 (.pointer none) 8 Tryz.underlying66 hi hz0 hz1 hz2 rfl (some ⟨w.heap.size,0,none⟩) 0 0 [] (by rfl) (owns_empty w w.heap.size (Nat.le_refl _) _).drew (some ⟨g,0,none⟩) m cap (a.map fun y=>ptrV (kn y)) (by rfl) (HR1.out.below ((Below.refl _ _).alloc (Nat.le_refl _) _).drew) ptrK_one (by unfold maxLen;omega) (by omega) (by simp) ?_
 intro b2 c2 w2 hown2 hgrow2
 rw [Nat.zero_add,List.nil_append]at hown2
 rw [Nat.zero_add]
 have hbel2:Below w.heap.size w w2:=(((Below.refl _ _).alloc (Nat.le_refl _) _).drew).grown hgrow2 (by simp) (fun q hq=>by simp [Value.ownBlock]at hq;omega)
 have HR2w:=HRR.out.below hbel2
 have hszw:=hbel2.size
 refine hK.out _ _ (fun _=>⟨cell_below hbel2 c6,cell_below hbel2 c7⟩) ?_
 clear hK K
 try simp only [Act.put,List.setIfInBounds_toArray,List.set_cons_zero,List.set_cons_succ]
 refine wpAnyG_one (i:=25) (by kernel_rfl) (o:=_) rfl (fun K hK=>?_)
 refine step_append_reads (by rfl) _ _ _ (by rfl) w.heap.size 69 i0 (.pointer none) 8 Tryz.underlying66 hi hz0 hz1 hz2 rfl b2 m c2 (a.map fun y=>ptrV (kn y)) (by rfl) hown2 A (L-k1) (cap-k1) (b.map fun y=>ptrV (kn y)) (by rfl) HR2w ptrK_one (by unfold maxLen;omega) (by omega) hszw ?_
 intro b3 c3 w3 hown3 hgrow3
 have hbel3:Below w.heap.size w w3:=hbel2.grown hgrow3 hbel2.size (fun q hq=>(World.ownsRow.lt hown2 q hq).1)
 have e6':=cell_below hbel3 c6
 have e7':=cell_below hbel3 c7
 have e8':w3.frozen? ⟨kn p,7,none⟩=false:=((H.out.below hbel3).node p HX.out.2).free 7
 have e9':w3.frozen? ⟨kn x,6,none⟩=false:=((H.out.below hbel3).node x HX.out.1).free 6
 have e10':∀u,(w3.setCell ⟨kn p,7,none⟩ u).cell? ⟨kn x,6,none⟩=some (.pointer (some ⟨kn p,0,none⟩)):=fun u=>(cell_setCell_far ((H.out.below hbel3).node p HX.out.2) 7 u (p:=⟨kn x,6,none⟩) (H.out.ne HX.out.1 HX.out.2 (irrK HF.out HL.out))).trans e6'
 have HEND:=Lib.hid (cutK_end H.out HF.out HL.out HX.out.2 HX.out.1 hbel3 hown3 (by have :=HLEN.out;simp only [List.length_append];omega) (by simp))
 refine hK.out _ _ (fun _=>⟨e6',e7'⟩) ?_
 clear hK K
 try simp only [Act.put,List.setIfInBounds_toArray,List.set_cons_zero,List.set_cons_succ]
 apply gP 26 (hS:=fun _=>⟨e6',e7'⟩)
 apply gP 27 (hS:=fun _=>⟨e6',e7'⟩)
 refine wpAnyG_one (i:=28) (by kernel_rfl) (o:=_) rfl (fun K hK=>?_)
 go_simp
 refine hK.out _ _ (fun h=>absurd (h.symm.trans (by kernel_rfl:_=true)) (by decide)) ?_
 clear hK K
 try simp only [Act.put,List.setIfInBounds_toArray,List.set_cons_zero,List.set_cons_succ]
 refine wpAnyG_done (by kernel_rfl) ?_ _
 refine NoPanic.normal ?_
 have HE:=Lib.hid (show Knots B ((w3.setCell ⟨kn p,7,none⟩ (.slice b3 (m+(L-k1)) c3)).setCell ⟨kn x,6,none⟩ (.pointer none)) n kn _ av pl lab (F.cut x)∧OnlyK n kn w _ by simpa only [Nat.zero_add,Nat.add_zero]using HEND.out)
 have HFR:=Lib.hid (show FreshK w kv (updV kv p (.slice b3 (m+(L-k1)) c3)) by first | exact fresh_upd hown3 | simpa only [Nat.zero_add,Nat.add_zero]using fresh_upd (kv:=kv) (p:=p) hown3)
 clear HEND hown2 hgrow2 hown3 hgrow3
 go_wp2
 go_end0
 exact⟨_,rfl,Lib.hid HE.out.1,Lib.hid HE.out.2,HFR⟩
theorem cutK_some{B:Nat}{w:World}{n:Nat}{kn:Nat→Nat}{kv av:Nat→Value}{pl:Nat→Int}{lab:Nat→NodeD}{F:Wd}(h:Knots B w n kn kv av pl lab F)(hF:WOk n F)(hn:n≤1000000){x p:Nat}{a b:List Nat}(hl:F.kids p=a++x::b):
  Calls Tryz.prog 59 #[.pointer (some ⟨kn x,0,none⟩)] w (TurnKPost B n kn av pl lab (F.cut x) w):=by
 refine(cutK_fresh h hF hn hl).mono ?_
 rintro e w' ⟨kv',he,hk,ho,_⟩
 exact⟨kv',he,hk,ho⟩
def intZ(z:Int):Value:=.int .i64 z
def Ints(w:World)(a:Option Addr)(n:Nat)(zs:List Int):Prop:=Row w a n (zs.map intZ)
theorem Ints.below{w w':World}{a:Option Addr}{n:Nat}{zs:List Int}(h:Ints w a n zs)(hb:Below w.heap.size w w'):Ints w' a n zs:=Row.below h hb
theorem Ints.open{w:World}{a:Option Addr}{n:Nat}{zs:List Int}(h:Ints w a n zs):zs.length=n∧n≤9223372036854775807∧∃b off,(0<n→a=some ⟨b,off,none⟩)∧∀i,i<n→w.cell? ⟨b,off+i,none⟩=some (.int .i64 (zs.getD i 0)):=by
 obtain⟨h1,h2,h3⟩:=h
 have hl:zs.length=n:=by simpa using h1
 refine⟨hl,h2,?_⟩
 by_cases h0:0<n
 ·obtain⟨b,off,rfl,hc⟩:=h3 h0
  refine⟨b,off,fun _=>rfl,fun i hi=>?_⟩
  rw [hc i hi]
  have :i<zs.length:=by omega
  simp [List.getD,this,intZ]
 ·exact⟨0,0,fun h=>absurd h h0,fun i hi=>by omega⟩
def PicksTo(len:Nat)(zs:List Int)(n:Nat):Prop:=∀i,i<n→1≤zs.getD i 0∧zs.getD i 0<len∧∀j,j<i→zs.getD j 0≠zs.getD i 0
theorem PicksTo.succ{len:Nat}{zs:List Int}{n:Nat}(h:PicksTo len zs n)(h1:1≤zs.getD n 0)(h2:zs.getD n 0<len)(h3:∀j,j<n→zs.getD j 0≠zs.getD n 0):PicksTo len zs (n+1):=fun i hi=>by
 by_cases e:i=n
 ·subst e;exact⟨h1,h2,h3⟩
 ·exact h i (by omega)
structure Picks (len:Nat) (zs:List Int) (l:List Nat):Prop where
 eq:zs=l.map (fun(n:Nat)=>(n:Int))
 lt:∀i∈l,i<len
 pos:∀i∈l,1≤i
 nd:l.Nodup
 le:l.length≤len
def natsOf(zs:List Int)(k:Nat):List Nat:=(zs.take k).map Int.toNat
theorem natsOf_len{zs:List Int}{k:Nat}(h:k≤zs.length):(natsOf zs k).length=k:=by simp [natsOf];omega
theorem natsOf_get{zs:List Int}{k i:Nat}(h:k≤zs.length)(hi:i<(natsOf zs k).length):(natsOf zs k)[i]=(zs.getD i 0).toNat:=by
 have h1:i<k:=by rw [natsOf_len h]at hi;exact hi
 simp [natsOf,List.getD,show i<zs.length by omega]
theorem PicksTo.nats{len:Nat}{zs:List Int}{k:Nat}(h:PicksTo len zs k)(hk:k≤zs.length):(natsOf zs k).Nodup∧(∀x∈natsOf zs k,1≤x∧x<len)∧k≤len:=by
 have h1:(natsOf zs k).Nodup:=by
  refine List.pairwise_iff_getElem.2 (fun i j hi hj hij=>?_)
  rw [natsOf_get hk hi,natsOf_get hk hj]
  rw [natsOf_len hk]at hi hj
  have a:=h i hi
  have b:=h j hj
  have c:=b.2.2 i hij
  omega
 have h2:∀x∈natsOf zs k,1≤x∧x<len:=fun x hx=>by
  obtain⟨i,hi,rfl⟩:=List.getElem_of_mem hx
  rw [natsOf_get hk hi]
  rw [natsOf_len hk]at hi
  have a:=h i hi
  omega
 refine⟨h1,h2,?_⟩
 have :=nodup_len len _ h1 (fun x hx=>(h2 x hx).2)
 rwa [natsOf_len hk]at this
theorem PicksTo.picks{len:Nat}{zs:List Int}(h:PicksTo len zs zs.length):Picks len zs (natsOf zs zs.length):=by
 obtain⟨h1,h2,h3⟩:=h.nats (Nat.le_refl _)
 refine⟨?_,fun i hi=>(h2 i hi).2,fun i hi=>(h2 i hi).1,h1,by rw [natsOf_len (Nat.le_refl _)];exact h3⟩
 refine List.ext_getElem (by simp [natsOf]) (fun i a b=>?_)
 have h4:=(h i a).1
 rw [List.getElem_map,natsOf_get (Nat.le_refl _)]
 rw [List.getD_eq_getElem?_getD,List.getElem?_eq_getElem a]at h4 ⊢
 simp only [Option.getD_some]at h4 ⊢
 omega
theorem natsOf_succ{zs:List Int}{k:Nat}(h:k<zs.length):natsOf zs (k+1)=natsOf zs k++[(zs.getD k 0).toNat]:=by
 unfold natsOf
 rw [List.take_add_one,List.getElem?_eq_getElem h,List.map_append,List.getD_eq_getElem?_getD,List.getElem?_eq_getElem h]
 rfl
def ChosenKPost(len:Nat)(kn:Nat→Nat)(zs:List Int)(w:World)(e:Ending)(w':World):Prop:=
 (e=.returned (.tuple #[.slice none 0 0,.bool false])∧Hid (Below w.heap.size w w'))∨
 ∃v l,Picks len zs l∧e=.returned (.tuple #[v,.bool true])∧Hid (w'.ownsRow w.heap.size 69 1 v l.length (l.map fun y=>ptrV (kn y)))∧Hid (Below w.heap.size w w')
set_option maxRecDepth 100000 in
set_option maxHeartbeats 4000000 in
theorem chosenK_any{B:Nat}(w:World)(f len:Nat)(vf:Value)(kn:Nat→Nat)(many:Int)(opn:Bool)(hF:ForestK B w f vf len kn many opn)(h0:0<len)(hlen:len≤200)(a:Option Addr)(n ncap:Nat)(zs:List Int)(h:Ints w a n zs):
  Calls Tryz.prog 57 #[.pointer (some ⟨f,0,none⟩),.slice a n ncap] w (ChosenKPost len kn zs w):=by
 obtain⟨hl,hm,b,off,ha,hc⟩:=h.open
 obtain⟨g,fcap,hvf,hfc1,hfc2,f0,_,_,frow⟩:=hF.open h0
 obtain⟨j0,hj,hy0,hy1,hy2⟩:=info_parts Tryz.infoKnotP
 have HA:=Lib.hid ha
 have HC:=Lib.hid hc
 have HR:=Lib.hid frow
 have HZL:=Lib.hid hl
 clear h ha hc frow hF hvf hl
 go_enter Tryz.func57,Tryz.ntmps57
 go_wp2
 go_loopw [6,7] (fun x iv wr=>∃k:Nat,k≤n∧iv=.int .i64 (k:Int)∧Hid (PicksTo len zs k)∧Hid (wr.ownsRow w.heap.size 69 1 x k ((natsOf zs k).map fun y=>ptrV (kn y)))∧Hid (Below w.heap.size w wr)) (fun _ i _=>n-(intOf i).toNat)
 case atStart=>exact⟨0,by omega,by go_num,Lib.hid (fun i hi=>by omega),Lib.hid (World.ownsRow_nil _ _ _ _),Lib.hid (Below.refl _ _)⟩
 case round=>
  obtain⟨k,hk,rfl,HP,HOWN,HBEL⟩:=hrel
  by_cases hlt:k<n
  ·obtain rfl:=HA.out (by omega)
   have ck:=cell_below HBEL.out (HC.out k hlt)
   have f0':=cell_below HBEL.out f0
   have hkI:(k:Int)<(n:Int):=by omega
   have hkl:k≤len:=(HP.out.nats (by rw [HZL.out];omega)).2.2
   obtain⟨z,hz⟩:∃z,zs.getD k 0=z:=⟨_,rfl⟩
   rw [hz]at ck
   have HZ:=Lib.hid hz
   clear hz
   by_cases b1:z<1
   ·have g1:decide (z<1)=true:=by simp [b1]
    clear b1
    go_wp2
    go_quiet (fail)
    go_wp2
    go_ret2
    exact .inl ⟨rfl,Lib.hid (below_drewN HBEL.out _)⟩
   have g1:decide (z<1)=false:=by simp [b1]
   by_cases b2:(len:Int)≤z
   ·have g2:decide ((len:Int)≤z)=true:=by simp [b2]
    clear b1 b2
    go_wp2
    go_quiet (fail)
    go_wp2
    go_ret2
    exact .inl ⟨rfl,Lib.hid (below_drewN HBEL.out _)⟩
   have g2:decide ((len:Int)≤z)=false:=by simp [b2]
   obtain⟨zn,rfl⟩:∃zn:Nat,z=(zn:Int):=Int.eq_ofNat_of_zero_le (by omega)
   have hzn:1≤zn∧zn<len:=by omega
   have HZN:=Lib.hid hzn
   have hznI:(zn:Int)<(len:Int):=by omega
   clear b1 b2 hzn
   go_wp2
   go_quiet (fail)
   obtain⟨wz,hwz⟩:∃wz,wr.drewN nq=wz:=⟨_,rfl⟩
   have HBZ:=Lib.hid (show Below w.heap.size w wz by rw [←hwz];exact below_drewN HBEL.out _)
   have HOZ:=Lib.hid (show wz.ownsRow w.heap.size 69 1 u6 k ((natsOf zs k).map fun y=>ptrV (kn y)) by rw [←hwz];exact HOWN.out)
   rw [hwz]
   clear hwz ck f0' HBEL HOWN
   go_wp2
   go_loopw [8] (fun jv w1=>∃j:Nat,j≤k∧jv=.int .i64 (j:Int)∧Hid (∀i,i<j→zs.getD i 0≠zs.getD k 0)∧Hid (w1.ownsRow w.heap.size 69 1 u6 k ((natsOf zs k).map fun y=>ptrV (kn y)))∧Hid (Below w.heap.size w w1)) (fun i _=>k-(intOf i).toNat)
   case atStart=>exact⟨0,by omega,by go_num,Lib.hid (fun i hi=>by omega),HOZ,HBZ⟩
   case round=>
    obtain⟨j,hjk,rfl,HNE,HO1,HB1⟩:=hrel
    by_cases hjl:j<k
    ·have cj:=cell_below HB1.out (HC.out j (by omega))
     have ck:=cell_below HB1.out (HC.out k hlt)
     rw [HZ.out]at ck
     obtain⟨y,hy⟩:∃y,zs.getD j 0=y:=⟨_,rfl⟩
     rw [hy]at cj
     have hjI:(j:Int)<(k:Int):=by omega
     have hjI2:(j:Int)<(n:Int):=by omega
     by_cases he:y=(zn:Int)
     ·have ge:(y==(zn:Int))=true:=by simp [he]
      clear he hy
      go_wp2
      go_quiet (fail)
      go_wp2
      go_ret2
      exact .inl ⟨rfl,Lib.hid (below_drewN HB1.out _)⟩
     ·have ge:(y==(zn:Int))=false:=by simp [he]
      have HY:=Lib.hid (And.intro he hy)
      clear he hy
      go_wp2
      go_quiet (fail)
      go_wp2
      refine⟨?rel,?measure⟩
      case rel=>
       refine⟨j+1,by omega,by go_num,Lib.hid (fun i hi=>?_),Lib.hid HO1.out,Lib.hid (below_drewN HB1.out _)⟩
       by_cases e:i=j
       ·subst e
        rw [HY.out.2,HZ.out]
        exact HY.out.1
       ·exact HNE.out i (by omega)
      case measure=>simp [intOf];omega
    ·obtain rfl:j=k:=by omega
     have ck:=cell_below HB1.out (HC.out j hlt)
     rw [HZ.out]at ck
     have f0'':=cell_below HB1.out f0
     have cz:=cell_below HB1.out (HR.out zn HZN.out.2)
     have hjlen:j≤200:=by omega
     have hownA:=(World.ownsRow.alloc HO1.out (.cells #[.pointer (some ⟨kn zn,0,none⟩)] 69)).drew
     have hnews:∀i u,[Value.pointer (some ⟨kn zn,0,none⟩)][i]? =some u→(wr.alloc (.cells #[.pointer (some ⟨kn zn,0,none⟩)] 69)).drew.cell? ((⟨wr.heap.size,0,none⟩:Addr).add i)=some u:=
      World.news_of_block (cs:= #[.pointer (some ⟨kn zn,0,none⟩)]) (t:=69) (fr:=(0,0)) (heap_alloc_new wr _)
     have hbs:=HB1.out.size
     have HOA:=Lib.hid hownA
     have HNEWS:=Lib.hid hnews
     clear hownA hnews
     go_wp2
     go_region_law (first | (refine step_append_lies _ rfl (.tmp 46) (.tmp 57) 66 rfl w.heap.size 69 j0 (.pointer none) 1 8 Tryz.underlying66 hj hy0 hy1 hy2 rfl (by decide) u6 j ((natsOf zs j).map fun y=>ptrV (kn y)) (by simp [Act.eval,Act.put]) HOA.out ⟨wr.heap.size,0,none⟩ 1 1 [.pointer (some ⟨kn zn,0,none⟩)] (by simp [Act.eval,Act.put]) rfl HNEWS.out (by simp [Value.oneCell']) (by omega) (by unfold maxLen;omega) (by omega) (by simp;omega) _ rfl ?_;intro g6 cap6 w6 hown6 hgrow6 hat6 hlt6))
     all_goals
      have hb6:Below w.heap.size w w6:=((HB1.out.alloc hbs _).drew).grown hgrow6 (by simp;omega) (fun q hq=>(World.ownsRow.lt HO1.out q hq).1)
      have hsn:w6.ownsRow w.heap.size 69 1 (.slice (some ⟨g6,0,none⟩) (j+1) cap6) (j+1) ((natsOf zs (j+1)).map fun y=>ptrV (kn y)):=by
       rw [natsOf_succ (by rw [HZL.out];exact hlt),HZ.out,List.map_append]
       simpa [ptrV]using hown6
      have hp:=HP.out.succ (by rw [HZ.out];have :=HZN.out;omega) (by rw [HZ.out];exact hznI) HNE.out
      have H6:=Lib.hid (And.intro hsn hb6)
      have HP6:=Lib.hid hp
      clear hown6 hgrow6 hat6 hlt6 hb6 hsn hp ck f0'' cz
      go_wp2
      refine⟨?rel,?measure⟩
      case rel=>exact⟨j+1,by omega,by go_num,HP6,Lib.hid H6.out.1,Lib.hid H6.out.2⟩
      case measure=>simp [intOf];omega
  ·obtain rfl:k=n:=by omega
   go_wp2
   go_ret2
   have hzl:=HZL.out
   refine .inr ⟨_,natsOf zs k,?_,rfl,?_,HBEL⟩
   ·have :=HP.out
    rw [←hzl]at this ⊢
    exact this.picks
   ·rw [natsOf_len (by omega)]
    exact HOWN
def StepKPost(B f len:Nat)(vf:Value)(kn:Nat→Nat)(Φ:Nat→(Nat→Int)→(Nat→NodeD)→Wd→Prop)(e:Ending)(w':World)(w:World):Prop:=
 (e=.returned (.bool false)∧Hid (Below B w w'))∨
 (∃n kn' kv av pl lab F many opn,e=.returned (.bool true)∧Φ n pl lab F∧kn' 0=kn 0∧Hid (Knots B w' n kn' kv av pl lab F)∧Hid (ForestK B w' f vf len kn many opn)∧Hid (Below B w w'))∨
 (e=.returned (.bool true)∧∃many,Hid (ForestK B w' f vf len kn many true)∧Hid (Below B w w'))
end Go.Proofs.YtkdomegcacgpnaaGreat
