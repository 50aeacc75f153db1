/- Parts of a proof: UnwG, ResCells. -/
import Derived.Test.YtkdomegcacgpnaaGreatG36
import Derived.Tactics
import Derived.Test.YtkdomegcacgpnaaGreatG06
set_option linter.unusedVariables false
set_option linter.unusedSimpArgs false
namespace Go.Proofs.YtkdomegcacgpnaaGreat
open Go.RowKit
theorem unwGood_par{lab:Nat→NodeD}{F:Wd}{l:List Nat}(hg:∀x∈l,UnwGood lab F x){p:Nat}(hp:p∈onceF (l.map (parK F))):(∃g,F.up p=some g)∧((dataOf (lab p)).toList==[98,111,100,121])=false:=by
 obtain⟨x,hx,rfl⟩:=List.mem_map.1 (onceF_sub p hp)
 obtain⟨p,g,hu,hup,hk,ht⟩:=hg x hx
 have e:parK F x=p:=by unfold parK;rw [hu];rfl
 rw [e]
 refine⟨⟨g,hup⟩,?_⟩
 have e2:dataOf (lab p)=(lab p).tag:=by unfold dataOf;rw [hk];rfl
 rw [e2]
 exact ht
set_option maxRecDepth 100000 in
set_option maxHeartbeats 2000000 in
theorem unwrapG_any{B B' n:Nat}(s:Nat)(v:Value)(l:List Nat)(w:World){nb:Nat→Nat}{vv:Nat→Value}{lab:Nat→NodeD}{F:Wd}(hs:SelAt w s v (l.map nb) B)(hD:DomAt B' w n nb vv lab F)(hW:WOk n F)(hn6:n≤600)(hn:l.length≤200)(hl0:0<l.length)(hg:∀x∈l,UnwGood lab F x):
  Calls Tryz.prog 48 #[.pointer (some ⟨s,0,none⟩)] w (UnwEachPost s B' n nb vv lab F (onceF (l.map (parK F))) w):=by
 have hsp:=selParentG_any s v l w hs hD hW (fun x hx=>by obtain⟨p,g,h1,h2,h3,_⟩:=hg x hx;exact⟨p,h1,h3⟩) hn
 obtain⟨ps,hps⟩:∃ps,onceF (l.map (parK F))=ps:=⟨_,rfl⟩
 have hpl:ps.length≤200:=by
  have :=onceF_len (l:=l.map (parK F)) l.length (by simp)
  rw [List.take_of_length_le (by simp),hps]at this
  omega
 have hp0:0<ps.length:=by
  have h1:parK F (l.getD 0 0)∈ps:=by
   rw [←hps]
   exact onceF_mem.2 (List.mem_map.2 ⟨_,getD_mem' hl0,rfl⟩)
  exact List.length_pos_of_mem h1
 have hgp:∀p∈ps,(∃g,F.up p=some g)∧((dataOf (lab p)).toList==[98,111,100,121])=false:=fun p hp=>unwGood_par hg (by rw [hps];exact hp)
 have hm:UnwMid n F ps ps F:=⟨hW,fun p hp=>(hgp p hp).1,by rw [←hps];exact onceF_nd,fun _ h=>h⟩
 have hnb:∀i,i<n→nb i<w.heap.size:=fun i hi=>World.block_lt_of_cell? w _ (hD.node i hi).par
 rw [hps]at hsp ⊢
 have HSP:=Lib.hid hsp
 have HH:=Lib.hid (And.intro hD (And.intro hm (And.intro (fun p hp=>(hgp p hp).2) (And.intro hnb (And.intro hp0 (And.intro hpl hn6))))))
 have hmf:∀(fn:Fn) (first cap:Array Value) (w:World),(Instr.makeFunc fn first cap).run Tryz.prog w=.ok (.func fn first cap) w:=fun _ _ _ _=>rfl
 clear hsp hps hpl hp0 hgp hm hD hnb hs hW hn hl0 hg hn6
 go_enter Tryz.func48,Tryz.ntmps48
 go_wp2_with fail
 refine HSP.out.mono ?_
 rintro e w1 ⟨s2,v2,rfl,hsel,hb⟩
 have hown:=hsel.out.own
 have c0:=hsel.out.nodes
 obtain⟨d,c1⟩:=hsel.out.doc
 have hbs:=hsel.out.base
 unfold OwnPtrs at hown
 rw [List.length_map,List.map_map]at hown
 obtain⟨sa,scap,rfl⟩:=ownsRow_slice hown
 obtain⟨sg,rfl⟩:∃sg,sa=some ⟨sg,0,none⟩:=by
  rcases hown.2 with ⟨_,h2⟩ | ⟨g0,c0_,cur,hv_,_⟩
  ·have :=HH.out.2.2.2.2.1
   omega
  ·simp at hv_;exact⟨g0,hv_.1⟩
 have hsg:=(World.ownsRow.lt hown sg rfl).1
 have hcr:=own_nodes hown
 have hea:=unwEach_any (HH.out.1.below hb.out) HH.out.2.2.2.2.2.2 HH.out.2.1 HH.out.2.2.2.2.2.1 HH.out.2.2.1 c0 c1 hcr (fun i hi=>by
  have :=HH.out.2.2.2.1 i hi
  exact⟨by omega,by omega⟩)
 have HEA:=Lib.hid hea
 have HB:=Lib.hid hb.out
 clear hea hcr hsg hown c0 c1 hbs hsel hb HSP HH
 go_wp2_with fail
 refine HEA.out.mono ?_
 rintro e w2 ⟨rfl,G2,h1,h2,h3,h4⟩
 have HO:=Lib.hid (((OnlyG.refl n nb w).of_below HB.out).trans h4.out)
 clear h4 HEA
 go_wp2
 go_ret
 exact⟨rfl,G2,h1,h2,h3,HO⟩
theorem results_cell1{fn:Func}{p:Tmp}{ty:TypeId}(h:fn.results= #[.cell p ty])(tmps:Array Value)(P:Program)(w:World):
  (results fn tmps).run P w=((asAddr (tmps.getD p undef)).run P w).andThen fun a w₁=>(loadVar ty a).run P w₁:=by
 simp only [results,h]
 simp [Sem.run_bind,Result.andThen]
end Go.Proofs.YtkdomegcacgpnaaGreat
