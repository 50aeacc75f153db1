/- Parts of a proof: WrapEach, WrapAllG, GroupsG. -/
import Derived.Test.YtkdomegcacgpnaaGreatG23
import Derived.Test.YtkdomegcacgpnaaGreatG20
import Derived.Test.YtkdomegcacgpnaaGreatG19
import Derived.Test.YtkdomegcacgpnaaGreatG21
import Derived.Test.YtkdomegcacgpnaaGreatG07
import Derived.Test.YtkdomegcacgpnaaGreatG14
set_option linter.unusedVariables false
set_option linter.unusedSimpArgs false
namespace Go.Proofs.YtkdomegcacgpnaaGreat
open Go.RowKit
theorem OnlyG.turnG{n m:Nat}{nb nb':Nat→Nat}{a w w':World}(h:OnlyG n nb a w)(ho:OnlyG m nb' w w')(hold:∀i,i<n→nb' i=nb i)(hnew:∀i,n≤i→i<m→a.heap.size≤nb' i):OnlyG n nb a w':=by
 have hne:∀k,k<a.heap.size→(∀i,i<n→k≠nb i)→∀i,i<m→k≠nb' i:=fun k hk hn i hi e=>by
  by_cases h1:i<n
  ·rw [hold i h1]at e;exact hn i h1 e
  ·have :=hnew i (by omega) hi;omega
 refine⟨Nat.le_trans h.size ho.size,fun k hk hn=>(ho.block k (Nat.lt_of_lt_of_le hk h.size) (hne k hk hn)).trans (h.block k hk hn),fun B hB hn=>(h.below B hB hn).trans (ho.below B (Nat.le_trans hB h.size) (fun i hi=>?_))⟩
 by_cases h1:i<n
 ·rw [hold i h1];exact hn i h1
 ·exact Nat.le_trans hB (hnew i (by omega) hi)
structure EachInv (B n:Nat) (w0:World) (nb:Nat→Nat) (F:Wd) (lab0:Nat→NodeD) (wd:Nat) (L rest:List Nat) (n2:Nat) (lab2:Nat→NodeD) (G2:Wd) (m:Nat) (nbi:Nat→Nat) (vi:Nat→Value) (labi:Nat→NodeD) (Gi:Wd) (wr:World):Prop where
 dom:DomAt B wr m nbi vi labi Gi
 mid:WrMid n F lab0 L rest m labi Gi
 side:WrSide n F wd L rest
 ki:∀i,i<m→((labi i).kind=3↔tyOf (labi i).kind=3)
 num:∀i,i<n→nbi i=nb i
 fresh:∀i,n≤i→i<m→w0.heap.size≤nbi i
 only :OnlyG n nb w0 wr
 wraps:∃lab',(∀i,i<m→lab' i=labi i)∧Wraps wd L n2 lab2 G2 rest m lab' Gi
theorem EachInv.below{B n:Nat}{w0:World}{nb:Nat→Nat}{F:Wd}{lab0:Nat→NodeD}{wd:Nat}{L rest:List Nat}{n2:Nat}{lab2:Nat→NodeD}{G2:Wd}{m:Nat}{nbi:Nat→Nat}{vi:Nat→Value}{labi:Nat→NodeD}{Gi:Wd}{wr w':World}(h:EachInv B n w0 nb F lab0 wd L rest n2 lab2 G2 m nbi vi labi Gi wr)(hb:Below wr.heap.size wr w'):EachInv B n w0 nb F lab0 wd L rest n2 lab2 G2 m nbi vi labi Gi w':=
 ⟨h.dom.below hb,h.mid,h.side,h.ki,h.num,h.fresh,h.only.of_below hb,h.wraps⟩
structure EachNow (B n:Nat) (w0:World) (nb:Nat→Nat) (F:Wd) (lab0:Nat→NodeD) (wd:Nat) (L:List Nat) (x:Nat) (rest:List Nat) (n2:Nat) (lab2:Nat→NodeD) (G2:Wd) (m:Nat) (nbi:Nat→Nat) (vi:Nat→Value) (labi:Nat→NodeD) (Gi:Wd) (wr:World) (p z:Nat) (A Bk:List Nat):Prop where
 cp:CpOk m Gi L [wd]
 fl:Fl F.kids [wd] L→Fl Gi.kids [wd] L
 up:Gi.up x=some p
 kids:Gi.kids p=A++x::Bk
 inm:Inm labi Gi wd (some z)
 xL:x∉L
 pL:p∉L
 step:∀(H:Nat) (nb':Nat→Nat) (v':Nat→Value) (lab':Nat→NodeD) (w':World),w0.heap.size≤H→ClonedW H m nbi vi labi Gi L nb' v' lab'→DomAt B w' (m+L.length) nb' v' lab' (wrap1 Gi m L wd p A x z)→OnlyG m nbi wr w'→EachInv B n w0 nb F lab0 wd L rest n2 lab2 G2 (m+L.length) nb' v' lab' (wrap1 Gi m L wd p A x z) w'
theorem EachInv.now{B n:Nat}{w0:World}{nb:Nat→Nat}{F:Wd}{lab0:Nat→NodeD}{wd:Nat}{L:List Nat}{x:Nat}{rest:List Nat}{n2:Nat}{lab2:Nat→NodeD}{G2:Wd}{m:Nat}{nbi:Nat→Nat}{vi:Nat→Value}{labi:Nat→NodeD}{Gi:Wd}{wr:World}(h:EachInv B n w0 nb F lab0 wd L (x::rest) n2 lab2 G2 m nbi vi labi Gi wr):
  ∃p z A Bk,EachNow B n w0 nb F lab0 wd L x rest n2 lab2 G2 m nbi vi labi Gi wr p z A Bk:=by
 obtain⟨lab',hl,hw⟩:=h.wraps
 cases hw with
 | @cons _ p z _ _ _ lab1 _ A Bk hu hk hz h1 h2 h3=>
  have hc:=h.mid.cp h.side.cp
  have hsub:∀a∈L,∀b∈Gi.kids a,b∈L:=fun a ha b hb=>(hc.sub a ha b hb).1
  have hwL:=hc.ws wd (by simp)
  have hz2:=hz.congr (lab':=labi) (G':=Gi) hsub (fun _ _=>rfl) (fun a ha=>(hl a (hc.lt a ha)).symm) hwL
  have hzL:=hz2.mem hsub hwL z rfl
  obtain⟨hxn,hxL,q,hq,hqL⟩:=h.side.xin x (by simp)
  have hpq:p=q:=by
   have :=h.mid.up x hxn (.inl (by simp))
   rw [hu,hq]at this
   exact Option.some.inj this
  have hpL:p∉L:=by rw [hpq];exact hqL
  refine⟨p,z,A,Bk,hc,fun hf=>hf.congr (fun y hy=>by first | exact h.mid.tree y hy | exact(h.mid.tree y hy).symm),hu,hk,hz2,hxL,hpL,fun H nb' v' lab3 w' hH hC hD ho=>?_⟩
  have hstep:=h.mid.step h.side hu hk hzL (lab':=lab3) (fun i hi=>(hC.old i hi).2.2)
  have hlabs:∀i,i<m+L.length→lab1 i=lab3 i:=fun i hi=>by
   by_cases e:i<m
   ·rw [h1 i e,hl i e,(hC.old i e).2.2]
   ·have a1:=h2 (i-m) (by omega)
    have a2:=hC.lab (i-m) (by omega)
    rw [show m+(i-m)=i by omega]at a1 a2
    rw [a1,a2]
    exact hl _ (hc.lt _ (getD_mem' (by omega)))
  have hle:=h.mid.le
  refine⟨hD,hstep.2.1,hstep.2.2,fun i hi=>?_,fun i hi=>((hC.old i (by omega)).1).trans (h.num i hi),fun i hi hi2=>?_,h.only.turnG ho (fun i hi=>h.num i hi) h.fresh,lab1,hlabs,h3⟩
  ·by_cases e:i<m
   ·rw [(hC.old i e).2.2];exact h.ki i e
   ·have a2:=hC.lab (i-m) (by omega)
    rw [show m+(i-m)=i by omega]at a2
    rw [a2]
    exact h.ki _ (hc.lt _ (getD_mem' (by omega)))
  ·by_cases e:i<m
   ·rw [(hC.old i e).1];exact h.fresh i hi e
   ·exact Nat.le_trans hH (hC.new i (by omega) hi2)
set_option maxRecDepth 100000 in
set_option maxHeartbeats 1000000 in
theorem wrapAllNodes_one{X:World→Prop}(s g cap y:Nat)(w:World)(cr:w.cell? ⟨g,0,none⟩=some (.pointer (some ⟨y,0,none⟩)))
  (hc:Calls Tryz.prog 94 #[.pointer (some ⟨s,0,none⟩),.pointer (some ⟨y,0,none⟩)] w (fun e w'=>e=.returned (.pointer (some ⟨s,0,none⟩))∧Hid (X w'))):
  Calls Tryz.prog 144 #[.pointer (some ⟨s,0,none⟩),.slice (some ⟨g,0,none⟩) 1 cap] w (fun e w'=>e=.returned (.pointer (some ⟨s,0,none⟩))∧Hid (X w')):=by
 have HC:=Lib.hid hc
 clear hc
 go_enter Tryz.func144,Tryz.ntmps144
 go_wp2_with fail
 refine HC.out.mono ?_
 rintro e w1 ⟨rfl,hx⟩
 clear HC
 go_wp2
 go_ret
 exact⟨rfl,hx⟩
set_option maxRecDepth 100000 in
set_option maxHeartbeats 1000000 in
theorem wrapClo_any{X:World→Prop}(i:Int)(s box g cap y:Nat)(w:World)(cb:w.cell? ⟨box,0,none⟩=some (.slice (some ⟨g,0,none⟩) 1 cap))(cr:w.cell? ⟨g,0,none⟩=some (.pointer (some ⟨y,0,none⟩)))
  (hc:Calls Tryz.prog 94 #[.pointer (some ⟨s,0,none⟩),.pointer (some ⟨y,0,none⟩)] w (fun e w'=>e=.returned (.pointer (some ⟨s,0,none⟩))∧Hid (X w'))):
  Calls Tryz.prog 143 #[.int .i64 i,.pointer (some ⟨s,0,none⟩),.pointer (some ⟨box,0,none⟩)] w (fun e w'=>e=.returned (.tuple #[])∧Hid (X w')):=by
 have HC:=Lib.hid (wrapAllNodes_one s g cap y w cr hc)
 clear hc
 go_enter Tryz.func143,Tryz.ntmps143
 go_wp2_with fail
 refine HC.out.mono ?_
 rintro e w1 ⟨rfl,hx⟩
 clear HC
 go_wp2
 go_end0
 exact⟨rfl,hx⟩
theorem WOk.flats{n:Nat}{F:Wd}(h:WOk n F):∀l:List Nat,∃L,Fl F.kids l L
 | []=>⟨[],.nil⟩
 | x::r=>by
  obtain⟨A,hA⟩:=h.flat x
  obtain⟨B,hB⟩:=h.flats r
  exact⟨A++B,Fl.append hA hB⟩
theorem mv_cut{F:Wd}{x p:Nat}{A T:List Nat}(hx:x∈T):mv (F.cut x) p A [] T=mv F p A [] T:=by
 have e:(F.cut x).off T=F.off T:=by
  have h1:F.cut x=F.off [x]:=by
   have :=off_snoc F [] x
   rw [off_nil]at this
   exact this.symm
  rw [h1]
  simp only [Wd.off,Wd.mk.injEq]
  refine⟨funext fun q=>?_,funext fun y=>?_⟩
  ·unfold offL
   rw [List.filter_filter]
   refine List.filter_congr (fun z _=>?_)
   by_cases e:z=x
   ·subst e;simp [hx]
   ·simp [e]
  ·by_cases h2:y∈T
   ·simp [h2]
   ·have h3:y≠x:=fun e=>h2 (e▸hx)
    simp [h2,h3]
 unfold mv
 rw [e]
theorem Inm.kind{lab:Nat→NodeD}{G:Wd}{k:Nat}{o:Option Nat}(h:Inm lab G k o):(lab k).kind=3→∀z,o=some z→(lab z).kind=3:=by
 induction h with
 | stop h=>intro hk z e;cases e;exact hk
 | many h=>intro hk z e;cases e
 | @down k y o h h2 ih=>
  intro hk z e
  refine ih ?_ z e
  have hm:y∈elK lab G k:=by rw [h];simp
  unfold elK at hm
  have :=(List.mem_filter.1 hm).2
  simpa using this
def WrapAllGPost(s B m:Nat)(nb:Nat→Nat)(lab:Nat→NodeD)(L:List Nat)(G2:Wd)(w:World)(e:Ending)(w':World):Prop:=
 ∃nb2 v2 lab2,e=.returned (.pointer (some ⟨s,0,none⟩))∧Hid ((∀i,i<m→nb2 i=nb i∧lab2 i=lab i)∧(∀i,m≤i→i<m+L.length→w.heap.size≤nb2 i)∧∀i,i<L.length→lab2 (m+i)=lab (L.getD i 0))∧Hid (DomAt B w' (m+L.length) nb2 v2 lab2 G2)∧Hid (OnlyG m nb w w')
set_option maxRecDepth 100000 in
set_option maxHeartbeats 8000000 in
theorem wrapAllG_any{B m:Nat}{w:World}{nb:Nat→Nat}{v:Nat→Value}{lab:Nat→NodeD}{G:Wd}(h:DomAt B w m nb v lab G)(hG:WOk m G)(hki:∀i,i<m→((lab i).kind=3↔tyOf (lab i).kind=3)){s S:Nat}{sv:Value}{x:Nat}{r:List Nat}(hs:SelAt w s sv ((x::r).map nb) S)
  {wd p z:Nat} {L A Bk:List Nat} (hcp:CpOk m G L [wd]) (hL:Fl G.kids [wd] L) (hu:G.up x=some p) (hk:G.kids p=A++x::Bk) (hz:Inm lab G wd (some z)) (hpL:p∉L) (hnd:(x::r).Nodup) (hin:∀y∈x::r,y<m∧y∉L) (hap:∀a∈x::r,∀b∈x::r,a≠b→¬Anc G a b) (hkw:(lab wd).kind=3) (hln:(x::r).length≤600) (hfit:∀y,y<m→(lab y).attrs.length≤100) (hB:B≤w.heap.size):
  Calls Tryz.prog 94 #[.pointer (some ⟨s,0,none⟩),.pointer (some ⟨nb wd,0,none⟩)] w (WrapAllGPost s B m nb lab L (wrapG G m L wd p A z (x::r)) w):=by
 obtain⟨g,hg⟩:∃g,x::r=g:=⟨_,rfl⟩
 have hxg:x∈g:=by rw [←hg];simp
 have hown:w.ownsRow S 75 1 sv g.length (g.map fun y=>ptrV (nb y)):=by
  have h1:=hs.own
  unfold OwnPtrs at h1
  rw [List.length_map,List.map_map,hg]at h1
  exact h1
 have c0:=hs.nodes
 obtain⟨d,cd⟩:=hs.doc
 have hgpos:0<g.length:=List.length_pos_of_mem hxg
 have hg0:g.getD 0 0=x:=by rw [←hg];rfl
 obtain⟨sa,scap,rfl⟩:=ownsRow_slice hown
 obtain⟨sg,rfl⟩:∃sg,sa=some ⟨sg,0,none⟩:=by
  rcases hown.2 with ⟨_,h2⟩ | ⟨g0,c0_,cur,hv_,_⟩
  ·omega
  ·simp at hv_;exact⟨g0,hv_.1⟩
 have cs:=own_nodes hown 0 hgpos
 rw [hg0]at cs
 have hns:∀i,i<m→s≠nb i∧sg≠nb i:=fun i hi=>⟨sel_ne h c0 i hi,row_ne h hown i hi⟩
 have hxL:x∉L:=(hin x (by simp)).2
 have hwL:=hcp.ws wd (by simp)
 have hzL:=hz.mem (fun a ha b hb=>(hcp.sub a ha b hb).1) hwL z rfl
 have hwg:=wgOk hG hcp hL.head hu hk hzL hpL hnd hin hap
 rw [hg]at hwg hnd hin hap hln ⊢
 have hwo:=hwg.one
 have hcl:=cloneNode_any L.length B w m nb v lab G wd L h hG (hcp.lt wd hwL) hL (Nat.le_refl _) (fun y hy=>hfit y (hcp.lt y hy)) hB
 have hsgs:=World.ownsRow.lt hown sg rfl
 obtain⟨hpm,hxm⟩:=hG.lt p x ((hG.iff p x).2 hu)
 have hix0:ix L wd=0:=by
  have :=hL.head
  cases hLc:L with
  | nil=>rw [hLc]at this;cases this
  | cons a r=>rw [hLc]at this;simp at this;simp [ix,this]
 have HSZ:=Lib.hid (size_any s _ _ _ w c0)
 have HCL:=Lib.hid hcl
 have HWO:=Lib.hid hwo
 have HG:=Lib.hid (And.intro hG (And.intro hcp (And.intro hL.head (And.intro hwL (And.intro hzL (And.intro hix0 (And.intro hz hki)))))))
 have HX:=Lib.hid (And.intro hpm (And.intro hxm (And.intro hu hns)))
 have HGG:=Lib.hid (And.intro hwg (And.intro hnd (And.intro hin (And.intro hap (And.intro hkw (And.intro hln (And.intro hfit (And.intro hxg (And.intro hown hB)))))))))
 have hsl:=World.block_lt_of_cell? w _ c0
 have hsgl:=World.block_lt_of_cell? w _ cs
 have HGX:=Lib.hid hG
 clear h hG hki hns hcp hL hu hk hz hxL hpL hfit hB hwo hcl hpm hxm hix0 hwL hzL hwg hnd hin hap hkw hln hxg hown hs hg0 hsgs
 have hgI:(0:Int)<(g.length:Int):=by omega
 obtain⟨GL,hGL⟩:∃GL,g.length=GL:=⟨_,rfl⟩
 have HGL:=Lib.hid hGL
 rw [hGL]at c0 hgI HSZ
 go_enter Tryz.func94,Tryz.ntmps94
 go_wp2_with fail
 refine HSZ.out.mono ?_
 rintro e w1 ⟨rfl,rfl⟩
 clear HSZ
 go_wp2_with fail
 refine HCL.out.mono ?_
 rintro e w1 ⟨nb2,v2,lab2,rfl,HC,HD1,HB1⟩
 have c01:=cell_below HB1.out c0
 have cs1:=cell_below HB1.out cs
 have cd1:=cell_below HB1.out cd
 have hxm:=HX.out.2.1
 have hpm:=HX.out.1
 have hnx:nb2 x=nb x:=(HC.out.old x hxm).1
 have hup1:(cpW G m L [wd]).up x=some p:=(cp_old L [wd] hxm).2.trans HX.out.2.2.1
 have cp1:=(HD1.out.node x (by omega)).par
 have e1:(linkR (cpW G m L [wd]) nb2 (lab2 x) (v2 x) x).par=some (nb2 p):=by simp [linkR,hup1]
 rw [e1,hnx,lk_some]at cp1
 have hpos:=HWO.out.pos
 have hins:=insertBefore_any HD1.out HWO.out.ok1 (x:=m) (p:=p) (by omega) (by omega) (by omega) HWO.out.root A _ HWO.out.kp
 simp only [List.head?_cons,Option.map_some]at hins
 rw [hnx]at hins
 have HINS:=Lib.hid hins
 have HN:=Lib.hid (And.intro hnx e1)
 clear hins hup1 e1 hnx c0 cs cd HCL
 go_wp2_with fail
 refine HINS.out.mono ?_
 rintro e w2 ⟨rfl,HD2,HO2⟩
 have hfar:∀(w9:World),OnlyN (m+L.length) nb2 w1 w9→∀(q:Nat) (o:Nat) (u:Value),q<w.heap.size→(∀i,i<m→q≠nb i)→w1.cell? ⟨q,o,none⟩=some u→w9.cell? ⟨q,o,none⟩=some u:=fun w9 ho q o u hq hn hc=>
  (World.cell?_of_block (ho.block q (fun i hi e=>by
   by_cases h1:i<m
   ·rw [(HC.out.old i h1).1]at e;exact hn i h1 e
   ·have :=HC.out.new i (by omega) hi;omega))).trans hc
 have HFAR:=Lib.hid hfar
 have c02:=hfar w2 HO2.out s 0 _ hsl (fun i hi=>(HX.out.2.2.2 i hi).1) c01
 have cp2:=(HD2.out.node x (by omega)).par
 have e2:(linkR ((cpW G m L [wd]).put p A.length m) nb2 (lab2 x) (v2 x) x).par=some (nb2 p):=by simp [linkR,HWO.out.up2]
 rw [e2,HN.out.1,lk_some]at cp2
 have hrem:=removeChild_any HD2.out HWO.out.ok2 HWO.out.up2
 rw [HN.out.1]at hrem
 have HREM:=Lib.hid hrem
 clear hrem e2 hfar HINS cp1
 go_wp2_with fail
 refine HREM.out.mono ?_
 rintro e w3 ⟨rfl,HD3,HO3⟩
 have HO13:=Lib.hid (HO2.out.trans HO3.out)
 have HROW5:=Lib.hid (show ∀w9,Below w3.heap.size w3 w9→w9.heap[sg]? =w.heap[sg]? from fun w9 h9=>((h9.block sg (by have :=HO13.out.size;have :=HB1.out.size;omega)).trans (HO13.out.block sg (fun i hi e=>by
  by_cases h1:i<m
  ·rw [(HC.out.old i h1).1]at e;exact(HX.out.2.2.2 i h1).2 e
  ·have :=HC.out.new i (by omega) hi;omega))).trans (HB1.out.block sg hsgl))
 have c03:=HFAR.out w3 HO13.out s 0 _ hsl (fun i hi=>(HX.out.2.2.2 i hi).1) c01
 have cs3:=HFAR.out w3 HO13.out sg 0 _ hsgl (fun i hi=>(HX.out.2.2.2 i hi).2) cs1
 have cd3:=HFAR.out w3 HO13.out s 1 _ hsl (fun i hi=>(HX.out.2.2.2 i hi).1) cd1
 obtain⟨G3,hG3⟩:∃G3,((cpW G m L [wd]).put p A.length m).cut x=G3:=⟨_,rfl⟩
 have hki2:∀i,i<m+L.length→((lab2 i).kind=3↔tyOf (lab2 i).kind=3):=fun i hi=>by
  by_cases h1:i<m
  ·rw [(HC.out.old i h1).2.2];exact HG.out.2.2.2.2.2.2.2 i h1
  ·have h2:=HC.out.lab (i-m) (by omega)
   rw [show m+(i-m)=i by omega]at h2
   rw [h2]
   exact HG.out.2.2.2.2.2.2.2 _ (HG.out.2.1.lt _ (getD_mem' (by omega)))
 have hinm:Inm lab2 G3 m (some (m+ix L z)):=by
  have h1:=HG.out.2.2.2.2.2.2.1.copy HG.out.2.1 HC.out.lab HG.out.2.2.2.1
  rw [HG.out.2.2.2.2.2.1,Nat.add_zero]at h1
  refine h1.congr (L:=L.map fun y=>m+ix L y) (fun a ha b hb=>?_) (fun a ha=>?_) (fun _ _=>rfl) (List.mem_map.2 ⟨wd,HG.out.2.2.2.1,by rw [HG.out.2.2.2.2.2.1];rfl⟩)
  ·obtain⟨y,hy,rfl⟩:=List.mem_map.1 ha
   rw [(cp_new hy).1]at hb
   obtain⟨c,hc,rfl⟩:=List.mem_map.1 hb
   exact List.mem_map.2 ⟨c,(HG.out.2.1.sub y hy c hc).1,rfl⟩
  ·obtain⟨y,hy,rfl⟩:=List.mem_map.1 ha
   rw [←hG3]
   simp only [Wd.cut,Wd.put]
   rw [if_neg (by omega),(cp_new hy).1]
   exact filter_none (fun hm=>by
    obtain⟨c,_,e⟩:=List.mem_map.1 hm
    omega)
 have hok3:WOk (m+L.length) G3:=by rw [←hG3];exact HWO.out.ok3
 have hd3:=HD3.out
 rw [hG3]at hd3
 have hfe:=fun y (hy:y<m+L.length)=>firstEl_any hd3 hok3 hki2 hy
 obtain⟨dd,M,hM,hdd⟩:=hok3.deep
 obtain⟨TO,hTO⟩:∃TO,m+ix L z=TO:=⟨_,rfl⟩
 rw [hTO]at hinm
 have HFE:=Lib.hid hfe
 have HI:=Lib.hid hinm
 have HD:=Lib.hid (And.intro hd3 (And.intro hok3 (And.intro hG3 hTO)))
 have HDD:=Lib.hid (And.intro hM hdd)
 have HFE0:=Lib.hid (hfe m (by omega))
 clear hfe hinm hd3 hok3 hG3 hTO hM hdd hki2 HREM HD2 HO2 HD3 HO3 c02 c01 cs1 cd1 cp2
 go_wp2_with fail
 refine HFE0.out.mono ?_
 rintro e w4 ⟨rfl,rfl⟩
 clear HFE0
 go_wp2
 go_loopg [5,7] (M-dd m) (fun gk av cv wr=>∃y,gk=M-dd y∧Hid (y<m+L.length)∧av=.pointer (some ⟨nb2 y,0,none⟩)∧cv=lk ((elK lab2 G3 y).head?.map nb2)∧Hid (Inm lab2 G3 y (some TO))∧Hid (w3=wr))
 case atStart=>exact⟨m,rfl,Lib.hid (by omega),rfl,rfl,HI,Lib.hid rfl⟩
 case round=>
  obtain⟨y,rfl,HY,rfl,rfl,HIY,HW⟩:=hrel
  obtain rfl:=HW.out
  cases hel:elK lab2 G3 y with
  | nil=>
   have hyT:y=TO:=by
    have h1:=HIY.out
    cases h1 with
    | stop _=>rfl
    | down h2 _=>rw [hel]at h2;cases h2
   simp only [List.head?_nil,Option.map_none,lk_none]
   have HYT:=Lib.hid hyT
   clear hel hyT
   have hone:=one_any (nb2 y) d w3
   have HONE:=Lib.hid hone
   clear hone
   go_wp2_with fail
   refine HONE.out.mono ?_
   rintro e w5 ⟨rfl,HO5,HB5⟩
   have c05:=cell_below HB5.out c03
   have cs5:=cell_below HB5.out cs3
   have hxm:=HX.out.2.1
   have hpar:=(HD.out.1.node x (by omega)).par
   have e5:(linkR G3 nb2 (lab2 x) (v2 x) x).par=none:=by
    have h1:G3.up x=none:=by rw [←HD.out.2.2.1];exact HWO.out.up3
    simp [linkR,h1]
   rw [e5,HN.out.1,lk_none]at hpar
   have hpar5:=cell_below HB5.out hpar
   have hTOm:TO<m+L.length:=by rw [←HD.out.2.2.2];exact HWO.out.to
   have hkz:G3.kids TO=((G.kids z).map fun y=>m+ix L y)++[]:=by rw [←HD.out.2.2.1,←HD.out.2.2.2,List.append_nil];exact HWO.out.kz3
   have hd5:=HD.out.1.below HB5.out
   have hwg:=HGG.out.1
   have hG3w:((cpW G m L [wd]).put p A.length m).cut x=G3:=HD.out.2.2.1
   have htoe:m+ix L z=TO:=HD.out.2.2.2
   have hkT:(lab2 TO).kind=3:=(HI.out.kind (by
    have :=HC.out.lab 0 hwg.one.pos
    rw [Nat.add_zero]at this
    rw [this]
    have h9:L.getD 0 0=wd:=by
     have h8:=HG.out.2.2.1
     cases hLc:L with
     | nil=>rw [hLc]at h8;cases h8
     | cons a r=>rw [hLc]at h8;simp at h8;simp [h8]
    rw [h9]
    exact HGG.out.2.2.2.2.1) TO rfl)
   have hnbg:∀y∈g,nb2 y=nb y:=fun y hy=>(HC.out.old y (HGG.out.2.2.1 y hy).1).1
   have hrow5:w5.ownsRow S 75 1 (.slice (some ⟨sg,0,none⟩) g.length scap) g.length (g.map fun y=>ptrV (nb2 y)):=by
    rw [List.map_congr_left (fun y hy=>by rw [hnbg y hy]:∀y∈g,ptrV (nb2 y)=ptrV (nb y))]
    refine ownsRow_kept HGG.out.2.2.2.2.2.2.2.2.1 (fun q hq=>?_)
    have hqe:q=sg:=by simp [Value.ownBlock]at hq;exact hq.symm
    subst hqe
    exact HROW5.out w5 HB5.out
   have hnoc:∀a∈g,∀q,q<m+L.length→Anc G3 a q→Anc ((cpW G m L [wd]).put p A.length m) a q:=fun a _ q _ h9=>by rw [←hG3w]at h9;exact h9.of_cut
   have hapW:ApartW G3 g [TO]:=by
    refine⟨fun i j hi hj hne h9=>?_,fun i j hi hj h9=>?_⟩
    ·have hgi:=getD_mem' (d:=0) hi
     have hgj:=getD_mem' (d:=0) hj
     have hjm:=(HGG.out.2.2.1 _ hgj).1
     have him:=(HGG.out.2.2.1 _ hgi).1
     have h1:=hnoc _ hgi _ (by omega) h9
     have h2:=(hull_anc HGX.out HG.out.2.1 HG.out.2.2.1 HX.out.1 him h1 (by omega)).2 hjm
     refine HGG.out.2.2.2.1 _ hgi _ hgj (fun e=>hne ?_) h2
     have hnd9:=HGG.out.2.1
     rw [List.getD_eq_getElem?_getD,List.getD_eq_getElem?_getD,List.getElem?_eq_getElem hi,List.getElem?_eq_getElem hj]at e
     exact((List.getElem_inj hnd9).1 e).symm
    ·obtain rfl:j=0:=by simpa using hj
     have hgi:=getD_mem' (d:=0) hi
     rw [show [TO].getD 0 0=TO from rfl]at h9
     have h1:=hnoc _ hgi _ hTOm h9
     rw [←htoe]at h1
     exact hwg.anc _ hgi h1
   obtain⟨L9,hL9⟩:=HD.out.2.1.flats g
   have hfit5:∀y,y<m+L.length→(lab2 y).attrs.length≤100:=fun y hy=>by
    by_cases h1:y<m
    ·rw [(HC.out.old y h1).2.2];exact HGG.out.2.2.2.2.2.2.1 y h1
    ·have h2:=HC.out.lab (y-m) (by omega)
     rw [show m+(y-m)=y by omega]at h2
     rw [h2]
     exact HGG.out.2.2.2.2.2.2.1 _ (HG.out.2.1.lt _ (getD_mem' (by omega)))
   have hsz13:=HO13.out.size
   have hmn:=manipAny_any (op:=1) (rv0:=false) (.inl ⟨rfl,rfl,rfl⟩) hd5 HD.out.2.1 (w3.heap.size+1) (.slice (some ⟨w3.heap.size,0,none⟩) 1 1) (xs:=[TO]) (ws:=g) w3.heap.size S (by rw [←HYT.out];exact HO5.out.sel (Nat.le_refl _) (by omega)) (by simpa using hTOm) (by simp) (by simp) (.slice (some ⟨sg,0,none⟩) g.length scap) hrow5 (fun q hq=>by
    have hqe:q=sg:=by simp [Value.ownBlock]at hq;exact hq.symm
    subst hqe
    have h8:=HB1.out.size
    refine⟨by omega,fun e=>?_⟩
    simp [Value.ownBlock]at e
    omega) (fun y hy=>by have :=(HGG.out.2.2.1 y hy).1;omega) HGG.out.2.1 HGG.out.2.2.2.2.2.1 hapW hL9 (lab2:=lab2) (.last ⟨hkz,.inl ⟨rfl,rfl,rfl,hkT⟩⟩ rfl (fun _ _=>rfl) rfl) hfit5 (by have :=HGG.out.2.2.2.2.2.2.2.2.2;have :=HB1.out.size;have :=HB5.out.size;omega)
   have hmve:(G3.off g).ins TO (offL g ((G.kids z).map fun y=>m+ix L y)) g (offL g [])=wrapG G m L wd p A z g:=by
    show mv G3 TO _ [] g=_
    unfold wrapG hull
    rw [←hG3w,←htoe]
    exact mv_cut HGG.out.2.2.2.2.2.2.2.1
   rw [hmve]at hmn
   have hmo:Calls Tryz.prog 80 #[.pointer (some ⟨w3.heap.size+1,0,none⟩),.slice (some ⟨sg,0,none⟩) g.length scap,.bool false,.func (.func 81) #[] #[]] w5 (fun e w'=>e=.returned (.pointer (some ⟨w3.heap.size+1,0,none⟩))∧∃nb6 v6,Hid (DomAt B w' (m+L.length) nb6 v6 lab2 (wrapG G m L wd p A z g))∧Hid (∀i,i<m+L.length→nb6 i=nb2 i)∧Hid (OnlyG (m+L.length) nb2 w5 w')):=hmn.mono (fun e w' hh=>by
    obtain⟨rfl,nb6,v6,a1,a2,a3,a4,wm,a5,a6⟩:=hh
    exact⟨rfl,nb6,v6,a1,Lib.hid a3.out.1,Lib.hid (OnlyRow.only a5.out a6.out)⟩)
   rw [HGL.out]at hmo
   have hap:=putAppend (w3.heap.size+1) (.slice (some ⟨sg,0,none⟩) GL scap) w5 hmo
   have HAP:=Lib.hid hap
   clear hap hmo hmn hmve hkz hTOm hpar hpar5 e5 hxm HONE hfit5 hL9 hapW hnoc hrow5 hnbg hkT htoe hG3w hwg hd5 hsz13
   have has:Calls Tryz.prog 133 #[.pointer (some ⟨w3.heap.size+1,0,none⟩),.pointer (some ⟨s,0,none⟩)] w5 (fun e w'=>e=.returned (.pointer (some ⟨w3.heap.size+1,0,none⟩))∧∃nb6 v6,Hid (DomAt B w' (m+L.length) nb6 v6 lab2 (wrapG G m L wd p A z g))∧Hid (∀i,i<m+L.length→nb6 i=nb2 i)∧Hid (OnlyG (m+L.length) nb2 w5 w')):=by
    go_enter Tryz.func133,Tryz.ntmps133
    go_wp2_with fail
    refine HAP.out.mono ?_
    rintro e w6 ⟨rfl,hx⟩
    have HX6:=Lib.hid hx
    clear hx
    go_wp2
    go_ret
    exact⟨rfl,HX6.out⟩
   have HAS:=Lib.hid has
   clear has HAP
   go_wp2_with fail
   refine HAS.out.mono ?_
   rintro e w6 ⟨rfl,nb6,v6,HD6,HN6,HO6⟩
   have hog:OnlyG m nb w w6:=by
    have h1:OnlyG m nb w w1:=(OnlyG.refl m nb w).of_below HB1.out
    have hold:∀i,i<m→nb2 i=nb i:=fun i hi=>(HC.out.old i hi).1
    have hnew:∀i,m≤i→i<m+L.length→w.heap.size≤nb2 i:=HC.out.new
    have h2:=h1.turn HO13.out hold hnew
    have h3:=h2.of_below HB5.out
    exact h3.turnG HO6.out hold hnew
   have hfin:(∀i,i<m→nb6 i=nb i∧lab2 i=lab i)∧(∀i,m≤i→i<m+L.length→w.heap.size≤nb6 i)∧∀i,i<L.length→lab2 (m+i)=lab (L.getD i 0):=
    ⟨fun i hi=>⟨(HN6.out i (by omega)).trans (HC.out.old i hi).1,(HC.out.old i hi).2.2⟩,fun i h1 h2=>by rw [HN6.out i h2];exact HC.out.new i h1 h2,HC.out.lab⟩
   have HFIN:=Lib.hid hfin
   have HOG:=Lib.hid hog
   clear hfin hog HAS
   go_wp2
   go_ret
   exact⟨nb6,v6,lab2,rfl,HFIN,HD6,HOG⟩
  | cons q r=>
   have hr:r=[]∧Inm lab2 G3 q (some TO):=by
    have h1:=HIY.out
    cases h1 with
    | stop h2=>rw [hel]at h2;cases h2
    | down h2 h3=>
     rw [hel]at h2
     cases h2
     exact⟨rfl,h3⟩
   obtain⟨rfl,hiq⟩:=hr
   have hqy:q∈G3.kids y:=elK_mem (lab:=lab2) (by rw [hel];simp)
   have hqn:=(HD.out.2.1.lt y q hqy).2
   have hdq:=HDD.out.2 y q ((HD.out.2.1.iff y q).1 hqy)
   have hmq:=HDD.out.1 q
   have HFQ:=Lib.hid (HFE.out q hqn)
   have HIQ:=Lib.hid hiq
   have HQN:=Lib.hid hqn
   simp only [List.head?_cons,Option.map_some,lk_some]
   clear hel hiq hqy hqn
   go_wp2_with fail
   refine HFQ.out.mono ?_
   rintro e w5 ⟨rfl,rfl⟩
   clear HFQ
   go_wp2
   go_roundg (M-dd q)
   case measure=>omega
   case rel=>exact⟨q,rfl,HQN,rfl,rfl,HIQ,Lib.hid rfl⟩
def grpsOf(op:Int)(F:Wd)(xs:List Nat):List (List Nat):=if op=10 then [xs]else if op=11 then xs.map F.kids else xs.map fun x=>[x]
def InnerOk(op:Int)(lab:Nat→NodeD)(F:Wd)(wd:Nat)(xs:List Nat):Prop:=op=11→∀x∈xs,(lab x).kind=3∧F.kids x≠[]∧¬Anc F x wd
theorem kids_flat_nodup{n:Nat}{F:Wd}(hF:WOk n F):∀{xs:List Nat},xs.Nodup→(xs.map F.kids).flatten.Nodup
 | [],_=>by simp
 | x::r,h=>by
  rw [List.nodup_cons]at h
  rw [List.map_cons,List.flatten_cons,List.nodup_append]
  refine⟨hF.nd x,kids_flat_nodup hF h.2,fun a ha b hb e=>?_⟩
  subst e
  obtain⟨l,hl,hal⟩:=List.mem_flatten.1 hb
  obtain⟨y,hy,rfl⟩:=List.mem_map.1 hl
  have h1:=(hF.iff x a).1 ha
  rw [(hF.iff y a).1 hal]at h1
  cases h1
  exact h.1 hy
theorem singles_flat(xs:List Nat):(xs.map fun x=>[x]).flatten=xs:=by
 induction xs with
 | nil=>rfl
 | cons a r ih=>rw [List.map_cons,List.flatten_cons,ih];rfl
theorem grps_side{op:Int}{n:Nat}{lab:Nat→NodeD}{F:Wd}{wd:Nat}{xs L:List Nat}(hF:WOk n F)(hL:Fl F.kids [wd] L)(hwd:wd<n)(hnd:xs.Nodup)(hxs:∀x∈xs,x<n)(hap:∀x∈xs,¬Anc F wd x)(hst:∀x∈xs,∃p,F.up x=some p)(hin:InnerOk op lab F wd xs):WgSide n F wd L (grpsOf op F xs):=by
 have hcp:=cpOk_of hF hL (lone_one F wd) (fun z hz=>by simp at hz;omega)
 have hnot:∀x,¬Anc F wd x→x∉L:=fun x hx hm=>by
  obtain⟨q,hq,ha⟩:=(hL.anc hF x).1 hm
  simp at hq
  subst hq
  exact hx ha
 have key:∀y,y∈xs→y<n∧y∉L∧∃p,F.up y=some p∧p∉L:=fun y hy=>by
  obtain⟨p,hp⟩:=hst y hy
  exact⟨hxs y hy,hnot y (hap y hy),p,hp,hnot p (fun ha=>hap y hy (.step hp ha))⟩
 unfold grpsOf
 by_cases h10:op=10
 ·rw [if_pos h10]
  exact⟨hF,hcp,hL.head,by simpa using hnd,fun y hy=>key y (by simpa using hy)⟩
 ·rw [if_neg h10]
  by_cases h11:op=11
  ·rw [if_pos h11]
   refine⟨hF,hcp,hL.head,kids_flat_nodup hF hnd,fun y hy=>?_⟩
   obtain⟨l,hl,hyl⟩:=List.mem_flatten.1 hy
   obtain⟨x,hx,rfl⟩:=List.mem_map.1 hl
   have hu:=(hF.iff x y).1 hyl
   refine⟨(hF.lt x y hyl).2,fun hm=>?_,x,hu,hnot x (hap x hx)⟩
   by_cases e:y=wd
   ·subst e
    exact((hin h11) x hx).2.2 (.step hu .refl)
   ·obtain⟨p,hp,hup⟩:=hcp.up y hm (by simpa using e)
    rw [hu]at hup
    cases hup
    exact hnot _ (hap _ hx) hp
  ·rw [if_neg h11]
   refine⟨hF,hcp,hL.head,by rw [singles_flat];exact hnd,fun y hy=>key y (by rwa [singles_flat]at hy)⟩
theorem grps_ne{op:Int}{lab:Nat→NodeD}{F:Wd}{wd:Nat}{xs:List Nat}(hx:xs≠[])(hin:InnerOk op lab F wd xs):∀g∈grpsOf op F xs,g≠[]:=by
 intro g hg
 unfold grpsOf at hg
 by_cases h10:op=10
 ·rw [if_pos h10]at hg
  simp at hg
  subst hg
  exact hx
 ·rw [if_neg h10]at hg
  by_cases h11:op=11
  ·rw [if_pos h11]at hg
   obtain⟨x,hxx,rfl⟩:=List.mem_map.1 hg
   exact((hin h11) x hxx).2.1
  ·rw [if_neg h11]at hg
   obtain⟨x,_,rfl⟩:=List.mem_map.1 hg
   simp
structure GroupsG (w:World) (B0:Nat) (gv:Value) (gs:List (List Nat)) (kn:Nat→Nat) (k:Nat) (vals:Nat→Value):Prop where
 row:w.ownsRow B0 66 1 gv k ((List.range k).map vals)
 each:∀q,q<k→∃Bq,w.ownsRow Bq 69 1 (vals q) (gs.getD q []).length ((gs.getD q []).map fun y=>ptrV (kn y))
theorem GroupsG.onlyK{B B0:Nat}{w w':World}{n:Nat}{kn kn0:Nat→Nat}{kv av:Nat→Value}{pl:Nat→Int}{lab:Nat→NodeD}{F:Wd}{gv:Value}{gs:List (List Nat)}{k:Nat}{vals:Nat→Value}(h:GroupsG w B0 gv gs kn0 k vals)(hK:Knots B w n kn kv av pl lab F)(ho:OnlyK n kn w w'):GroupsG w' B0 gv gs kn0 k vals:=
 ⟨ownG_onlyK hK (by decide) h.row ho,fun q hq=>(h.each q hq).imp fun _ hr=>ownG_onlyK hK (by decide) hr ho⟩
theorem GroupsG.keptF{B0:Nat}{w w':World}{f:Nat}{cs:Array Value}(hf:World.objAt w f cs 68){kn0:Nat→Nat}{gv:Value}{gs:List (List Nat)}{k:Nat}{vals:Nat→Value}(h:GroupsG w B0 gv gs kn0 k vals)(hk:KeptF f w w'):GroupsG w' B0 gv gs kn0 k vals:=
 ⟨ownG_keptF hf (by decide) h.row hk,fun q hq=>(h.each q hq).imp fun _ hr=>ownG_keptF hf (by decide) hr hk⟩
theorem GroupsG.below{B0:Nat}{w w':World}{kn0:Nat→Nat}{gv:Value}{gs:List (List Nat)}{k:Nat}{vals:Nat→Value}(h:GroupsG w B0 gv gs kn0 k vals)(hb:Below w.heap.size w w'):GroupsG w' B0 gv gs kn0 k vals:=
 ⟨ownsRow_kept h.row (fun b hb2=>hb.block b (World.ownsRow.lt h.row b hb2).2),fun q hq=>(h.each q hq).imp fun _ hr=>ownsRow_kept hr (fun b hb2=>hb.block b (World.ownsRow.lt hr b hb2).2)⟩
theorem drop_consG{gs:List (List Nat)}{i:Nat}(h:i<gs.length):gs.drop i=gs.getD i []::gs.drop (i+1):=by
 rw [List.drop_eq_getElem_cons h,List.getD_eq_getElem?_getD,List.getElem?_eq_getElem h]
 rfl
structure WgOut (n:Nat) (kn:Nat→Nat) (pl:Nat→Int) (lab:Nat→NodeD) (F:Wd) (wd:Nat) (gs:List (List Nat)) (L:List Nat) (i m:Nat) (kn':Nat→Nat) (pl':Nat→Int) (lab':Nat→NodeD) (G:Wd):Prop where
 old:∀q,q<n→kn' q=kn q∧pl' q=pl q
 new:∀q,n≤q→q<m→pl' q= -1
 mid:WgMid n F lab L (gs.drop i) m lab' G
 side:WgSide n F wd L (gs.drop i)
 exact :∀n2 lab2 G2,WrapsG wd L n2 lab2 G2 (gs.drop i) m lab' G→WrapsG wd L n2 lab2 G2 gs n lab F
def WrapGPost(op:Int)(B n:Nat)(kn:Nat→Nat)(pl:Nat→Int)(lab:Nat→NodeD)(F:Wd)(f len:Nat)(vf:Value)(wd:Nat)(xs:List Nat)(w:World)(e:Ending)(w':World):Prop:=
 (e=.returned (.bool false)∧Hid (Below B w w'))∨
 (∃m kn' kv' av' pl' lab' G L,e=.returned (.bool true)∧m≤600∧(∀q,q<n→kn' q=kn q∧pl' q=pl q∧lab' q=lab q)∧(∀q,n≤q→q<m→pl' q= -1)∧Fl F.kids [wd] L∧InnerOk op lab F wd xs∧WgSide n F wd L (grpsOf op F xs)∧(lab wd).kind=3∧WrapsG wd L m lab' G (grpsOf op F xs) n lab F∧
  Hid (Knots B w' m kn' kv' av' pl' lab' G)∧Hid (ForestK B w' f vf len kn (m:Int) false)∧Hid (Below B w w'))∨
 (e=.returned (.bool true)∧∃many,Hid (ForestK B w' f vf len kn many true)∧Hid (Below B w w'))
theorem slice_one{g L cap i:Nat}(h:i<L)(hL:L≤cap)(z:Int)(hz:z=((i+1:Nat):Int))(w:World):
  (Instr.sliceAt 66 (.slice (some ⟨g,0,none⟩) L cap) (some (.int .i64 (i:Int))) (some (.int .i64 z)) none).run Tryz.prog w=.ok (.slice (some ⟨g,i,none⟩) 1 (cap-i)) w∧
  (Instr.slice 66 (.slice (some ⟨g,0,none⟩) L cap) (some (.int .i64 (i:Int))) (some (.int .i64 z)) none).run Tryz.prog w=.ok (.slice (some ⟨g,i,none⟩) 1 (cap-i)) w:=by
 obtain⟨i0,hi,hz0,hz1,hz2⟩:=info_parts Tryz.infoKnotP
 obtain⟨N,hN⟩:∃N:Nat,i+1=N:=⟨_,rfl⟩
 rw [hN]at hz
 subst hz
 have h1I:(N:Int)≤(cap:Int):=by omega
 have h2I:(i:Int)≤(N:Int):=by omega
 have hci:cap≠i:=by omega
 have hNi:N-i=1:=by omega
 have hA:(if i=0 then(⟨g,0,none⟩:Addr)else⟨g,i,none⟩)=⟨g,i,none⟩:=by
  split
  ·rename_i e0;subst e0;rfl
  ·rfl
 have h1:(Instr.slice 66 (.slice (some ⟨g,0,none⟩) L cap) (some (.int .i64 (i:Int))) (some (.int .i64 (N:Int))) none).run Tryz.prog w=.ok (.slice (some ⟨g,i,none⟩) 1 (cap-i)) w:=by
  simp [Instr.slice,run_underlying Tryz.underlying66,Instr.sliceBounds,run_sliceBound,h1I,h2I,sizeOf,typeInfo,hi,hz1,Result.andThen,Addr.add,hA,hci,hNi]
 exact⟨by simp [Instr.sliceAt,run_underlying Tryz.underlying66,h1],h1⟩
set_option maxRecDepth 100000 in
set_option maxHeartbeats 1000000 in
theorem areOne_any{B:Nat}{w:World}{n:Nat}{kn:Nat→Nat}{kv av:Nat→Value}{pl:Nat→Int}{lab:Nat→NodeD}{F:Wd}(h:Knots B w n kn kv av pl lab F)(g i c:Nat){x:Nat}(hx:x<n)(ci:w.cell? ⟨g,i,none⟩=some (.pointer (some ⟨kn x,0,none⟩))):
  Calls Tryz.prog 60 #[.slice (some ⟨g,i,none⟩) 1 c] w (fun e w'=>e=.returned (.bool (decide ((lab x).kind=3)))∧w'=w):=by
 have c1:=(h.node x hx).cell (i:=1) (v:=.int .i64 (lab x).kind) rfl
 obtain⟨q,hq⟩:∃q,(lab x).kind=q:=⟨_,rfl⟩
 rw [hq]at c1 ⊢
 have hadd:(⟨g,i,none⟩:Addr).add 0=⟨g,i,none⟩:=by unfold Addr.add;split <;> simp_all
 clear h hq hx
 go_enter Tryz.func60,Tryz.ntmps60
 by_cases e:q=3
 ·have ge:(q !=3)=false:=by simp [e]
  have HE:=Lib.hid e
  clear e
  go_wp2
  go_loopw [3] (fun iv wr=>∃k:Nat,k≤1∧iv=.int .i64 (k:Int)∧w=wr) (fun iv _=>1-(intOf iv).toNat)
  case atStart=>exact⟨0,by omega,by go_num,rfl⟩
  case round=>
   obtain⟨k,hk,rfl,rfl⟩:=hrel
   rcases(show k=0∨k=1 by omega)with rfl | rfl
   ·go_wp2
    refine⟨⟨1,by omega,by go_num,by first | rfl | trivial⟩,by simp [intOf]⟩
   ·go_wp2
    go_ret
    exact⟨by rw [HE.out];rfl,rfl⟩
 ·have ge:(q !=3)=true:=by simp [e]
  have HE:=Lib.hid e
  clear e
  go_wp2
  go_loopw [3] (fun iv wr=>iv=.int .i64 0∧w=wr) (fun iv _=>1)
  case atStart=>exact⟨rfl,rfl⟩
  case round=>
   obtain⟨rfl,rfl⟩:=hrel
   go_wp2
   go_ret
   exact⟨by rw [decide_eq_false HE.out];rfl,rfl⟩
end Go.Proofs.YtkdomegcacgpnaaGreat
