/- Parts of a proof: ManipAny. -/
import Derived.Test.YtkdomegcacgpnaaGreatG19
import Derived.Test.YtkdomegcacgpnaaGreatG20
import Derived.Test.YtkdomegcacgpnaaGreatG09
import Derived.Test.YtkdomegcacgpnaaGreatG21
import Derived.BigRegion
import Derived.RegionTactic
import Derived.ChangeAlike
set_option linter.unusedVariables false
set_option linter.unusedSimpArgs false
namespace Go.Proofs.YtkdomegcacgpnaaGreat
open Go.RowKit
structure OnlyRow (u:Option Nat) (a w:World):Prop where
 size:w.heap.size=a.heap.size
 block:∀k,k<a.heap.size→some k≠u→w.heap[k]? =a.heap[k]?
 below:∀B,(∀k,u=some k→B≤k)→Below B a w
theorem OnlyRow.refl(u:Option Nat)(a:World):OnlyRow u a a:=⟨rfl,fun _ _ _=>rfl,fun _ _=>Below.refl _ _⟩
theorem OnlyRow.set{g:Nat}{a w:World}(h:OnlyRow (some g) a w)(o:Nat)(v:Value):OnlyRow (some g) a (w.setCell ⟨g,o,none⟩ v):=
 ⟨by rw [←h.size];simp [World.setCell],fun k hk hn=>(Below.heap_setCell w ⟨g,o,none⟩ v k (fun e=>hn (by rw [e]))).trans (h.block k hk hn),fun B hB=>(h.below B hB).setCell (hB g rfl) v⟩
theorem OnlyRow.drew{u:Option Nat}{a w:World}(h:OnlyRow u a w):OnlyRow u a w.drew:=⟨h.size,h.block,fun B hB=>(h.below B hB).drew⟩
theorem OnlyRow.cell{u:Option Nat}{a w:World}(h:OnlyRow u a w){q o:Nat}{z:Value}(hq:some q≠u)(hz:a.cell? ⟨q,o,none⟩=some z):w.cell? ⟨q,o,none⟩=some z:=
 (World.cell?_of_block (h.block q (World.block_lt_of_cell? _ _ hz) hq)).trans hz
theorem OnlyRow.any{u:Option Nat}{a w:World}(h:OnlyRow none a w):OnlyRow u a w:=⟨h.size,fun k hk _=>h.block k hk (by simp),fun B _=>h.below B (by simp)⟩
theorem OnlyRow.only{n:Nat}{nb:Nat→Nat}{a w w':World}(h:OnlyRow none a w)(ho:OnlyG n nb w w'):OnlyG n nb a w':=
 ⟨by rw [←h.size];exact ho.size,fun k hk hn=>(ho.block k (by rw [h.size];exact hk) hn).trans (h.block k hk (by simp)),fun B hB hn=>(h.below B (by simp)).trans (ho.below B (by rw [h.size];exact hB) hn)⟩
def rvU(rv:Bool)(v:Value):Option Nat:=match rv with | true=>v.ownBlock | false=>none
def ManipManyPost(u:Option Nat)(s B n:Nat)(nb:Nat→Nat)(n2:Nat)(lab2:Nat→NodeD)(G2:Wd)(w:World)(e:Ending)(w':World):Prop:=e=.returned (.pointer (some ⟨s,0,none⟩))∧∃nb2 v2,Hid (DomAt B w' n2 nb2 v2 lab2 G2)∧Hid (WOk n2 G2)∧Hid ((∀i,i<n→nb2 i=nb i)∧∀i,n≤i→i<n2→w.heap.size≤nb2 i)∧Hid (n≤n2)∧∃wm,Hid (OnlyRow u w wm)∧Hid (OnlyG n nb wm w')
theorem kids_lt{n:Nat}{F:Wd}(hF:WOk n F){p:Nat}{A B:List Nat}(h:F.kids p=A++B):∀y,y∈A∨y∈B→y<n:=fun y hy=>(hF.lt p y (by rw [h,List.mem_append];exact hy)).2
structure CopW (H n m:Nat) (nb nb3:Nat→Nat) (lab' lab4:Nat→NodeD) (Lk:List Nat):Prop where
 old:∀q,q<n→nb3 q=nb q
 new:∀q,n≤q→q<m+Lk.length→H≤nb3 q
 lab:∀q,q<m→lab4 q=lab' q
 lab2:∀q,q<Lk.length→lab4 (m+q)=lab' (Lk.getD q 0)
theorem CopW.step{H H2 n m:Nat}{nb nb3 nb5:Nat→Nat}{lab' lab4 lab5:Nat→NodeD}{Lk Ly:List Nat}{v3 v5:Nat→Value}{F:Wd}(h:CopW H n m nb nb3 lab' lab4 Lk)(hH:H≤H2)(hnm:n≤m)(h2:ClonedW H2 (m+Lk.length) nb3 v3 lab4 F Ly nb5 v5 lab5)(hy:∀z∈Ly,z<m):CopW H n m nb nb5 lab' lab5 (Lk++Ly):=by
 refine⟨fun q hq=>?_,fun q h1 h3=>?_,fun q hq=>?_,fun q hq=>?_⟩
 ·rw [(h2.old q (by omega)).1];exact h.old q hq
 ·rw [List.length_append]at h3
  by_cases e:q<m+Lk.length
  ·rw [(h2.old q e).1];exact h.new q h1 e
  ·exact Nat.le_trans hH (h2.new q (by omega) (by omega))
 ·rw [(h2.old q (by omega)).2.2];exact h.lab q hq
 ·rw [List.length_append]at hq
  by_cases e:q<Lk.length
  ·rw [getD_app_left e,(h2.old _ (by omega)).2.2];exact h.lab2 q e
  ·have h5:=h2.lab (q-Lk.length) (by omega)
   have h6:Ly.getD (q-Lk.length) 0∈Ly:=getD_mem' (by omega)
   rw [h.lab _ (hy _ h6)]at h5
   rw [getD_app_right (by omega),←h5]
   congr 1
   omega
theorem drop_two{xs:List Nat}{i:Nat}(h:i+1<xs.length):∃y r,xs.drop i=xs.getD i 0::y::r∧xs.drop (i+1)=y::r:=by
 have h1:i<xs.length:=by omega
 refine⟨xs[i+1],xs.drop (i+2),?_,?_⟩
 ·rw [List.drop_eq_getElem_cons h1,List.drop_eq_getElem_cons h,List.getD_eq_getElem?_getD,List.getElem?_eq_getElem h1]
  rfl
 ·rw [List.drop_eq_getElem_cons h]
theorem drop_one{xs:List Nat}{i:Nat}(h:i+1=xs.length):xs.drop i=[xs.getD i 0]:=by
 have h1:i<xs.length:=by omega
 rw [List.drop_eq_getElem_cons h1,List.getD_eq_getElem?_getD,List.getElem?_eq_getElem h1,List.drop_of_length_le (by omega)]
 rfl
def cpR(rv:Bool)(G:Wd)(m:Nat)(L T:List Nat)(p:Nat)(A B:List Nat):Wd:=(cpW G m L T).ins p A (rvL rv (T.map fun v=>m+ix L v)) B
theorem cpR_nil{rv:Bool}{G:Wd}{m p:Nat}{A B:List Nat}(h:G.kids p=A++B):cpR rv G m [] [] p A B=G:=by
 cases rv
 ·exact cpB_nil h
 ·exact cpA_nil h
set_option maxRecDepth 100000 in
set_option maxHeartbeats 8000000 in
theorem manipAny_any{op:Int}{rv0:Bool}{cl:Value}(hcl:CloIs op rv0 cl){B n:Nat}{w:World}{nb:Nat→Nat}{v:Nat→Value}{lab:Nat→NodeD}{F:Wd}(h:DomAt B w n nb v lab F)(hF:WOk n F)(s:Nat)(sv:Value){xs ws:List Nat}(S R:Nat)(hs:SelAt w s sv (xs.map nb) S)(hxs:∀x∈xs,x<n)(hx0:0<xs.length)(hxl:xs.length≤200)
  (nv:Value) (hns:w.ownsRow R 75 1 nv ws.length (ws.map fun y=>ptrV (nb y))) (hsep:∀g,nv.ownBlock=some g→g≠s∧sv.ownBlock≠some g) (hws:∀y∈ws,y<n) (hnd:ws.Nodup) (hwl:ws.length≤600) (hap:ApartW F ws xs) {L:List Nat} (hL:Fl F.kids ws L) {n2:Nat} {lab2:Nat→NodeD} {G2:Wd} (hM:Many op ws L n2 lab2 G2 xs n lab F) (hfit:∀y,y<n→(lab y).attrs.length≤100) (hB:B≤w.heap.size):
  Calls Tryz.prog 80 #[.pointer (some ⟨s,0,none⟩),nv,.bool rv0,cl] w (ManipManyPost (rvU rv0 nv) s B n nb n2 lab2 G2 w):=by
 have hown:w.ownsRow S 75 1 sv xs.length (xs.map fun y=>ptrV (nb y)):=by
  have h1:=hs.own
  unfold OwnPtrs at h1
  rw [List.length_map,List.map_map]at h1
  exact h1
 have c00:=hs.nodes
 obtain⟨sa,scap,rfl⟩:=ownsRow_slice hown
 obtain⟨sg,rfl⟩:∃sg,sa=some ⟨sg,0,none⟩:=by
  rcases hown.2 with ⟨_,h2⟩ | ⟨g0,c0_,cur,hv_,_⟩
  ·omega
  ·simp at hv_;exact⟨g0,hv_.1⟩
 have c0:=c00
 obtain⟨na,ncap,ng,hnv,_,_,hn1,hn2,_,_⟩:=own_open hns
 subst hnv
 have hsgS:=row_ne h hown
 have hngS:0<ws.length→∀i,i<n→ng≠nb i:=fun h0=>by
  have h9:=hns
  rw [hn1 h0]at h9
  exact row_ne h h9
 have HCS:=Lib.hid (own_nodes hown)
 have HSZ:=Lib.hid (size_any s _ _ _ w c0)
 have HD:=Lib.hid h
 have HF:=Lib.hid hF
 have HS:=Lib.hid (And.intro hsgS hngS)
 have hdap:∀wr,OnlyRow (Value.slice na ws.length ncap).ownBlock w wr→DomAt B wr n nb v lab F:=fun wr ho=>h.apart hns (fun k hk hne=>ho.block k hk hne)
 have hsep2:some s≠(Value.slice na ws.length ncap).ownBlock∧some sg≠(Value.slice na ws.length ncap).ownBlock:=⟨fun e=>(hsep s e.symm).1 rfl,fun e=>(hsep sg e.symm).2 rfl⟩
 have HDAP:=Lib.hid (And.intro hdap hsep2)
 have HROW:=Lib.hid hns
 have HNA:=Lib.hid hn1
 have HW:=Lib.hid (And.intro hws (And.intro hnd (And.intro hxs hap)))
 have HLL:=Lib.hid (And.intro hL (apart_lone hap hnd))
 have HMY:=Lib.hid hM
 have HW5:=Lib.hid (And.intro hfit hB)
 obtain⟨rv,hrv⟩:∃rv,rv=rv0:=⟨_,rfl⟩
 have HRV:=Lib.hid hrv
 have HCL:=Lib.hid hcl
 clear h hF hs hown hns hn1 hn2 hws hnd hxs hap hL hM hsgS hngS hfit hB hrv hcl hdap hsep hsep2
 go_enter Tryz.func80,Tryz.ntmps80
 go_wp2_with fail
 refine HSZ.out.mono ?_
 rintro e w1 ⟨rfl,rfl⟩
 clear HSZ
 cases rv0
 case' false=>
  have HBr:=Lib.hid (OnlyRow.refl (Value.slice na ws.length ncap).ownBlock w)
  have HBF:=Lib.hid (OnlyRow.refl (rvU false (.slice na ws.length ncap)) w)
  have hrow:w.ownsRow R 75 1 (.slice na ws.length ncap) (rvL rv ws).length ((rvL rv ws).map fun y=>ptrV (nb y)):=by
   rw [show rvL rv ws=ws by rw [HRV.out];rfl]
   exact HROW.out
  obtain⟨wr,hwr⟩:∃wr,wr=w:=⟨_,rfl⟩
  subst hwr
 case' true=>
  go_wp2
  go_loopw [10,11] (fun iv jv wr=>∃k:Nat,k≤ws.length∧iv=.int .i64 (k:Int)∧jv=.int .i64 ((ws.length:Int)-1-(k:Int))∧Hid (OnlyRow (Value.slice na ws.length ncap).ownBlock w wr)∧Hid (wr.ownsRow R 75 1 (.slice na ws.length ncap) ws.length ((List.range ws.length).map fun q=>ptrV (nb (swp ws k q))))) (fun iv _ _=>ws.length-(intOf iv).toNat)
  case atStart=>
   refine⟨0,by omega,by go_num,by go_num,Lib.hid (OnlyRow.refl _ _),Lib.hid ?_⟩
   have h1:=HROW.out
   rw [row_range]at h1
   have e:((List.range ws.length).map fun q=>ptrV (nb (swp ws 0 q)))=(List.range ws.length).map fun q=>ptrV (nb (ws.getD q 0)):=List.map_congr_left (fun q hq=>by rw [swp_zero (List.mem_range.1 hq)])
   rw [e]
   exact h1
  case' round=>
   obtain⟨k,hk,rfl,rfl,HBr,HRr⟩:=hrel
   by_cases hlt:2*k+1<ws.length
   ·obtain⟨J,hJ⟩:∃J:Nat,ws.length-1-k=J:=⟨_,rfl⟩
    have hJI:(ws.length:Int)-1-(k:Int)=(J:Int):=by omega
    rw [hJI]
    have hkJ:(k:Int)<(J:Int):=by omega
    have hkm:(k:Int)<(ws.length:Int):=by omega
    have hJm:(J:Int)<(ws.length:Int):=by omega
    obtain rfl:=HNA.out (by omega)
    have ck:=row_cell (f:=fun q=>nb (swp ws k q)) HRr.out (i:=k) (by omega)
    have cJ:=row_cell (f:=fun q=>nb (swp ws k q)) HRr.out (i:=J) (by omega)
    obtain⟨b1,hb1⟩:∃b1,nb (swp ws k k)=b1:=⟨_,rfl⟩
    obtain⟨b2,hb2⟩:∃b2,nb (swp ws k J)=b2:=⟨_,rfl⟩
    simp only [hb1]at ck
    simp only [hb2]at cJ
    have hne:k≠J:=by omega
    have fk:wr.frozen? ⟨ng,k,none⟩=false:=World.ownsRow.frozenAt HRr.out k
    have fJ:wr.frozen? ⟨ng,J,none⟩=false:=World.ownsRow.frozenAt HRr.out J
    have HSW:=Lib.hid (And.intro hJ (And.intro hb1 hb2))
    clear hJ hb1 hb2 hJI
    go_wp2
    go_region
    go_wp2
    obtain⟨eJ,e1,e2⟩:=HSW.out
    have hown2:=ownsRow_set (ownsRow_set HRr.out (i:=k) (by omega) (ptrV b2)) (i:=J) (by omega) (ptrV b1)
    rw [rev_step2 hlt eJ e1 e2]at hown2
    have hJI2:(J:Int)=(ws.length:Int)-1-(k:Int):=by omega
    refine⟨?rel,?measure⟩
    case rel=>exact⟨k+1,by omega,by go_num,by go_num,Lib.hid (OnlyRow.set (OnlyRow.set HBr.out _ _) _ _).drew,Lib.hid (ownsRow_kept hown2 (fun _ _=>rfl))⟩
    case measure=>simp [intOf];omega
   case' neg=>
    have hrow:wr.ownsRow R 75 1 (.slice na ws.length ncap) (rvL rv ws).length ((rvL rv ws).map fun y=>ptrV (nb y)):=by
     have h1:=HRr.out
     rw [rev_end (by omega)]at h1
     rw [show rvL rv ws=ws.reverse by rw [HRV.out];rfl,List.length_reverse]
     exact h1
    have hjf:decide ((k:Int)<(ws.length:Int)-1-(k:Int))=false:=by simp;omega
    have HBF:Hid (OnlyRow (rvU true (.slice na ws.length ncap)) w wr):=HBr
    clear hlt HRr hk
 all_goals
   obtain⟨V,hV⟩:∃V,rvL rv ws=V:=⟨_,rfl⟩
   have hVl:V.length=ws.length:=by rw [←hV,rvL_len]
   have hVm:∀y,y∈V↔y∈ws:=fun y=>by rw [←hV];exact rvL_mem
   have hVn:V.Nodup:=by rw [←hV];exact rvL_nd HW.out.2.1
   rw [hV]at hrow
   have hVc:0<ws.length→∀i,i<V.length→wr.cell? ⟨ng,i,none⟩=some (.pointer (some ⟨nb (V.getD i 0),0,none⟩)):=fun h0=>by
    obtain rfl:=HNA.out h0
    rw [←hVl]at hrow
    exact own_nodes hrow
   have hdm:=HDAP.out.1 _ HBr.out
   have c1:=HBr.out.cell HDAP.out.2.1 c00
   have hcs1:∀i,i<xs.length→wr.cell? ⟨sg,i,none⟩=some (.pointer (some ⟨nb (xs.getD i 0),0,none⟩)):=fun i hi=>HBr.out.cell HDAP.out.2.2 (HCS.out i hi)
   have HCS1:=Lib.hid hcs1
   have HVV:=Lib.hid (And.intro hV (And.intro hVm (And.intro hVn hVc)))
   have HDM:=Lib.hid hdm
   have HVL:=Lib.hid hVl
   clear hV hVm hVn hVc hrow hdm c00 c0 HROW HCS hcs1
   obtain⟨mm,hm⟩:∃m,ws.length=m:=⟨_,rfl⟩
   have HM:=Lib.hid hm
   rw [hm]at hwl hVl ⊢
   (try rw [hm]at hjf)
   clear hm hVl
   obtain⟨XL,hXL⟩:∃XL,xs.length=XL:=⟨_,rfl⟩
   have HXL:=Lib.hid hXL
   rw [hXL]at c1 hxl hx0 ⊢
   have hXI:(0:Int)<(XL:Int):=by omega
   clear hXL
   obtain⟨wa,hwa⟩:∃wa,wa=wr:=⟨_,rfl⟩
   subst hwa
   have hwas:=Nat.le_of_eq HBr.out.size.symm
   rcases HCL.out with ⟨ho,hr,hcl⟩ | ⟨ho,hr,hcl⟩ | ⟨ho,hr,hcl⟩ | ⟨ho,hr,hcl⟩
   all_goals
    first | (exfalso;exact absurd hr (by decide)) | skip
   all_goals
    subst hcl
    have HO9:=Lib.hid ho
    have HR9:=Lib.hid (HRV.out.trans hr)
    clear ho hr
    go_wp2
    go_loopw [49] (fun iv wq=>∃(i m:Nat) (nb':Nat→Nat) (v':Nat→Value) (lab':Nat→NodeD) (G:Wd),iv=.int .i64 (i:Int)∧i≤XL∧Hid (OnlyG n nb wa wq)∧Hid (DomAt B wq m nb' v' lab' G)∧Hid ((∀q,q<n→nb' q=nb q)∧∀q,n≤q→q<m→wa.heap.size≤nb' q)∧Hid (n≤m)∧((i<XL∧Hid (MidW n F L m G∧Many op ws L n2 lab2 G2 (xs.drop i) m lab' G∧∀q,q<n→lab' q=lab q))∨(i=XL∧Hid (m=n2∧G=G2∧(∀q,q<m→lab2 q=lab' q)∧WOk m G)))) (fun iv _=>XL-(intOf iv).toNat)
    case atStart=>exact⟨0,n,nb,v,lab,F,by go_num,by omega,Lib.hid (OnlyG.refl _ _ _),HDM,Lib.hid ⟨fun _ _=>rfl,fun q h1 h2=>by omega⟩,Lib.hid (Nat.le_refl _),.inl ⟨by omega,Lib.hid ⟨MidW.refl HF.out L,by rw [List.drop_zero];exact HMY.out,fun _ _=>rfl⟩⟩⟩
    case round=>
     obtain⟨i,m,nb',v',lab',G,rfl,hiX,HO,HDr,HNN,HNM,hcase⟩:=hrel
     have keep:∀(w':World),OnlyG n nb wa w'→∀(q o:Nat) (z:Value),(∀i,i<n→q≠nb i)→wa.cell? ⟨q,o,none⟩=some z→w'.cell? ⟨q,o,none⟩=some z:=fun w' ho q o z hq hz=>
      (World.cell?_of_block (ho.block q (World.block_lt_of_cell? _ _ hz) hq)).trans hz
     have HKEEP:=Lib.hid keep
     clear keep
     rcases hcase with ⟨hlt,HMI⟩ | ⟨rfl,HFIN⟩
     ·obtain⟨hmid,hmany,hlabs⟩:=HMI.out
      obtain⟨x,hx⟩:∃x,xs.getD i 0=x:=⟨_,rfl⟩
      have hltx:i<xs.length:=by rw [HXL.out];exact hlt
      have hxn:x<n:=by rw [←hx];exact HW.out.2.2.1 _ (getD_mem' hltx)
      have cx:=HKEEP.out _ HO.out sg i _ HS.out.1 (HCS1.out i hltx)
      rw [hx]at cx
      have hanx:∀v∈ws,¬Anc F v x:=fun v hv=>by
       obtain⟨k,hk,rfl⟩:=List.getElem_of_mem hv
       have :=HW.out.2.2.2.on k i hk hltx
       rw [hx]at this
       simpa [List.getD,hk]using this
      have hnm:=HNM.out
      have hiI:(i:Int)<(XL:Int):=by omega
      by_cases hlast:i+1<XL
      ·obtain⟨y0,r0,hd1,hd2⟩:=drop_two (xs:=xs) (i:=i) (by rw [HXL.out];exact hlast)
       rw [hd1,hx]at hmany
       cases hmany with
       | @more _ _ p _ _ _ lab3 _ A0 B0 htg hl1 hl2 hrest=>
       obtain⟨hpn,hpL,hpa⟩:=htg.parent HF.out hmid.up hxn HLL.out.1 hanx
       rw [←hd2]at hrest
       have HT:=Lib.hid (And.intro htg (And.intro hpn (And.intro hpL (And.intro hl1 (And.intro hl2 hrest)))))
       have HMID:=Lib.hid (And.intro hmid hlabs)
       have hq1:((i:Int)==(XL:Int)-1)=false:=by simp;omega
       have hq2:((i:Int) !=(XL:Int)-1)=true:=by simp;omega
       clear htg hpn hpL hpa hl1 hl2 hrest hmid hlabs hd1 hd2 hx hanx hltx HMI
       go_wp2
       go_loopw [56] (fun jv wq2=>∃(k:Nat) (Lk:List Nat) (nb3:Nat→Nat) (v3:Nat→Value) (lab4:Nat→NodeD),k≤mm∧jv=.int .i64 (k:Int)∧Hid (OnlyG n nb wa wq2)∧Hid (Fl F.kids (V.take k) Lk)∧Hid (DomAt B wq2 (m+Lk.length) nb3 v3 lab4 (cpR rv G m Lk (V.take k) p A0 B0))∧Hid (WOk (m+Lk.length) (cpR rv G m Lk (V.take k) p A0 B0))∧Hid (CopW wa.heap.size n m nb nb3 lab' lab4 Lk)) (fun jv _=>mm-(intOf jv).toNat)
       case atStart=>exact⟨0,[],nb',v',lab',by omega,by go_num,HO,Lib.hid (by rw [List.take_zero];exact .nil),Lib.hid (by rw [List.take_zero,cpR_nil HT.out.1.1];exact HDr.out),Lib.hid (by rw [List.take_zero,cpR_nil HT.out.1.1];exact HMID.out.1.ok),Lib.hid ⟨HNN.out.1,fun q h1 h2=>HNN.out.2 q h1 (by simpa using h2),fun _ _=>rfl,fun q hq=>absurd hq (Nat.not_lt_zero q)⟩⟩
       case round=>
        obtain⟨k,Lk,nb3,v3,lab4,hk,rfl,HOk,HFk,HDk,HWk,HCW⟩:=hrel
        by_cases hlt2:k<mm
        ·have hmw:=HM.out
         obtain rfl:=HNA.out (by omega)
         have hVlt:k<V.length:=by rw [HVL.out];omega
         have ck:=HKEEP.out _ HOk.out ng k _ (HS.out.2 (by omega)) (HVV.out.2.2.2 (by omega) k hVlt)
         have hyV:V.getD k 0∈V:=getD_mem' (d:=0) hVlt
         have hyw:V.getD k 0∈ws:=(HVV.out.2.1 _).1 hyV
         have hyn:=HW.out.1 _ hyw
         have htk:=take_snoc hVlt
         obtain⟨y,hy⟩:∃y,V.getD k 0=y:=⟨_,rfl⟩
         rw [hy]at ck hyw hyn htk
         have hkI:(k:Int)<(mm:Int):=by omega
         obtain⟨Ly,hLy⟩:=HF.out.flat y
         have hloneV:Lone F V:=⟨HVV.out.2.2.1,fun a ha b hb=>HLL.out.2.2 a ((HVV.out.2.1 a).1 ha) b ((HVV.out.2.1 b).1 hb)⟩
         have hlone:Lone F (V.take k++[y]):=by
          rw [←htk]
          rw [←List.take_append_drop (k+1) V]at hloneV
          exact hloneV.sub
         have hsub:∀z,z∈Lk∨z∈Ly→z∈L:=fun z hz=>by
          rcases hz with hz | hz
          ·obtain⟨q,hq,hqa⟩:=(HFk.out.anc HF.out z).1 hz
           exact(HLL.out.1.anc HF.out z).2 ⟨q,(HVV.out.2.1 q).1 (List.mem_of_mem_take hq),hqa⟩
          ·obtain⟨q,hq,hqa⟩:=(hLy.anc HF.out z).1 hz
           simp at hq
           subst hq
           exact(HLL.out.1.anc HF.out z).2 ⟨q,hyw,hqa⟩
         have hTn:∀u∈V.take k++[y],u<n:=fun u hu=>by
          rw [←htk]at hu
          exact HW.out.1 u ((HVV.out.2.1 u).1 (List.mem_of_mem_take hu))
         have hUm:∀r∈(V.take k).map (fun v=>m+ix Lk v),m≤r∧r<m+Lk.length:=fun r hr=>by
          obtain⟨u,hu,rfl⟩:=List.mem_map.1 hr
          have :=ix_lt (L:=Lk) (y:=u) ((HFk.out.anc HF.out u).2 ⟨u,hu,.refl⟩)
          omega
         obtain⟨g1,g2,g3,g4,g5,g6,g7,g8⟩:=cpU_step HF.out HMID.out.1 (U:=rvL rv ((V.take k).map (fun v=>m+ix Lk v))) hlone HFk.out hLy hsub hTn HT.out.2.1 HT.out.2.2.1 HT.out.1.1 (fun r hr=>hUm r (rvL_mem.1 hr)) HWk.out
         have hcall:=cloneNode_any Ly.length B wr (m+Lk.length) nb3 v3 lab4 _ y Ly HDk.out HWk.out (by omega) (hLy.congr (fun z hz=>(g7 z hz).1)) (Nat.le_refl _) (fun z hz=>by
          have h1:=(g7 z hz).2
          rw [HCW.out.lab z (by omega),HMID.out.2 z h1]
          exact HW5.out.1 z h1) (Nat.le_trans HW5.out.2 (Nat.le_trans hwas HOk.out.size))
         rw [HCW.out.old y hyn]at hcall
         have HCALL:=Lib.hid hcall
         have HG:=Lib.hid (And.intro g2 (And.intro g3 (And.intro g4 (And.intro g5 (And.intro g6 (And.intro g7 g8))))))
         have HFL:=Lib.hid (Fl.append HFk.out hLy)
         have HTK:=Lib.hid htk
         clear hcall g1 g2 g3 g4 g5 g6 g7 g8 hLy hlone hloneV hsub hTn hUm hy hyV hmw hVlt htk
         go_wp2_with fail
         refine HCALL.out.mono ?_
         rintro e w3 ⟨nb5,v5,lab5,rfl,HC5,HD5,HB5⟩
         have hLp:=HG.out.2.2.2.2.1
         have hx5:nb5 x=nb x:=by rw [(HC5.out.old x (by omega)).1];exact HCW.out.old x hxn
         have hup5:((cpW G m (Lk++Ly) (V.take k++[y])).ins p A0 (rvL rv ((V.take k).map (fun v=>m+ix Lk v))) B0).up x=G.up x:=by
          have hrx:x∉rvL rv ((V.take k).map (fun v=>m+ix Lk v)):=fun hm2=>by
           have hm3:x∈(V.take k).map (fun v=>m+ix Lk v):=rvL_mem.1 hm2
           obtain⟨u,_,e⟩:=List.mem_map.1 hm3
           omega
          simp only [Wd.ins]
          rw [if_neg hrx,(cp_old _ _ (by omega)).2]
         have hkp5:((cpW G m (Lk++Ly) (V.take k++[y])).ins p A0 (rvL rv ((V.take k).map (fun v=>m+ix Lk v))) B0).kids p=A0++(rvL rv ((V.take k).map (fun v=>m+ix Lk v))++B0):=by simp [Wd.ins]
         have hd5:=HD5.out
         unfold cpR at hd5
         have hg5:=HG.out.1
         have hu5:=HG.out.2.1
         rw [HG.out.2.2.1]at hd5 hg5 hu5
         have hclo:CloPre op ((cpW G m (Lk++Ly) (V.take k++[y])).ins p A0 (rvL rv ((V.take k).map (fun v=>m+ix Lk v))) B0) x p A0 (rvL rv ((V.take k).map (fun v=>m+ix Lk v))) B0:=by
          have h9:=HT.out.1.clo (T:=[]) (U:=rvL rv ((V.take k).map (fun v=>m+ix Lk v))) (H:=(cpW G m (Lk++Ly) (V.take k++[y])).ins p A0 (rvL rv ((V.take k).map (fun v=>m+ix Lk v))) B0) (by simp) hup5 (by rw [offL_nil,offL_nil];exact hkp5)
          rwa [offL_nil,offL_nil]at h9
         have hpq:p<m+Lk.length+Ly.length:=by have :=HT.out.2.1;omega
         have hyq:m+Lk.length<m+Lk.length+Ly.length:=by omega
         have hypq:m+Lk.length≠p:=by have :=HT.out.2.1;omega
         first | have hfun:=fun_1 hd5 hg5 HO9.out HR9.out hclo hpq hyq hypq hu5 | have hfun:=fun_4 hd5 hg5 HO9.out HR9.out hclo hpq hyq hypq hu5 | have hfun:=fun_2 hd5 hg5 HO9.out HR9.out hclo hpq hyq hypq hu5 | have hfun:=fun_3 hd5 hg5 HO9.out HR9.out hclo hpq hyq hypq hu5
         rw [(show(((cpW G m (Lk++Ly) (V.take k++[y])).ins p A0 (rvL rv ((V.take k).map (fun v=>m+ix Lk v))) B0).put p (rvAt rv A0 (rvL rv ((V.take k).map (fun v=>m+ix Lk v)))) (m+Lk.length))=cpR rv G m (Lk++Ly) (V.take k++[y]) p A0 B0 by rw [ins_rv];unfold cpR;rw [HG.out.2.2.2.1])]at hfun
         rw [hx5]at hfun
         have hg8:=HG.out.2.2.2.2.2.2 (rvAt rv A0 (rvL rv ((V.take k).map (fun v=>m+ix Lk v))))
         have hwok:WOk (m+(Lk++Ly).length) (cpR rv G m (Lk++Ly) (V.take (k+1)) p A0 B0):=by
          rw [HTK.out,List.length_append,←Nat.add_assoc,←(show(((cpW G m (Lk++Ly) (V.take k++[y])).ins p A0 (rvL rv ((V.take k).map (fun v=>m+ix Lk v))) B0).put p (rvAt rv A0 (rvL rv ((V.take k).map (fun v=>m+ix Lk v)))) (m+Lk.length))=cpR rv G m (Lk++Ly) (V.take k++[y]) p A0 B0 by rw [ins_rv];unfold cpR;rw [HG.out.2.2.2.1])]
          exact hg8
         have hcw:CopW wa.heap.size n m nb nb5 lab' lab5 (Lk++Ly):=HCW.out.step (Nat.le_trans (Nat.le_refl _) HOk.out.size) hnm HC5.out (fun z hz=>by have :=(HG.out.2.2.2.2.2.1 z hz).2;omega)
         have HWOK:=Lib.hid hwok
         have HCW2:=Lib.hid hcw
         have HFUN:=Lib.hid hfun
         have hnb5:(∀q,q<n→nb5 q=nb q)∧∀q,n≤q→q<m+Lk.length+Ly.length→wa.heap.size≤nb5 q:=⟨hcw.old,fun q h1 h2=>hcw.new q h1 (by rw [List.length_append];omega)⟩
         have HNB5:=Lib.hid hnb5
         have HOB:=Lib.hid (HOk.out.of_below HB5.out)
         clear hfun hwok hcw hnb5 hg8 hkp5 hup5 hx5 hd5 hg5 hu5 HCALL ck hLp hclo hpq hyq hypq
         go_wp2_with fail
         refine HFUN.out.mono ?_
         rintro e w4 ⟨rfl,hd4,ho4⟩
         have HO4:=Lib.hid (HOB.out.turn ho4.out HNB5.out.1 HNB5.out.2)
         have hd9:DomAt B w4 (m+(Lk++Ly).length) nb5 v5 lab5 (cpR rv G m (Lk++Ly) (V.take (k+1)) p A0 B0):=by
          rw [HTK.out,List.length_append,←Nat.add_assoc]
          exact hd4.out
         have HD9:=Lib.hid hd9
         have HFL2:Hid (Fl F.kids (V.take (k+1)) (Lk++Ly)):=Lib.hid (by rw [HTK.out];exact HFL.out)
         clear ho4 hd4 hd9 HFUN
         go_wp2
         refine⟨?rel,?measure⟩
         case rel=>exact⟨k+1,Lk++Ly,nb5,v5,lab5,by omega,by go_num,HO4,HFL2,HD9,HWOK,HCW2⟩
         case measure=>simp [intOf];omega
        ·obtain rfl:k=mm:=by omega
         have htl:V.take k=V:=List.take_of_length_le (by rw [HVL.out,HM.out];exact Nat.le_refl _)
         have hdk:=HDk.out
         have hwk:=HWk.out
         have hfk:=HFk.out
         rw [htl]at hdk hwk hfk
         have hres:∃nb6 v6,DomAt B wr (m+L.length) nb6 v6 lab3 ((cpW G m L ws).ins p A0 (ws.map fun v=>m+ix L v) B0)∧(∀q,q<n→nb6 q=nb q)∧∀q,n≤q→q<m+L.length→wa.heap.size≤nb6 q:=by
          have hfl:=HLL.out.1
          have hmem:∀z,z∈Lk↔z∈L:=fun z=>by
           rw [hfk.anc HF.out z,hfl.anc HF.out z]
           constructor
           ·rintro⟨q,hq,h⟩;exact⟨q,(HVV.out.2.1 q).1 hq,h⟩
           ·rintro⟨q,hq,h⟩;exact⟨q,(HVV.out.2.1 q).2 hq,h⟩
          have hloneV:Lone F V:=⟨HVV.out.2.2.1,fun a ha b hb=>HLL.out.2.2 a ((HVV.out.2.1 a).1 ha) b ((HVV.out.2.1 b).1 hb)⟩
          have hcV:=HMID.out.1.cp (cpOk_of HF.out hfl HLL.out.2 HW.out.1)
          have hcK0:=cpOk_of HF.out hfk hloneV (fun u hu=>HW.out.1 u ((HVV.out.2.1 u).1 hu))
          have hcK:CpOk m G Lk V:=⟨hcK0.nd,fun z hz=>by have :=hcK0.lt z hz;omega,fun q hq z hz=>hcK0.sub q hq z (by rwa [HMID.out.1.tree q ((hmem q).1 hq)]at hz),fun z hz hn=>by rw [HMID.out.1.up z (hcK0.lt z hz)];exact hcK0.up z hz hn,hcK0.ws⟩
          have hlen:Lk.length=L.length:=Nat.le_antisymm (nodup_sub_len hcK.nd (fun z hz=>(hmem z).1 hz)) (nodup_sub_len hcV.nd (fun z hz=>(hmem z).2 hz))
          unfold cpR at hdk hwk
          rw [←HVV.out.1,rvL_map]at hdk hwk
          rw [←HVV.out.1]at hcK
          have hpm:p<m:=by have :=HT.out.2.1;omega
          have hre:=hdk.reorder HMID.out.1.ok hcK hcV hmem (fun z=>rvL_mem) hlen (fun z hz=>rvL_mem.2 hz) hpm HT.out.1.1 hwk (kids_lt HMID.out.1.ok HT.out.1.1)
          refine⟨_,_,hre.relab (fun q hq=>?_),fun q hq=>?_,fun q h1 h2=>?_⟩
          ·try simp only
           by_cases e:m≤q
           ·obtain⟨z,hz,rfl⟩:=cp_num hcV.nd e hq
            have hz1:=(hmem z).2 hz
            have l1:=ix_lt hz
            have l2:=ix_lt hz1
            rw [if_pos ⟨by omega,by omega⟩,show m+ix L z-m=ix L z by omega,ix_get hz,HT.out.2.2.2.2.1 _ l1,ix_get hz,HCW.out.lab2 _ l2,ix_get hz1]
           ·rw [if_neg (by omega),HT.out.2.2.2.1 q (by omega),HCW.out.lab q (by omega)]
          ·try simp only
           rw [if_neg (by omega)]
           exact HCW.out.old q hq
          ·try simp only
           by_cases e:m≤q
           ·obtain⟨z,hz,rfl⟩:=cp_num hcV.nd e h2
            have hz1:=(hmem z).2 hz
            have l2:=ix_lt hz1
            rw [if_pos ⟨by omega,by omega⟩,show m+ix L z-m=ix L z by omega,ix_get hz]
            exact HCW.out.new _ (by omega) (by omega)
           ·rw [if_neg (by omega)]
            exact HCW.out.new q h1 (by omega)
         obtain⟨nb6,v6,hd6,ho6,hn6⟩:=hres
         have hcpo:=cpOk_of HF.out HLL.out.1 HLL.out.2 HW.out.1
         have hmid6:=HMID.out.1.step HF.out hcpo HW.out.2.1 HT.out.2.1 HT.out.2.2.1 HT.out.1.1
         have HD6:=Lib.hid hd6
         have HON6:=Lib.hid (And.intro ho6 hn6)
         have HMI6:Hid (MidW n F L (m+L.length) ((cpW G m L ws).ins p A0 (ws.map fun v=>m+ix L v) B0)∧Many op ws L n2 lab2 G2 (xs.drop (i+1)) (m+L.length) lab3 ((cpW G m L ws).ins p A0 (ws.map fun v=>m+ix L v) B0)∧∀q,q<n→lab3 q=lab q):=Lib.hid ⟨hmid6,HT.out.2.2.2.2.2,fun q hq=>by rw [HT.out.2.2.2.1 q (by omega)];exact HMID.out.2 q hq⟩
         clear hd6 ho6 hn6 hmid6 hcpo hdk hwk hfk htl
         go_wp2
         refine⟨?rel,?measure⟩
         case rel=>exact⟨i+1,m+L.length,nb6,v6,lab3,_,by go_num,by omega,HOk,HD6,HON6,Lib.hid (by omega),.inl ⟨by omega,HMI6⟩⟩
         case measure=>simp [intOf];omega
      ·have hdrop:=drop_one (xs:=xs) (i:=i) (by rw [HXL.out];omega)
       rw [hdrop,hx]at hmany
       cases hmany with
       | @last _ p _ _ _ A0 B0 htg hmn hl1 hG2=>
       obtain⟨hpn,hpL,hpa⟩:=htg.parent HF.out hmid.up hxn HLL.out.1 hanx
       have hxw:x∉ws:=fun hm=>hanx x hm .refl
       have hancG:∀v∈ws,¬Anc G v p:=fun v hv ha=>hpa v hv ((anc_same HF.out hmid.up hpn).1 ha)
       have HT:=Lib.hid (And.intro htg (And.intro hpn (And.intro hancG (And.intro hl1 (And.intro hG2 (And.intro hmn hxw))))))
       have HMID:=Lib.hid (And.intro hmid hlabs)
       have hi1:(i:Int)=(XL:Int)-1:=by omega
       have hq1:((i:Int)==(XL:Int)-1)=true:=by simp;omega
       have hq2:((i:Int) !=(XL:Int)-1)=false:=by simp;omega
       clear htg hpn hpL hpa hl1 hG2 hmn hmid hlabs hdrop hx hanx hltx HMI hancG hxw hi1
       go_wp2
       go_loopw [56] (fun jv wq2=>∃k:Nat,k≤mm∧jv=.int .i64 (k:Int)∧Hid (OnlyG n nb wa wq2)∧Hid (DomAt B wq2 m nb' v' lab' (mvR rv G p A0 B0 (V.take k)))∧Hid (WOk m (mvR rv G p A0 B0 (V.take k)))) (fun jv _=>mm-(intOf jv).toNat)
       case atStart=>exact⟨0,by omega,by go_num,HO,Lib.hid (by rw [List.take_zero,mvR_nil HT.out.1.1];exact HDr.out),Lib.hid (by rw [List.take_zero,mvR_nil HT.out.1.1];exact HMID.out.1.ok)⟩
       case round=>
        obtain⟨k,hk,rfl,HOk,HDk,HWk⟩:=hrel
        by_cases hlt2:k<mm
        ·have hmw:=HM.out
         obtain rfl:=HNA.out (by omega)
         have hVlt:k<V.length:=by rw [HVL.out];omega
         have ck:=HKEEP.out _ HOk.out ng k _ (HS.out.2 (by omega)) (HVV.out.2.2.2 (by omega) k hVlt)
         have hyV:V.getD k 0∈V:=getD_mem' (d:=0) hVlt
         have hyw:V.getD k 0∈ws:=(HVV.out.2.1 _).1 hyV
         have hyn0:=HW.out.1 _ hyw
         have htk:=take_snoc hVlt
         have hyT:V.getD k 0∉V.take k:=fun hm=>by
          have h4:=HVV.out.2.2.1
          rw [←List.take_append_drop k V,List.nodup_append]at h4
          refine h4.2.2 _ hm _ ?_ rfl
          rw [List.drop_eq_getElem_cons hVlt,List.getD_eq_getElem?_getD,List.getElem?_eq_getElem hVlt]
          exact List.mem_cons_self ..
         obtain⟨y,hy⟩:∃y,V.getD k 0=y:=⟨_,rfl⟩
         rw [hy]at ck hyw hyn0 htk hyT
         have hyn:y<m:=by omega
         have hkI:(k:Int)<(mm:Int):=by omega
         have hpm:p<m:=by have :=HT.out.2.1;omega
         have hxm:x<m:=by omega
         obtain⟨m1,m2,m3,m4,m5,m6⟩:=mvR_step HMID.out.1.ok hpm HT.out.1.1 (T:=V.take k) (W:=ws) (fun q hq=>(HVV.out.2.1 _).1 (List.mem_of_mem_take hq)) HT.out.2.2.1 hyw hyT hyn HWk.out
         rw [←htk]at m6
         have hxw:=HT.out.2.2.2.2.2.2
         have hxy:x≠y:=fun e=>hxw (by rw [e];exact hyw)
         have hxT:x∉V.take k:=fun hm=>hxw ((HVV.out.2.1 _).1 (List.mem_of_mem_take hm))
         have hupx:((mvR rv G p A0 B0 (V.take k)).cut y).up x=G.up x:=by
          simp only [Wd.cut,mvR,Wd.ins,Wd.off,if_neg hxy,rvL_mem,if_neg hxT]
         have hclo:CloPre op ((mvR rv G p A0 B0 (V.take k)).cut y) x p (offL (V.take k++[y]) A0) (rvL rv (V.take k)) (offL (V.take k++[y]) B0):=
          HT.out.1.clo (by
           intro hm
           rcases List.mem_append.1 hm with h | h
           ·exact hxT h
           ·simp at h;exact hxy h) hupx m4
         first | have hfun:=fun(wq:World) (hd:DomAt B wq m nb' v' lab' ((mvR rv G p A0 B0 (V.take k)).cut y))=>fun_1 hd m1 HO9.out HR9.out hclo hpm hyn m3 m2 | have hfun:=fun(wq:World) (hd:DomAt B wq m nb' v' lab' ((mvR rv G p A0 B0 (V.take k)).cut y))=>fun_4 hd m1 HO9.out HR9.out hclo hpm hyn m3 m2 | have hfun:=fun(wq:World) (hd:DomAt B wq m nb' v' lab' ((mvR rv G p A0 B0 (V.take k)).cut y))=>fun_2 hd m1 HO9.out HR9.out hclo hpm hyn m3 m2 | have hfun:=fun(wq:World) (hd:DomAt B wq m nb' v' lab' ((mvR rv G p A0 B0 (V.take k)).cut y))=>fun_3 hd m1 HO9.out HR9.out hclo hpm hyn m3 m2
         rw [m5,←htk]at hfun
         clear hclo
         have c0y:=(HDk.out.node y hyn).par
         have hny:nb' y=nb y:=HNN.out.1 y hyn0
         have hnx:nb' x=nb x:=HNN.out.1 x hxn
         rw [hny]at c0y
         rw [hny,hnx]at hfun
         have HFUN:=Lib.hid hfun
         have HM6:=Lib.hid m6
         clear hupx hxy hxT hmw hyV hVlt hxw
         cases hu:(mvR rv G p A0 B0 (V.take k)).up y with
         | none=>
          have e0:(linkR (mvR rv G p A0 B0 (V.take k)) nb' (lab' y) (v' y) y).par=none:=by simp [linkR,hu]
          rw [e0,lk_none]at c0y
          have HC:=Lib.hid (hfun _ (by rw [HWk.out.cut_none hu];exact HDk.out))
          clear hfun e0 hu m1 m2 m3 m4 m5 m6 hy htk hyT hyw hny hnx
          go_wp2_with fail
          refine HC.out.mono ?_
          rintro e w3 ⟨rfl,hd3,ho3⟩
          have HO3:=Lib.hid (HOk.out.turn ho3.out HNN.out.1 HNN.out.2)
          clear ho3 HC ck c0y
          go_wp2
          refine⟨?rel,?measure⟩
          case rel=>exact⟨k+1,by omega,by go_num,HO3,hd3,HM6⟩
          case measure=>simp [intOf];omega
         | some q=>
          have e0:(linkR (mvR rv G p A0 B0 (V.take k)) nb' (lab' y) (v' y) y).par=some (nb' q):=by simp [linkR,hu]
          rw [e0,lk_some]at c0y
          have hrc:=removeChild_any HDk.out HWk.out hu
          rw [hny]at hrc
          have HRC:=Lib.hid hrc
          clear hfun e0 hu m1 m2 m3 m4 m5 m6 hy htk hyT hyw hny hnx hrc
          go_wp2_with fail
          refine HRC.out.mono ?_
          rintro e w2 ⟨rfl,hd2,ho2⟩
          have HC:=Lib.hid (HFUN.out w2 hd2.out)
          have HO2:=Lib.hid (HOk.out.turn ho2.out HNN.out.1 HNN.out.2)
          clear ho2 HRC ck c0y
          go_wp2_with fail
          refine HC.out.mono ?_
          rintro e w3 ⟨rfl,hd3,ho3⟩
          have HO3:=Lib.hid (HO2.out.turn ho3.out HNN.out.1 HNN.out.2)
          clear ho3 HC
          go_wp2
          refine⟨?rel,?measure⟩
          case rel=>exact⟨k+1,by omega,by go_num,HO3,hd3,HM6⟩
          case measure=>simp [intOf];omega
        ·obtain rfl:k=mm:=by omega
         have hd:=HDk.out
         have hw:=HWk.out
         rw [List.take_of_length_le (by rw [HVL.out,HM.out];exact Nat.le_refl _)]at hd hw
         rw [←HVV.out.1,mvR_end]at hd hw
         have hfin:m=n2∧mv G p A0 B0 ws=G2∧(∀q,q<m→lab2 q=lab' q)∧WOk m (mv G p A0 B0 ws):=⟨HT.out.2.2.2.2.2.1.symm,HT.out.2.2.2.2.1.symm,HT.out.2.2.2.1,hw⟩
         have HD9:=Lib.hid hd
         have HFIN:=Lib.hid hfin
         clear hd hw hfin
         go_wp2
         refine⟨?rel,?measure⟩
         case rel=>exact⟨i+1,m,nb',v',lab',_,by go_num,by omega,HOk,HD9,HNN,HNM,.inr ⟨by omega,HFIN⟩⟩
         case measure=>simp [intOf];omega
     ·have hres:DomAt B wr n2 nb' v' lab2 G2∧WOk n2 G2:=by
       obtain⟨h1,h2,h3,h4⟩:=HFIN.out
       subst h1 h2
       exact⟨HDr.out.relab h3,h4⟩
      have hle:n≤n2:=by have :=HFIN.out.1;have :=HNM.out;omega
      have HRES:=Lib.hid hres
      have HLE:=Lib.hid hle
      clear hres hle
      go_wp2
      go_ret
      exact⟨rfl,nb',v',Lib.hid HRES.out.1,Lib.hid HRES.out.2,Lib.hid ⟨HNN.out.1,fun i h1 h2=>by have :=HNN.out.2 i h1 (by rw [HFIN.out.1];exact h2);have :=HBr.out.size;omega⟩,HLE,_,HBF,HO⟩
 end Go.Proofs.YtkdomegcacgpnaaGreat
