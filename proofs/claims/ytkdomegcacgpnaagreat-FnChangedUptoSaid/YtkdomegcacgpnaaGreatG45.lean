/- Parts of a proof: InsMany. -/
import Derived.Test.YtkdomegcacgpnaaGreatG22
import Derived.Test.YtkdomegcacgpnaaGreatG20
set_option linter.unusedVariables false
set_option linter.unusedSimpArgs false
namespace Go.Proofs.YtkdomegcacgpnaaGreat
open Go.RowKit
structure ManyK (op op':Int) (n:Nat) (kn:Nat→Nat) (pl:Nat→Int) (lab:Nat→NodeD) (F:Wd) (xs ws:List Nat) (m:Nat) (kn':Nat→Nat) (pl':Nat→Int) (lab':Nat→NodeD) (G:Wd):Prop where
 le:n≤m
 old:∀i,i<n→kn' i=kn i∧pl' i=pl i∧lab' i=lab i
 new:∀i,n≤i→i<m→pl' i= -1
 exact :m≤600→ws≠[]∧ApartW F ws xs∧(op=5→ApartW F xs [])∧(∀x∈xs,Spot op lab F x)∧∃L G0,Fl F.kids ws L∧Many op' ws L m lab' G0 xs n lab F∧G=if op=5 then cutsW G0 xs else G0
def InsertManyPost(op op':Int)(B n:Nat)(kn:Nat→Nat)(pl:Nat→Int)(lab:Nat→NodeD)(F:Wd)(f len:Nat)(vf:Value)(xs ws:List Nat)(w:World)(e:Ending)(w':World):Prop:=
 (e=.returned (.bool false)∧Hid (Below B w w'))∨∃m kn' kv' av' pl' lab' G,e=.returned (.bool true)∧Hid (ManyK op op' n kn pl lab F xs ws m kn' pl' lab' G)∧
  Hid (Knots B w' m kn' kv' av' pl' lab' G)∧Hid (ForestK B w' f vf len kn (m:Int) (decide (600<m)))∧Hid (Below B w w')
structure OutK (op:Int) (n:Nat) (kn:Nat→Nat) (pl:Nat→Int) (lab:Nat→NodeD) (F:Wd) (xs ws L:List Nat) (i m:Nat) (kn':Nat→Nat) (pl':Nat→Int) (lab':Nat→NodeD) (G:Wd):Prop where
 le:n≤m
 old:∀q,q<n→kn' q=kn q∧pl' q=pl q∧lab' q=lab q
 new:∀q,n≤q→q<m→pl' q= -1
 hi:m≤n+i*L.length
 ok:WOk m G
 mid:i<xs.length→MidW n F L m G
 exact :m≤600→(i<xs.length→∀n2 lab2 G2,Many op ws L n2 lab2 G2 (xs.drop i) m lab' G→Many op ws L n2 lab2 G2 xs n lab F)∧(i=xs.length→Many op ws L m lab' G xs n lab F)
theorem OutK.step{op:Int}{n H:Nat}{kn:Nat→Nat}{pl:Nat→Int}{lab:Nat→NodeD}{F:Wd}{xs ws L:List Nat}{i m:Nat}{kn':Nat→Nat}{kv' av':Nat→Value}{pl':Nat→Int}{lab':Nat→NodeD}{G:Wd}(h:OutK op n kn pl lab F xs ws L i m kn' pl' lab' G)(hi:i+1<xs.length)(hF:WOk n F)(hc:CpOk n F L ws)
  {p:Nat} {A B:List Nat} (hp:p<n) (hpL:p∉L) (ht:Target op lab' G (xs.getD i 0) p A B)
  {rs:List Nat} {mj:Nat} {kn2:Nat→Nat} {kv2 av2:Nat→Value} {pl2:Nat→Int} {lab2:Nat→NodeD} {Gj:Wd} (hj:CopiesK H m kn' kv' av' pl' lab' G ws L rs mj kn2 kv2 av2 pl2 lab2 Gj):
  OutK op n kn pl lab F xs ws L (i+1) mj kn2 pl2 lab2 (Gj.ins p A rs B):=by
 have hm:=h.mid (by omega)
 have hle:=hm.le
 have hlo:=hj.lo
 have hlow:∀q,q<m→∀z,Gj.up q=some z→z<m:=fun q hq z hz=>by
  rw [(hj.oldF q hq).2]at hz
  exact(hm.ok.lt z q ((hm.ok.iff z q).2 hz)).1
 have hnew:=hj.ok.insNew hlo hlow (p:=p) (A:=A) (B:=B) (by omega) (by rw [(hj.oldF p (by omega)).1];exact ht.1) hj.tops hj.nd
 refine⟨by omega,fun q hq=>?_,fun q h1 h2=>?_,?_,hnew,fun _=>⟨hnew,by omega,fun q hq=>?_,fun y hy=>?_⟩,fun h6=>⟨fun _ n2 lab3 G3 hM=>?_,fun e=>by omega⟩⟩
 ·obtain⟨a1,a2,a3⟩:=h.old q hq
  obtain⟨b1,b2,b3,b4,b5⟩:=hj.old q (by omega)
  exact⟨b1.trans a1,b4.trans a2,b5.trans a3⟩
 ·by_cases e:q<m
  ·rw [(hj.old q e).2.2.2.1];exact h.new q h1 e
  ·exact(hj.new q (by omega) h2).2.1
 ·have :=h.hi
  have :=hj.hi
  rw [Nat.add_mul,Nat.one_mul]
  omega
 ·simp only [Wd.ins]
  rw [if_neg (fun hm2=>by have :=(hj.tops q hm2).1;omega),(hj.oldF q (by omega)).2]
  exact hm.up q hq
 ·have :=hc.lt y hy
  simp only [Wd.ins]
  rw [if_neg (fun e:y=p=>hpL (e▸hy)),(hj.oldF y (by omega)).1]
  exact hm.tree y hy
 ·obtain⟨c1,c2,c3,c4⟩:=hj.exact h6
  refine(h.exact (by omega)).1 (by omega) n2 lab3 G3 ?_
  obtain⟨y,r,d1,d2⟩:=drop_two hi
  rw [d1]
  rw [d2,c1,c2,c3]at hM
  exact Many.more ht (fun q hq=>(hj.old q hq).2.2.2.2) c4 hM
theorem OutK.final{op:Int}{n:Nat}{kn:Nat→Nat}{pl:Nat→Int}{lab:Nat→NodeD}{F:Wd}{xs ws L:List Nat}{i m:Nat}{kn':Nat→Nat}{pl':Nat→Int}{lab':Nat→NodeD}{G:Wd}(h:OutK op n kn pl lab F xs ws L i m kn' pl' lab' G)(hi:i+1=xs.length)
  {p:Nat} {A B:List Nat} (ht:Target op lab' G (xs.getD i 0) p A B) (hok:WOk m (mv G p A B ws)):OutK op n kn pl lab F xs ws L (i+1) m kn' pl' lab' ((G.off ws).ins p (offL ws A) ws (offL ws B)):=by
 refine⟨h.le,h.old,h.new,Nat.le_trans h.hi (Nat.add_le_add_left (Nat.mul_le_mul_right _ (Nat.le_succ i)) n),hok,fun e=>by omega,fun h6=>⟨fun e=>by omega,fun _=>?_⟩⟩
 refine(h.exact h6).1 (by omega) _ _ _ ?_
 rw [drop_one hi]
 exact Many.last ht rfl (fun _ _=>rfl) rfl
set_option maxRecDepth 100000 in
set_option maxHeartbeats 8000000 in
theorem insertMany_any{op op':Int}(hop:OpT op op'){B Bx Bw:Nat}{w:World}{n:Nat}{kn:Nat→Nat}{kv av:Nat→Value}{pl:Nat→Int}{lab:Nat→NodeD}{F:Wd}{f len:Nat}{vf:Value}(h:Knots B w n kn kv av pl lab F)(hF:WOk n F)(hFo:ForestK B w f vf len kn (n:Int) (decide (600<n)))(hn:n≤600)(xs:List Nat)(hxs:∀x∈xs,x<n)(hx0:0<xs.length)(hxl:xs.length≤200)(gx cx:Nat)(hrx:w.ownsRow Bx 69 1 (.slice (some ⟨gx,0,none⟩) xs.length cx) xs.length (xs.map fun y=>ptrV (kn y)))(vw:Value)(ws:List Nat)(hrw:w.ownsRow Bw 69 1 vw ws.length (ws.map fun y=>ptrV (kn y)))(hws:∀v∈ws,v<n)(hnd:ws.Nodup)(hwl:ws.length≤200)
  (hfit:∀y,y<n→(lab y).attrs.length≤100∧∀z∈(lab y).attrs,z.1.size≤maxLen∧z.2.size≤maxLen):
  Calls Tryz.prog 58 #[.pointer (some ⟨f,0,none⟩),.int .i64 op,.slice (some ⟨gx,0,none⟩) xs.length cx,vw] w (InsertManyPost op op' B n kn pl lab F f len vf xs ws w):=by
 obtain⟨i0,hi,hz0,hz1,hz2⟩:=info_parts Tryz.infoKnotP
 have hBw:B≤w.heap.size:=Nat.le_trans hFo.base (Nat.le_of_lt hFo.obj.lt)
 obtain⟨aw,cw,gw,hvw,hkw⟩:=krow_of hrw
 subst hvw
 have hkx:KRow w (some ⟨gx,0,none⟩) gx kn xs:=⟨fun _=>rfl,own_krow hrx⟩
 have hap:=apartK_any h hF aw gw cw ws (some ⟨gx,0,none⟩) gx cx xs hkw hkx hws hxs hwl hxl
 have HAP:=Lib.hid hap
 have H:=Lib.hid h
 have HF:=Lib.hid hF
 have HFO:=Lib.hid hFo
 have HRX:=Lib.hid hrx
 have HRW:=Lib.hid hrw
 have HKX:=Lib.hid hkx
 have HWS:=Lib.hid (And.intro hws (And.intro hnd (And.intro hxs hfit)))
 have HOP:=Lib.hid hop
 have HAX:=Lib.hid (fun(w1:World) (hb:Below w.heap.size w w1)=>apartK_any (H.out.below hb) HF.out (some ⟨gx,0,none⟩) gx cx xs none 0 0 [] (HKX.out.below hb) ⟨fun h=>absurd h (Nat.lt_irrefl 0),fun i hi=>absurd hi (Nat.not_lt_zero i)⟩ HWS.out.2.2.1 (fun x hx=>by cases hx) hxl (Nat.zero_le _))
 have hb:((op==3)=false∧(op==4)=false∧(op==5)=false∧Hid (Spot op lab F=fun x=>(lab x).kind=3))∨((op==3)=true∧(op==4)=false∧(op==5)=false∧Hid (Spot op lab F=fun x=>∃p,F.up x=some p))∨((op==3)=false∧(op==4)=true∧(op==5)=false∧Hid (Spot op lab F=fun x=>∃p,F.up x=some p))∨((op==3)=false∧(op==4)=false∧(op==5)=true∧Hid (Spot op lab F=fun x=>∃p,F.up x=some p)):=by
  rcases hop with ⟨rfl,_⟩ | ⟨rfl,_⟩ | ⟨rfl,_⟩ | ⟨rfl,_⟩ | ⟨rfl,_⟩
  ·exact .inl ⟨rfl,rfl,rfl,Lib.hid (by funext x;simp [Spot])⟩
  ·exact .inl ⟨rfl,rfl,rfl,Lib.hid (by funext x;simp [Spot])⟩
  ·exact .inr (.inl ⟨rfl,rfl,rfl,Lib.hid (by funext x;simp [Spot])⟩)
  ·exact .inr (.inr (.inl ⟨rfl,rfl,rfl,Lib.hid (by funext x;simp [Spot])⟩))
  ·exact .inr (.inr (.inr ⟨rfl,rfl,rfl,Lib.hid (by funext x;simp [Spot])⟩))
 clear hop
 clear hap h hF hFo hrx hrw hkx hkw hws hnd hxs hfit
 rcases hb with ⟨g3,g4,g5,HSPOT⟩ | ⟨g3,g4,g5,HSPOT⟩ | ⟨g3,g4,g5,HSPOT⟩ | ⟨g3,g4,g5,HSPOT⟩
 all_goals
  go_enter Tryz.func58,Tryz.ntmps58
  go_wp2_with fail
  refine HAP.out.mono ?_
  rintro e w1 ⟨b1,rfl,hb1,hbel1⟩
  have HB1:=Lib.hid (hbel1.out.mono hBw)
  cases b1
  ·clear hb1 hbel1
   go_wp2
   go_ret
   exact .inl ⟨rfl,HB1⟩
  have HAW:=Lib.hid (hb1 rfl)
  have hK1:=H.out.below hbel1.out
  have HGS:=Lib.hid (standK_any hK1 (some ⟨gx,0,none⟩) gx cx xs (HKX.out.below hbel1.out) HWS.out.2.2.1 hxl)
  have HGA:=Lib.hid (areK_any hK1 (some ⟨gx,0,none⟩) gx cx xs (HKX.out.below hbel1.out) HWS.out.2.2.1 hxl)
  have HAX1:=Lib.hid (HAX.out w1 hbel1.out)
  have HK1:=Lib.hid hK1
  have HFO1:=Lib.hid (HFO.out.below hbel1.out)
  have HRX1:=Lib.hid (ownsRow_kept HRX.out (fun k hk=>hbel1.out.block k (World.ownsRow.lt HRX.out k hk).2))
  have HRW1:=Lib.hid (ownsRow_kept HRW.out (fun k hk=>hbel1.out.block k (World.ownsRow.lt HRW.out k hk).2))
  have hbs1:=hbel1.out.size
  clear hb1 hbel1 hK1 HAP H HFO HRX HRW HKX HAX
  go_wp2_with fail
  first | refine HGS.out.mono ?_ | refine HGA.out.mono ?_
  rintro e w2 ⟨b2,rfl,hb2,rfl⟩
  cases b2
  ·clear hb2
   go_wp2
   go_ret
   exact .inl ⟨rfl,HB1⟩
  have HG:Hid (∀i,i<xs.length→Spot op lab F (xs.getD i 0)):=Lib.hid (by rw [HSPOT.out];exact hb2 rfl)
  clear hb2 HGS HGA
  by_cases hw0:ws.length=0
  ·have gw0:((ws.length:Int)==0)=true:=by simp [hw0]
   clear hw0
   go_wp2
   go_ret
   exact .inl ⟨rfl,HB1⟩
  ·have gw0:((ws.length:Int)==0)=false:=by simp [hw0]
   obtain⟨gw,rfl⟩:∃gw,aw=some ⟨gw,0,none⟩:=by
    rcases HRW1.out.2 with ⟨_,h2⟩ | ⟨g0,c0_,cur,hv_,_⟩
    ·exact absurd h2 hw0
    ·simp at hv_;exact⟨g0,hv_.1⟩
   rcases Decidable.em (op=5)with h5 | h5
   case' inl=>
    first
     | (exfalso;rw [h5]at g5;exact absurd g5 (by decide))
     | (clear h5
        go_wp2_with fail
        refine HAX1.out.mono ?_
        rintro e w5 ⟨b5,rfl,hb5,hbel5⟩
        have HB5:=Lib.hid (HB1.out.trans (hbel5.out.mono (by have :=HB1.out.size;omega)))
        cases b5
        ·clear hb5 hbel5
         go_wp2
         go_ret
         exact .inl ⟨rfl,HB5⟩
        have HA5:Hid (op=5→ApartW F xs []):=Lib.hid (fun _=>hb5 rfl)
        replace HK1:=Lib.hid (HK1.out.below hbel5.out)
        replace HFO1:=Lib.hid (HFO1.out.below hbel5.out)
        replace HRX1:=Lib.hid (ownsRow_kept HRX1.out (fun k hk=>hbel5.out.block k (World.ownsRow.lt HRX1.out k hk).2))
        replace HRW1:=Lib.hid (ownsRow_kept HRW1.out (fun k hk=>hbel5.out.block k (World.ownsRow.lt HRW1.out k hk).2))
        replace HB1:=HB5
        clear hb5 hbel5 HAX1 HB5)
   case' inr=>
    first
     | (exfalso;exact h5 (by simpa using g5))
     | (have HA5:Hid (op=5→ApartW F xs []):=Lib.hid (fun h=>absurd h h5)
        clear HAX1 h5)
   all_goals
    have HWNE:Hid (ws≠[]):=Lib.hid (fun e=>hw0 (by rw [e];rfl))
    have hwpos:0<ws.length:=by omega
    obtain⟨L,hL⟩:=Fl.lists (kids:=F.kids) ws (fun v _=>HF.out.flat v)
    have hlone:=apart_lone HAW.out HWS.out.2.1
    have hcp:=cpOk_of HF.out hL hlone HWS.out.1
    have hLn:L.length≤n:=nodup_len n L hcp.nd hcp.lt
    have hanx:∀i,i<xs.length→∀v∈ws,¬Anc F v (xs.getD i 0):=fun i hi v hv=>by
     obtain⟨k,hk,rfl⟩:=List.getElem_of_mem hv
     have :=HAW.out.on k i hk hi
     simpa [List.getD,hk]using this
    have HL:=Lib.hid (And.intro hL (And.intro hlone (And.intro hcp hanx)))
    have hst:OutK op' n kn pl lab F xs ws L 0 n kn pl lab F:=⟨Nat.le_refl _,fun _ _=>⟨rfl,rfl,rfl⟩,fun q h1 h2=>by omega,by omega,HF.out,fun _=>MidW.refl HF.out L,fun _=>⟨fun _ n2 lab2 G2 hM=>by rwa [List.drop_zero]at hM,fun e=>by omega⟩⟩
    have HST:=Lib.hid hst
    clear hw0 hL hlone hcp hanx hst
    obtain⟨XL,hXL⟩:∃XL,xs.length=XL:=⟨_,rfl⟩
    have HXL:=Lib.hid hXL
    have hXI:(0:Int)<(XL:Int):=by omega
    have hXI2:(XL:Int)≤200:=by omega
    rw [hXL]at hx0 hxl ⊢
    clear hXL
    go_wp2
    go_loopw [10] (fun iv wr=>∃(i m:Nat) (kn':Nat→Nat) (kv' av':Nat→Value) (pl':Nat→Int) (lab':Nat→NodeD) (G:Wd),iv=.int .i64 (i:Int)∧i≤XL∧Hid (ForestK B wr f vf len kn (m:Int) (decide (600<m)))∧Hid (Below B w wr)∧Hid (Knots B wr m kn' kv' av' pl' lab' G)∧Hid (OutK op' n kn pl lab F xs ws L i m kn' pl' lab' G)∧Hid (wr.ownsRow Bx 69 1 (.slice (some ⟨gx,0,none⟩) xs.length cx) xs.length (xs.map fun y=>ptrV (kn y)))∧Hid (wr.ownsRow Bw 69 1 (.slice (some ⟨gw,0,none⟩) ws.length cw) ws.length (ws.map fun y=>ptrV (kn y)))) (fun iv _=>XL-(intOf iv).toNat)
    case atStart=>exact⟨0,n,kn,kv,av,pl,lab,F,by go_num,by omega,HFO1,HB1,HK1,HST,HRX1,HRW1⟩
    case round=>
     obtain⟨i,m,kn',kv',av',pl',lab',G,rfl,hiX,HFr,HBr,HKr,HOK,HRXr,HRWr⟩:=hrel
     by_cases hlt:i<XL
     ·rw [←HXL.out]at hlt
      have hmid:=HOK.out.mid hlt
      have hmhi:=HOK.out.hi
      have hmul:i*L.length≤200*600:=Nat.mul_le_mul (by omega) (by omega)
      obtain⟨x,hx⟩:∃x,xs.getD i 0=x:=⟨_,rfl⟩
      have hxn:x<n:=by rw [←hx];exact HWS.out.2.2.1 _ (getD_mem' hlt)
      have hcx:=own_krow HRXr.out i hlt
      rw [hx]at hcx
      have hnm:=HOK.out.le
      have HTG:Hid (∃p A0 B0,Target op' lab' G x p A0 B0):=Lib.hid (by
       have hsp:=HG.out i hlt
       rw [hx]at hsp
       have hsp2:Spot op lab' G x:=by
        revert hsp
        unfold Spot
        rw [hmid.up x hxn,(HOK.out.old x hxn).2.2]
        exact id
       obtain⟨p,A0,B0,htg⟩:=Target.at_ HOP.out hmid.ok hsp2
       exact⟨p,A0,B0,htg⟩)
      obtain⟨p,A0,B0,htg⟩:=HTG.out
      obtain⟨hpn,hpL,hpa⟩:=htg.parent HF.out hmid.up hxn HL.out.1 (by rw [←hx];exact HL.out.2.2.2 i hlt)
      have HT:=Lib.hid (And.intro htg (And.intro hpn (And.intro hpL (And.intro hpa hxn))))
      have HMID:=Lib.hid hmid
      have HX:=Lib.hid (And.intro hx (And.intro hlt (And.intro hmhi hmul)))
      have hm9:m≤121000:=by omega
      obtain⟨wo,hwo⟩:∃wo,wo=wr:=⟨_,rfl⟩
      subst hwo
      have hwos:B≤wo.heap.size:=Nat.le_trans HFr.out.base (Nat.le_of_lt HFr.out.obj.lt)
      clear htg hpn hpL hpa hmid hx HTG hmhi hmul hnm
      have hlX:i<XL:=by rw [←HXL.out];exact hlt
      have hiI:(i:Int)<(XL:Int):=by omega
      clear hlt
      by_cases hlast:i+1<XL
      ·have hlI:(i:Int)<(XL:Int)-1:=by omega
       go_wp2
       go_loopw [11,12] (fun lv jv wq=>∃(j mj:Nat) (L1 rs:List Nat) (kn2:Nat→Nat) (kv2 av2:Nat→Value) (pl2:Nat→Int) (lab2:Nat→NodeD) (Gj:Wd),j≤ws.length∧jv=.int .i64 (j:Int)∧Hid (ForestK B wq f vf len kn (mj:Int) (decide (600<mj)))∧Hid (Below B w wq)∧Hid (wo.heap.size≤wq.heap.size)∧Hid (Knots B wq mj kn2 kv2 av2 pl2 lab2 Gj)∧Hid (Fl F.kids (ws.take j) L1∧CopiesK wo.heap.size m kn' kv' av' pl' lab' G (ws.take j) L1 rs mj kn2 kv2 av2 pl2 lab2 Gj)∧Hid (wq.ownsRow Bx 69 1 (.slice (some ⟨gx,0,none⟩) xs.length cx) xs.length (xs.map fun y=>ptrV (kn y)))∧Hid (wq.ownsRow Bw 69 1 (.slice (some ⟨gw,0,none⟩) ws.length cw) ws.length (ws.map fun y=>ptrV (kn y)))∧Hid (wq.ownsRow wo.heap.size 69 1 lv j (rs.map fun y=>ptrV (kn2 y)))∧Hid (∀q,lv.ownBlock=some q→q≠gx∧q≠gw∧vf.ownBlock≠some q∧∀i,i<mj→(kv2 i).ownBlock≠some q)) (fun _ jv _=>ws.length-(intOf jv).toNat)
       case atStart=>exact⟨0,m,[],[],kn',kv',av',pl',lab',G,by omega,by go_num,HFr,HBr,Lib.hid (Nat.le_refl _),HKr,Lib.hid ⟨.nil,CopiesK.start HMID.out.ok⟩,HRXr,HRWr,Lib.hid (World.ownsRow_nil _ _ _ _),Lib.hid (fun q hq=>by simp [Value.ownBlock]at hq)⟩
       case round=>
        obtain⟨j,mj,L1,rs,kn2,kv2,av2,pl2,lab2,Gj,hj,rfl,HFj,HBj,HSJ,HKj,HCJ,HRXj,HRWj,HLj,HLQ⟩:=hrel
        obtain⟨la,lc,rfl⟩:=ownsRow_slice HLj.out
        obtain⟨La,Ra,hLa,hLa1,hLa2⟩:=HL.out.1.take_drop j
        have hL1:=HCJ.out.1.det hLa1
        by_cases hjl:j<ws.length
        ·have cj:=own_krow HRWj.out j hjl
         have hvn:=HWS.out.1 _ (getD_mem' (d:=0) hjl)
         have htk:=take_snoc hjl
         obtain⟨v,hv⟩:∃v,ws.getD j 0=v:=⟨_,rfl⟩
         rw [hv]at cj hvn htk
         have hjI:(j:Int)<(ws.length:Int):=by omega
         obtain⟨Lv,hLv⟩:=HF.out.flat v
         have hLs:=Fl.append HCJ.out.1 hLv
         rw [←htk]at hLs
         obtain⟨Lb,Rb,hLb,hLb1,_⟩:=HL.out.1.take_drop (j+1)
         have hLe:=hLs.det hLb1
         have hlen:L1.length+Lv.length≤L.length:=by
          have h1:=congrArg List.length hLb
          rw [←hLe]at h1
          simp only [List.length_append]at h1
          omega
         have hmem:∀z∈Lv,z∈L:=fun z hz=>by rw [hLb,←hLe];simp [hz]
         have hzn:∀z∈Lv,z<n:=fun z hz=>HL.out.2.2.1.lt z (hmem z hz)
         have hnm:=HOK.out.le
         have hmj:=HCJ.out.2.lo
         have hmjh:=HCJ.out.2.hi
         have hmh:=HX.out.2.2.1
         have hmu:=HX.out.2.2.2
         have hcall:=copied_any Lv.length B wr f len vf kn mj kn2 kv2 av2 pl2 lab2 Gj v Lv HKj.out HCJ.out.2.ok HFj.out (by omega) (hLv.congr (fun z hz=>by
          have :=hzn z hz
          rw [(HCJ.out.2.oldF z (by omega)).1]
          exact HMID.out.tree z (hmem z hz))) (Nat.le_refl _) (fun z hz=>by
          have h1:=hzn z hz
          rw [(HCJ.out.2.old z (by omega)).2.2.2.2,(HOK.out.old z h1).2.2]
          exact HWS.out.2.2.2 z h1) (by omega)
         have hkv:kn2 v=kn v:=by rw [(HCJ.out.2.old v (by omega)).1];exact(HOK.out.old v hvn).1
         rw [hkv]at hcall
         have hloT:=HL.out.2.1
         have hc1:CpOk m G L1 (ws.take j):=(by
          have h1:Lone F (ws.take j):=by
           rw [←List.take_append_drop j ws]at hloT
           exact hloT.sub
          have h2:=cpOk_of HF.out HCJ.out.1 h1 (fun z hz=>HWS.out.1 z (List.mem_of_mem_take hz))
          exact⟨h2.nd,fun y hy=>by have :=h2.lt y hy;omega,fun q hq y hy=>h2.sub q hq y (by rwa [HMID.out.tree q (by rw [hLa,←hL1];simp [hq])]at hy),fun y hy hn2=>by rw [HMID.out.up y (h2.lt y hy)];exact h2.up y hy hn2,h2.ws⟩)
         have hc2:CpOk m G Lv [v]:=(by
          have h2:=cpOk_of HF.out hLv (lone_one F v) (fun z hz=>by simp at hz;omega)
          exact⟨h2.nd,fun y hy=>by have :=h2.lt y hy;omega,fun q hq y hy=>h2.sub q hq y (by rwa [HMID.out.tree q (hmem q hq)]at hy),fun y hy hn2=>by rw [HMID.out.up y (h2.lt y hy)];exact h2.up y hy hn2,h2.ws⟩)
         have hdis:∀z∈L1,z∉Lv:=lone_disjoint HF.out (by
          rw [←List.take_append_drop (j+1) ws]at hloT
          rw [←htk]
          exact hloT.sub) HCJ.out.1 hLv
         have HCALL:=Lib.hid hcall
         have HV:=Lib.hid (And.intro htk (And.intro hLs (And.intro hLv.head (And.intro hc1 (And.intro hc2 hdis)))))
         clear hcall htk hLs hc1 hc2 hdis hLv hLb hLb1 hLe hmem hzn hkv hloT hv hL1 hLa hLa1 hLa2 hmh hmu
         go_wp2_with fail
         refine HCALL.out.mono ?_
         rintro e w2 ⟨m3,kn3,kv3,av3,pl3,lab3,G3,rfl,HC3,HK2,HF2,HKF2⟩
         have hm3:=HC3.out.lo
         have hcut:=cut_none HK2.out hm3 HC3.out.root
         have HCUT:=Lib.hid hcut
         clear hcut HCALL
         go_wp2_with fail
         refine HCUT.out.mono ?_
         rintro e w3 ⟨rfl,rfl⟩
         have hfo:=HFj.out.obj
         have HRX3:=Lib.hid (own_keptF hfo HRXj.out HKF2.out)
         have HRW3:=Lib.hid (own_keptF hfo HRWj.out HKF2.out)
         have hl3:=own_keptF hfo HLj.out HKF2.out
         have hbw3:B≤wr.heap.size:=Nat.le_trans HFj.out.base (Nat.le_of_lt hfo.lt)
         have HB3:=Lib.hid (HBj.out.trans (HKF2.out.below B hbw3 HFj.out.base))
         have hs3:wo.heap.size≤w2.heap.size:=Nat.le_trans HSJ.out HKF2.out.size
         have hrs3:(rs.map fun y=>ptrV (kn2 y))=rs.map fun y=>ptrV (kn3 y):=List.map_congr_left (fun y hy=>by rw [(HC3.out.old y (HCJ.out.2.tops y hy).2.1).1])
         rw [hrs3]at hl3
         have HL3:=Lib.hid hl3
         have hownA:=World.ownsRow.alloc hl3 (.cells #[.pointer (some ⟨kn3 mj,0,none⟩)] 69)
         have hnews:∀i u,[Value.pointer (some ⟨kn3 mj,0,none⟩)][i]? =some u→(w2.alloc (.cells #[.pointer (some ⟨kn3 mj,0,none⟩)] 69)).cell? ((⟨w2.heap.size,0,none⟩:Addr).add i)=some u:=
          World.news_of_block (cs:= #[.pointer (some ⟨kn3 mj,0,none⟩)]) (t:=69) (fr:=(0,0)) (heap_alloc_new w2 _)
         have HOA:=Lib.hid hownA
         have HNEWS:=Lib.hid hnews
         have hBw3:B≤w2.heap.size:=by have :=HKF2.out.size;omega
         clear hownA hnews hl3 hrs3 HCUT cj hfo
         go_wp2_with (at_builtin;refine wpList_append_lies _ rfl _ _ 66 rfl wo.heap.size 69 i0 (.pointer none) 1 8 Tryz.underlying66 hi hz0 hz1 hz2 rfl (by decide) (.slice la j lc) j (rs.map fun y=>ptrV (kn3 y)) rfl HOA.out ⟨w2.heap.size,0,none⟩ 1 1 [.pointer (some ⟨kn3 mj,0,none⟩)] rfl rfl HNEWS.out (by simp [Value.oneCell']) (by omega) (by unfold maxLen;omega) (by omega) (by simp;omega) _ rfl ?_)
         intro g6 cap6 w6 hown6 hgrow6 hat6 hlt6
         have hb36:Below B w2 w6:=((Below.refl _ _).alloc hBw3 _).grown hgrow6 (by simp;omega) (fun q hq=>by have :=(World.ownsRow.lt HL3.out q hq).1;omega)
         have hfar:∀k,k<w2.heap.size→some k≠(Value.slice la j lc).ownBlock→w6.heap[k]? =w2.heap[k]? :=fun k hk hne=>by
          rw [hgrow6.block k (by simp;omega) hne]
          exact Below.heap_alloc w2 _ k hk
         have hlw:∀q,(Value.slice la j lc).ownBlock=some q→q<wr.heap.size:=fun q hq=>(World.ownsRow.lt HLj.out q hq).2
         have hq3:∀q,(Value.slice la j lc).ownBlock=some q→vf.ownBlock≠some q∧∀i,i<m3→(kv3 i).ownBlock≠some q:=fun q hq=>by
          obtain⟨_,_,h3,h4⟩:=HLQ.out q hq
          refine⟨h3,fun i hi e=>?_⟩
          by_cases h5:i<mj
          ·rw [(HC3.out.old i h5).2.1]at e;exact h4 i h5 e
          ·have :=(HC3.out.new i (by omega) hi).2.2 q e;have :=hlw q hq;omega
         have hnode:∀i,i<m3→some (kn3 i)≠(Value.slice la j lc).ownBlock:=fun i hi e=>objAt_ne_own (HK2.out.node i hi) HL3.out (by decide) e.symm
         have hk6:Knots B w6 m3 kn3 kv3 av3 pl3 lab3 G3:=by
          refine⟨fun i hi=>?_,fun i hi=>?_,fun i hi=>?_,HK2.out.base,HK2.out.inj⟩
          ·have h1:=HK2.out.node i hi
           have h2:=h1.lt
           unfold World.objAt at h1 ⊢
           rw [hfar _ h2 (hnode i hi)]
           exact h1
          ·exact ownsRow_kept (HK2.out.row i hi) (fun k hk=>hfar k (World.ownsRow.lt (HK2.out.row i hi) k hk).2 (fun e=>(hq3 k e.symm).2 i hi hk))
          ·exact ownsRow_kept (HK2.out.attrs i hi) (fun k hk=>hfar k (World.ownsRow.lt (HK2.out.attrs i hi) k hk).2 (fun e=>own_ne_own (HK2.out.attrs i hi) HL3.out (by decide) hk e.symm))
         have hf6:ForestK B w6 f vf len kn (m3:Int) (decide (600<m3)):=by
          have h1:=HF2.out.obj
          have h2:=h1.lt
          refine⟨?_,ownsRow_kept HF2.out.all (fun k hk=>hfar k (World.ownsRow.lt HF2.out.all k hk).2 (fun e=>(hq3 k e.symm).1 hk)),HF2.out.base⟩
          have h4:some f≠(Value.slice la j lc).ownBlock:=fun e=>objAt_ne_own h1 HL3.out (by decide) e.symm
          unfold World.objAt at h1 ⊢
          rw [hfar f h2 h4]
          exact h1
         have hxw:gx<w2.heap.size∧gw<w2.heap.size:=⟨(World.ownsRow.lt HRX3.out gx rfl).2,(World.ownsRow.lt HRW3.out gw rfl).2⟩
         have hq6:∀q,(Value.slice (some ⟨g6,0,none⟩) (j+1) cap6).ownBlock=some q→q≠gx∧q≠gw∧vf.ownBlock≠some q∧∀i,i<m3→(kv3 i).ownBlock≠some q:=fun q hq=>by
          simp only [Value.ownBlock,Option.some.injEq]at hq
          subst hq
          rcases hat6 with h | h
          ·obtain⟨h1,h2,_,_⟩:=HLQ.out g6 h
           exact⟨h1,h2,hq3 g6 h⟩
          ·have hge:w2.heap.size≤g6:=by rw [h];simp
           refine⟨by omega,by omega,fun e=>?_,fun i hi e=>?_⟩
           ·have :=(World.ownsRow.lt HF2.out.all _ e).2;omega
           ·have :=(World.ownsRow.lt (HK2.out.row i hi) _ e).2;omega
         have hstep:=HCJ.out.2.step HSJ.out HV.out.2.2.2.1 HV.out.2.2.2.2.1 HV.out.2.2.1 HV.out.2.2.2.2.2 HC3.out
         rw [←HV.out.1]at hstep
         have HCS:=Lib.hid (And.intro HV.out.2.1 hstep)
         have HQ6:=Lib.hid hq6
         have HK6:=Lib.hid hk6
         have HF6:=Lib.hid hf6
         have HB6:=Lib.hid (HB3.out.trans hb36)
         have hsn:w6.ownsRow wo.heap.size 69 1 (.slice (some ⟨g6,0,none⟩) (j+1) cap6) (j+1) ((rs++[mj]).map fun y=>ptrV (kn3 y)):=by
          rw [List.map_append]
          simpa [ptrV]using hown6
         have HSN:=Lib.hid hsn
         clear hq6 hk6 hf6 hsn hq3 hlw hstep
         have hsz6:=hgrow6.size
         have HX6:=Lib.hid (show w6.ownsRow Bx 69 1 (.slice (some ⟨gx,0,none⟩) xs.length cx) xs.length (xs.map fun y=>ptrV (kn y)) from ownsRow_kept HRX3.out (fun k hk=>hfar k (World.ownsRow.lt HRX3.out k hk).2 (fun e=>by simp only [Value.ownBlock,Option.some.injEq]at hk;exact(HLQ.out k e.symm).1 hk.symm)))
         have HW6:=Lib.hid (show w6.ownsRow Bw 69 1 (.slice (some ⟨gw,0,none⟩) ws.length cw) ws.length (ws.map fun y=>ptrV (kn y)) from ownsRow_kept HRW3.out (fun k hk=>hfar k (World.ownsRow.lt HRW3.out k hk).2 (fun e=>by simp only [Value.ownBlock,Option.some.injEq]at hk;exact(HLQ.out k e.symm).2.1 hk.symm)))
         have HS6:=Lib.hid (show wo.heap.size≤w6.heap.size by simp only [World.size_alloc]at hsz6;omega)
         clear hfar hnode hown6 hgrow6 hat6 hlt6 hb36 hxw HLQ HLj HL3 HB3 HOA HNEWS HRX3 HRW3 HCJ HC3 HK2 HF2 HKF2 HV
         go_wp2
         refine⟨?rel,?measure⟩
         case rel=>exact⟨j+1,m3,_,rs++[mj],kn3,kv3,av3,pl3,lab3,G3,by omega,by go_num,HF6,HB6,HS6,HK6,HCS,HX6,HW6,HSN,HQ6⟩
         case measure=>simp [intOf];omega
        ·obtain rfl:j=ws.length:=by omega
         have hCJ:=HCJ.out.2
         have hL9:=HCJ.out.1
         rw [List.take_length]at hCJ hL9
         have hLL:=hL9.det HL.out.1
         rw [hLL]at hCJ
         have hrl:=hCJ.len
         obtain⟨gl,rfl⟩:∃gl,la=some ⟨gl,0,none⟩:=by
          rcases HLj.out.2 with ⟨_,h2⟩ | ⟨g0,c0_,cur,hv_,_⟩
          ·omega
          ·simp at hv_;exact⟨g0,hv_.1⟩
         have hnm:=HOK.out.le
         have hmj:=hCJ.lo
         have hmjh:=hCJ.hi
         have hmh:=HX.out.2.2.1
         have hmu:=HX.out.2.2.2
         obtain⟨htg,hpn,hpL,hpa,hxn⟩:=HT.out
         have hins:=insertedK_any HOP.out HKj.out hCJ.ok (by omega) f (lb:=lab') (x:=x) (p:=p) (A:=A0) (B':=B0) (ws:=rs) (htg.congr (hCJ.oldF p (by omega)).1 (hCJ.oldF x (by omega)).2 rfl) (by omega) (by omega) gl lc (by rw [hrl];exact HLj.out) (fun r hr=>by
          obtain⟨t1,t2,t3⟩:=hCJ.tops r hr
          exact⟨t2,by omega,t3⟩) hCJ.nd (by omega)
         have hkx2:kn2 x=kn x:=by rw [(hCJ.old x (by omega)).1];exact(HOK.out.old x hxn).1
         rw [hrl,hkx2]at hins
         have HINS:=Lib.hid hins
         have cx0:=own_krow HRXj.out i (by rw [HXL.out];exact hlX)
         rw [HX.out.1]at cx0
         have hout:=HOK.out.step (by rw [HXL.out];exact hlast) HF.out HL.out.2.2.1 hpn hpL (by rw [HX.out.1];exact htg) hCJ
         have HOUT:=Lib.hid hout
         clear hins hout hCJ hL9 hLL hrl htg hpn hpL hpa hxn hkx2 HLQ HLj hL1 hLa hLa1 hLa2 hmh hmu
         go_wp2_with fail
         refine HINS.out.mono ?_
         rintro e w9 ⟨kv9,rfl,hk10,ho10⟩
         have HF10:=Lib.hid (HFj.out.turn HKj.out ho10.out)
         have HB10:=Lib.hid (HBj.out.trans (ho10.out.below B (Nat.le_trans HFj.out.base (Nat.le_of_lt HFj.out.obj.lt)) HKj.out.base))
         have HRX10:=Lib.hid (own_onlyK HKj.out HRXj.out ho10.out)
         have HRW10:=Lib.hid (own_onlyK HKj.out HRWj.out ho10.out)
         clear ho10 HINS cx0
         go_wp2
         refine⟨?rel,?measure⟩
         case rel=>exact⟨i+1,mj,kn2,kv9,av2,pl2,lab2,_,by go_num,by omega,HF10,HB10,hk10,HOUT,HRX10,HRW10⟩
         case measure=>simp [intOf];omega
      ·have hlI:¬(i:Int)<(XL:Int)-1:=by omega
       have hkxx:kn' x=kn x:=(HOK.out.old x HT.out.2.2.2.2).1
       have HKX:=Lib.hid hkxx
       have HOFF:=Lib.hid (show Knots B wo m kn' kv' av' pl' lab' (G.off (ws.take 0)) by rw [List.take_zero,off_nil];exact HKr.out)
       have hkw:(ws.map fun y=>ptrV (kn y))=ws.map fun y=>ptrV (kn' y):=List.map_congr_left (fun y hy=>by rw [(HOK.out.old y (HWS.out.1 y hy)).1])
       have HRW0:=HRWr.out
       rw [hkw]at HRW0
       have HKW:=Lib.hid hkw
       have HRWr:=Lib.hid HRW0
       clear hkxx hkw HRW0
       go_wp2
       go_loopw [11,12] (fun lv jv wq=>∃(j:Nat) (kv2:Nat→Value),j≤ws.length∧jv=.int .i64 (j:Int)∧Hid (ForestK B wq f vf len kn (m:Int) (decide (600<m)))∧Hid (Below B w wq)∧Hid (wo.heap.size≤wq.heap.size)∧Hid (Knots B wq m kn' kv2 av' pl' lab' (G.off (ws.take j)))∧Hid (wq.ownsRow Bx 69 1 (.slice (some ⟨gx,0,none⟩) xs.length cx) xs.length (xs.map fun y=>ptrV (kn y)))∧Hid (wq.ownsRow Bw 69 1 (.slice (some ⟨gw,0,none⟩) ws.length cw) ws.length (ws.map fun y=>ptrV (kn' y)))∧Hid (wq.ownsRow wo.heap.size 69 1 lv j ((ws.take j).map fun y=>ptrV (kn' y)))∧Hid (∀q,lv.ownBlock=some q→q≠gx∧q≠gw∧vf.ownBlock≠some q∧∀i,i<m→(kv2 i).ownBlock≠some q)) (fun _ jv _=>ws.length-(intOf jv).toNat)
       case atStart=>exact⟨0,kv',by omega,by go_num,HFr,HBr,Lib.hid (Nat.le_refl _),HOFF,HRXr,HRWr,Lib.hid (World.ownsRow_nil _ _ _ _),Lib.hid (fun q hq=>by simp [Value.ownBlock]at hq)⟩
       case round=>
        obtain⟨j,kv2,hj,rfl,HFj,HBj,HSJ,HKj,HRXj,HRWj,HLj,HLQ⟩:=hrel
        obtain⟨la,lc,rfl⟩:=ownsRow_slice HLj.out
        by_cases hjl:j<ws.length
        ·have cj:=own_krow HRWj.out j hjl
         have hvn:=HWS.out.1 _ (getD_mem' (d:=0) hjl)
         have htk:=take_snoc hjl
         obtain⟨v,hv⟩:∃v,ws.getD j 0=v:=⟨_,rfl⟩
         rw [hv]at cj hvn htk
         have hoff:G.off (ws.take (j+1))=(G.off (ws.take j)).cut v:=by rw [htk,off_snoc]
         have hFj:=HMID.out.ok.off (ws.take j)
         have hnm:=HOK.out.le
         have hjI:(j:Int)<(ws.length:Int):=by omega
         have hcut:Calls Tryz.prog 59 #[.pointer (some ⟨kn' v,0,none⟩)] wr (FreshKPost B m kn' kv2 av' pl' lab' (G.off (ws.take (j+1))) wr):=by
          rw [hoff]
          cases hu:(G.off (ws.take j)).up v with
          | none=>
           refine(cut_none HKj.out (by omega) hu).mono ?_
           rintro e w3 ⟨rfl,rfl⟩
           exact⟨kv2,rfl,Lib.hid (by rw [hFj.cut_none hu];exact HKj.out),Lib.hid (OnlyK.refl _ _ _),Lib.hid (fun i=>.inl rfl)⟩
          | some q=>
           obtain⟨a1,b1,hab⟩:=List.append_of_mem ((hFj.iff q v).2 hu)
           exact cutK_fresh HKj.out hFj (by omega) hab
         have HCUT:=Lib.hid hcut
         have HTK:=Lib.hid htk
         clear hcut hoff hFj hv htk
         go_wp2_with fail
         refine HCUT.out.mono ?_
         rintro e w3 ⟨kv3,rfl,hk3,ho3,hfr3⟩
         have HF3:=Lib.hid (HFj.out.turn HKj.out ho3.out)
         have HRX3:=Lib.hid (own_onlyK HKj.out HRXj.out ho3.out)
         have HRW3:=Lib.hid (own_onlyK HKj.out HRWj.out ho3.out)
         have HL3:=Lib.hid (own_onlyK HKj.out HLj.out ho3.out)
         have hBwr:B≤wr.heap.size:=Nat.le_trans HFj.out.base (Nat.le_of_lt HFj.out.obj.lt)
         have HB3:=Lib.hid (HBj.out.trans (ho3.out.below B hBwr HKj.out.base))
         have hs3:wo.heap.size≤w3.heap.size:=Nat.le_trans HSJ.out ho3.out.size
         have hownA:=World.ownsRow.alloc HL3.out (.cells #[.pointer (some ⟨kn' v,0,none⟩)] 69)
         have hnews:∀i u,[Value.pointer (some ⟨kn' v,0,none⟩)][i]? =some u→(w3.alloc (.cells #[.pointer (some ⟨kn' v,0,none⟩)] 69)).cell? ((⟨w3.heap.size,0,none⟩:Addr).add i)=some u:=
          World.news_of_block (cs:= #[.pointer (some ⟨kn' v,0,none⟩)]) (t:=69) (fr:=(0,0)) (heap_alloc_new w3 _)
         have HOA:=Lib.hid hownA
         have HNEWS:=Lib.hid hnews
         have hBw3:B≤w3.heap.size:=by have :=ho3.out.size;omega
         clear hownA hnews ho3 HCUT cj
         go_wp2_with (at_builtin;refine wpList_append_lies _ rfl _ _ 66 rfl wo.heap.size 69 i0 (.pointer none) 1 8 Tryz.underlying66 hi hz0 hz1 hz2 rfl (by decide) (.slice la j lc) j ((ws.take j).map fun y=>ptrV (kn' y)) rfl HOA.out ⟨w3.heap.size,0,none⟩ 1 1 [.pointer (some ⟨kn' v,0,none⟩)] rfl rfl HNEWS.out (by simp [Value.oneCell']) (by omega) (by unfold maxLen;omega) (by omega) (by simp;omega) _ rfl ?_)
         intro g6 cap6 w6 hown6 hgrow6 hat6 hlt6
         have hb36:Below B w3 w6:=((Below.refl _ _).alloc hBw3 _).grown hgrow6 (by simp;omega) (fun q hq=>by have :=(World.ownsRow.lt HL3.out q hq).1;omega)
         have hfar:∀k,k<w3.heap.size→some k≠(Value.slice la j lc).ownBlock→w6.heap[k]? =w3.heap[k]? :=fun k hk hne=>by
          rw [hgrow6.block k (by simp;omega) hne]
          exact Below.heap_alloc w3 _ k hk
         have hlw:∀q,(Value.slice la j lc).ownBlock=some q→q<wr.heap.size:=fun q hq=>(World.ownsRow.lt HLj.out q hq).2
         have hq3:∀q,(Value.slice la j lc).ownBlock=some q→vf.ownBlock≠some q∧∀i,i<m→(kv3 i).ownBlock≠some q:=fun q hq=>by
          obtain⟨_,_,h3,h4⟩:=HLQ.out q hq
          refine⟨h3,fun i hi e=>?_⟩
          rcases hfr3.out i with h5 | h5
          ·rw [h5]at e;exact h4 i hi e
          ·have :=h5 q e;have :=hlw q hq;omega
         have hnode:∀i,i<m→some (kn' i)≠(Value.slice la j lc).ownBlock:=fun i hi e=>objAt_ne_own (hk3.out.node i hi) HL3.out (by decide) e.symm
         have hk6:Knots B w6 m kn' kv3 av' pl' lab' (G.off (ws.take (j+1))):=by
          refine⟨fun i hi=>?_,fun i hi=>?_,fun i hi=>?_,hk3.out.base,hk3.out.inj⟩
          ·have h1:=hk3.out.node i hi
           have h2:=h1.lt
           unfold World.objAt at h1 ⊢
           rw [hfar _ h2 (hnode i hi)]
           exact h1
          ·exact ownsRow_kept (hk3.out.row i hi) (fun k hk=>hfar k (World.ownsRow.lt (hk3.out.row i hi) k hk).2 (fun e=>(hq3 k e.symm).2 i hi hk))
          ·exact ownsRow_kept (hk3.out.attrs i hi) (fun k hk=>hfar k (World.ownsRow.lt (hk3.out.attrs i hi) k hk).2 (fun e=>own_ne_own (hk3.out.attrs i hi) HL3.out (by decide) hk e.symm))
         have hf6:ForestK B w6 f vf len kn (m:Int) (decide (600<m)):=by
          have h1:=HF3.out.obj
          have h2:=h1.lt
          refine⟨?_,ownsRow_kept HF3.out.all (fun k hk=>hfar k (World.ownsRow.lt HF3.out.all k hk).2 (fun e=>(hq3 k e.symm).1 hk)),HF3.out.base⟩
          have h4:some f≠(Value.slice la j lc).ownBlock:=fun e=>objAt_ne_own h1 HL3.out (by decide) e.symm
          unfold World.objAt at h1 ⊢
          rw [hfar f h2 h4]
          exact h1
         have hxw:gx<w3.heap.size∧gw<w3.heap.size:=⟨(World.ownsRow.lt HRX3.out gx rfl).2,(World.ownsRow.lt HRW3.out gw rfl).2⟩
         have hq6:∀q,(Value.slice (some ⟨g6,0,none⟩) (j+1) cap6).ownBlock=some q→q≠gx∧q≠gw∧vf.ownBlock≠some q∧∀i,i<m→(kv3 i).ownBlock≠some q:=fun q hq=>by
          simp only [Value.ownBlock,Option.some.injEq]at hq
          subst hq
          rcases hat6 with h | h
          ·obtain⟨h1,h2,_,_⟩:=HLQ.out g6 h
           exact⟨h1,h2,hq3 g6 h⟩
          ·have hge:w3.heap.size≤g6:=by rw [h];simp
           refine⟨by omega,by omega,fun e=>?_,fun i hi e=>?_⟩
           ·have :=(World.ownsRow.lt HF3.out.all _ e).2;omega
           ·have :=(World.ownsRow.lt (hk3.out.row i hi) _ e).2;omega
         have HQ6:=Lib.hid hq6
         have HK6:=Lib.hid hk6
         have HF6:=Lib.hid hf6
         have HB6:=Lib.hid (HB3.out.trans hb36)
         have hsn:w6.ownsRow wo.heap.size 69 1 (.slice (some ⟨g6,0,none⟩) (j+1) cap6) (j+1) ((ws.take (j+1)).map fun y=>ptrV (kn' y)):=by
          rw [HTK.out,List.map_append]
          simpa [ptrV]using hown6
         have HSN:=Lib.hid hsn
         clear hq6 hk6 hf6 hsn hq3 hlw
         have hsz6:=hgrow6.size
         have HX6:=Lib.hid (show w6.ownsRow Bx 69 1 (.slice (some ⟨gx,0,none⟩) xs.length cx) xs.length (xs.map fun y=>ptrV (kn y)) from ownsRow_kept HRX3.out (fun k hk=>hfar k (World.ownsRow.lt HRX3.out k hk).2 (fun e=>by simp only [Value.ownBlock,Option.some.injEq]at hk;exact(HLQ.out k e.symm).1 hk.symm)))
         have HW6:=Lib.hid (show w6.ownsRow Bw 69 1 (.slice (some ⟨gw,0,none⟩) ws.length cw) ws.length (ws.map fun y=>ptrV (kn' y)) from ownsRow_kept HRW3.out (fun k hk=>hfar k (World.ownsRow.lt HRW3.out k hk).2 (fun e=>by simp only [Value.ownBlock,Option.some.injEq]at hk;exact(HLQ.out k e.symm).2.1 hk.symm)))
         have HS6:=Lib.hid (show wo.heap.size≤w6.heap.size by simp only [World.size_alloc]at hsz6;omega)
         clear hfar hnode hown6 hgrow6 hat6 hlt6 hb36 hxw hfr3 hk3 HLQ HLj HL3 HF3 HB3 HOA HNEWS HRX3 HRW3
         go_wp2
         refine⟨?rel,?measure⟩
         case rel=>exact⟨j+1,kv3,by omega,by go_num,HF6,HB6,HS6,HK6,HX6,HW6,HSN,HQ6⟩
         case measure=>simp [intOf];omega
        ·obtain rfl:j=ws.length:=by omega
         have hk9:=HKj.out
         rw [List.take_length]at hk9
         have hl9:=HLj.out
         rw [List.take_length]at hl9
         obtain⟨gl,rfl⟩:∃gl,la=some ⟨gl,0,none⟩:=by
          rcases hl9.2 with ⟨_,h2⟩ | ⟨g0,c0_,cur,hv_,_⟩
          ·omega
          ·simp at hv_;exact⟨g0,hv_.1⟩
         have hFk:=HMID.out.ok.off ws
         obtain⟨htg,hpn,hpL,hpa,hxn⟩:=HT.out
         have hnm:=HOK.out.le
         have hxw:x∉ws:=fun hm=>by
          have h1:=HL.out.2.2.2 i (by rw [HXL.out];exact hlX) x hm
          rw [HX.out.1]at h1
          exact h1 .refl
         have hins:=insertedK_any HOP.out hk9 hFk (by omega) f (lb:=lab') (x:=x) (p:=p) (A:=offL ws A0) (B':=offL ws B0) (ws:=ws) (htg.off hxw) (by omega) (by omega) gl lc hl9 (fun v hv=>⟨by have :=HWS.out.1 v hv;omega,fun e=>hpa v hv (by rw [e];exact .refl),off_in hv⟩) HWS.out.2.1 hwl
         rw [HKX.out]at hins
         have HINS:=Lib.hid hins
         have cx0:=own_krow HRXj.out i (by rw [HXL.out];exact hlX)
         rw [HX.out.1]at cx0
         have HK9:=Lib.hid hk9
         have hout:=HOK.out.final (by rw [HXL.out];omega) (by rw [HX.out.1];exact htg) (mv_all HMID.out.ok (by omega) htg.1 (fun v hv ha=>hpa v hv ((anc_same HF.out HMID.out.up hpn).1 ha)) HWS.out.2.1 (fun v hv=>Nat.lt_of_lt_of_le (HWS.out.1 v hv) hnm))
         have HOUT:=Lib.hid hout
         clear hins hk9 hl9 hFk HLQ HLj hout htg hpn hpL hpa hxn hxw
         go_wp2_with fail
         refine HINS.out.mono ?_
         rintro e w9 ⟨kv9,rfl,hk10,ho10⟩
         have HF10:=Lib.hid (HFj.out.turn HK9.out ho10.out)
         have HB10:=Lib.hid (HBj.out.trans (ho10.out.below B (Nat.le_trans HFj.out.base (Nat.le_of_lt HFj.out.obj.lt)) HK9.out.base))
         have HRX10:=Lib.hid (own_onlyK HK9.out HRXj.out ho10.out)
         have hrw10:=own_onlyK HK9.out HRWj.out ho10.out
         rw [←HKW.out]at hrw10
         have HRW10:=Lib.hid hrw10
         clear ho10 HINS cx0 hrw10
         go_wp2
         refine⟨?rel,?measure⟩
         case rel=>exact⟨i+1,m,kn',kv9,av',pl',lab',_,by go_num,by omega,HF10,HB10,hk10,HOUT,HRX10,HRW10⟩
         case measure=>simp [intOf];omega
     ·obtain rfl:XL=i:=by omega
      have HSPT:Hid (∀x∈xs,Spot op lab F x):=Lib.hid (fun x hx=>by
       obtain⟨k,hk,rfl⟩:=List.getElem_of_mem hx
       have :=HG.out k hk
       rwa [List.getD_eq_getElem?_getD,List.getElem?_eq_getElem hk]at this)
      have HFIN:Hid (∀G2,G2=(if op=5 then cutsW G xs else G)→ManyK op op' n kn pl lab F xs ws m kn' pl' lab' G2):=Lib.hid (fun G2 hG2=>⟨HOK.out.le,HOK.out.old,HOK.out.new,fun h6=>⟨HWNE.out,HAW.out,HA5.out,HSPT.out,L,G,HL.out.1,(HOK.out.exact h6).2 HXL.out.symm,hG2⟩⟩)
      rcases Decidable.em (op=5)with h5 | h5
      case' inl=>
       first
        | (exfalso;rw [h5]at g5;exact absurd g5 (by decide))
        | clear h5
      case' inr=>
       first
        | (exfalso;exact h5 (by simpa using g5))
        | clear h5
      all_goals
       first
        | (
         have HFIN1:=Lib.hid (HFIN.out G (by rw [if_neg (by intro h5;rw [h5]at g5;exact absurd g5 (by decide))]))
         clear HFIN
         go_wp2
         go_ret
         exact .inr ⟨m,kn',kv',av',pl',lab',G,rfl,HFIN1,HKr,HFr,HBr⟩)
        | skip
      all_goals
       have HFIN1:=Lib.hid (HFIN.out (cutsW G xs) (by rw [if_pos (by simpa using g5)]))
       have HWG:Hid (WOk m G):=Lib.hid HOK.out.ok
       have hm9:m≤1000000:=by
        have h1:=HOK.out.hi
        have h2:XL*L.length≤200*600:=Nat.mul_le_mul (by omega) (by omega)
        omega
       have HXN:Hid (∀x∈xs,x<m):=Lib.hid (fun x hx=>Nat.lt_of_lt_of_le (HWS.out.2.2.1 x hx) HOK.out.le)
       have HXO:Hid (∀x∈xs,kn' x=kn x):=Lib.hid (fun x hx=>(HOK.out.old x (HWS.out.2.2.1 x hx)).1)
       clear HFIN
       go_wp2
       go_loopw [14] (fun iv wq=>∃(k:Nat) (kv2:Nat→Value),k≤xs.length∧iv=.int .i64 (k:Int)∧Hid (Knots B wq m kn' kv2 av' pl' lab' (cutsW G (xs.take k)))∧Hid (ForestK B wq f vf len kn (m:Int) (decide (600<m)))∧Hid (wq.ownsRow Bx 69 1 (.slice (some ⟨gx,0,none⟩) xs.length cx) xs.length (xs.map fun y=>ptrV (kn y)))∧Hid (Below B w wq)) (fun iv _=>xs.length-(intOf iv).toNat)
       case atStart=>exact⟨0,kv',by omega,by go_num,HKr,HFr,HRXr,HBr⟩
       case round=>
        clear HKr HFr HRXr HBr
        obtain⟨k,kv2,hk,rfl,HKq,HFq,HRq,HBq⟩:=hrel
        by_cases hlt:k<xs.length
        ·have ck:=own_krow HRq.out k hlt
         have hxm:=getD_mem' (d:=0) hlt
         have hx:=HXN.out _ hxm
         have hxo:=HXO.out _ hxm
         have htk:=cuts_take (F:=G) hlt
         obtain⟨x,hxx⟩:∃x,xs.getD k 0=x:=⟨_,rfl⟩
         rw [hxx]at ck hx htk hxo
         have hFk:=HWG.out.cuts (xs.take k)
         have hkI:(k:Int)<(xs.length:Int):=by omega
         have hkI2:(k:Int)<(XL:Int):=by rw [←HXL.out];exact hkI
         have hcut:Calls Tryz.prog 59 #[.pointer (some ⟨kn x,0,none⟩)] wr (fun e w3=>∃kv3,e=.returned (.tuple #[])∧Hid (Knots B w3 m kn' kv3 av' pl' lab' (cutsW G (xs.take (k+1))))∧Hid (OnlyK m kn' wr w3)):=by
          rw [←hxo,htk]
          cases hu:(cutsW G (xs.take k)).up x with
          | none=>
           refine(cut_none HKq.out hx hu).mono ?_
           rintro e w3 ⟨rfl,rfl⟩
           exact⟨kv2,rfl,Lib.hid (by rw [hFk.cut_none hu];exact HKq.out),Lib.hid (OnlyK.refl _ _ _)⟩
          | some p=>
           obtain⟨aa,bb,hab⟩:=List.append_of_mem ((hFk.iff p x).2 hu)
           exact cutK_some HKq.out hFk (by omega) hab
         have HCUT:=Lib.hid hcut
         clear hcut htk hFk hxx hxm hx hxo
         go_wp2_with fail
         refine HCUT.out.mono ?_
         rintro e w3 ⟨kv3,rfl,hk3,ho3⟩
         have HF3:=Lib.hid (HFq.out.turn HKq.out ho3.out)
         have HR3:=Lib.hid (own_onlyK HKq.out HRq.out ho3.out)
         have HB3:=Lib.hid (HBq.out.trans (ho3.out.below B (Nat.le_trans HFq.out.base (Nat.le_of_lt HFq.out.obj.lt)) HKq.out.base))
         clear ho3 HCUT ck
         go_wp2
         refine⟨?rel,?measure⟩
         case rel=>exact⟨k+1,kv3,by omega,by go_num,hk3,HF3,HR3,HB3⟩
         case measure=>simp [intOf];omega
        ·obtain rfl:k=xs.length:=by omega
         have hkn:=HKq.out
         rw [List.take_length]at hkn
         have HKN:=Lib.hid hkn
         have hnl:¬((xs.length:Int)<(XL:Int)):=by have :=HXL.out;omega
         clear hkn
         go_wp2
         go_ret
         exact .inr ⟨m,kn',kv2,av',pl',lab',cutsW G xs,rfl,HFIN1,HKN,HFq,HBq⟩
end Go.Proofs.YtkdomegcacgpnaaGreat
