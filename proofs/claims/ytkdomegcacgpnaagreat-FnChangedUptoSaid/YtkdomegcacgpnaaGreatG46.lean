/- Parts of a proof: WrapGK. -/
import Derived.Test.YtkdomegcacgpnaaGreatG24
import Derived.Test.YtkdomegcacgpnaaGreatG27
import Derived.Test.YtkdomegcacgpnaaGreatG35
import Derived.Deep.RegionWith
import Derived.BigRegion
import Derived.RegionTactic
import Derived.StillTailTactics
import Derived.Deep.CutRange
set_option linter.unusedVariables false
set_option linter.unusedSimpArgs false
namespace Go.Proofs.YtkdomegcacgpnaaGreat
open Go.RowKit
set_option maxRecDepth 100000 in
set_option maxHeartbeats 8000000 in
theorem wrapGK_any{op:Int}(hop:op=9∨op=10∨op=11){B Bx:Nat}{w:World}{n:Nat}{kn:Nat→Nat}{kv av:Nat→Value}{pl:Nat→Int}{lab:Nat→NodeD}{F:Wd}{f len:Nat}{vf:Value}(h:Knots B w n kn kv av pl lab F)(hF:WOk n F)(hFo:ForestK B w f vf len kn (n:Int) (decide (600<n)))(hn:n≤600)(xs:List Nat)(hxs:∀x∈xs,x<n)(hnd:xs.Nodup)(hxl:xs.length≤200)(hx0:0<xs.length)(ax:Option Addr)(cx:Nat)(hrx:w.ownsRow Bx 69 1 (.slice ax xs.length cx) xs.length (xs.map fun y=>ptrV (kn y))){wd:Nat}(hwd:wd<n)
  (hfit:∀y,y<n→(lab y).attrs.length≤100∧∀z∈(lab y).attrs,z.1.size≤maxLen∧z.2.size≤maxLen):
  Calls Tryz.prog 62 #[.pointer (some ⟨f,0,none⟩),.int .i64 op,.slice ax xs.length cx,.pointer (some ⟨kn wd,0,none⟩)] w (WrapGPost op B n kn pl lab F f len vf wd xs w):=by
 obtain⟨i0,hi,hz0,hz1,hz2⟩:=info_parts Tryz.infoKnotP
 obtain⟨j0,hj,hy0,hy1,hy2⟩:=info_parts Tryz.infoKnotS
 have hBw:B≤w.heap.size:=Nat.le_trans hFo.base (Nat.le_of_lt hFo.obj.lt)
 have c1:=(h.node wd hwd).cell (i:=1) (v:=.int .i64 (lab wd).kind) rfl
 obtain⟨kd,hkd⟩:∃kd,(lab wd).kind=kd:=⟨_,rfl⟩
 rw [hkd]at c1
 have hin:=inmost_any h hF (by omega) hwd
 obtain⟨ax',cx',gx,hvx,hkx⟩:=krow_of hrx
 simp only [Value.slice.injEq]at hvx
 obtain⟨rfl,_,rfl⟩:=hvx
 have HIN:=Lib.hid hin
 have hb0:Below w.heap.size w (w.alloc (.cells #[.pointer (some ⟨kn wd,0,none⟩)] 69)):=(Below.refl _ _).alloc (Nat.le_refl _) _
 have hK0:=h.below hb0
 have hkw:KRow (w.alloc (.cells #[.pointer (some ⟨kn wd,0,none⟩)] 69)) (some ⟨w.heap.size,0,none⟩) w.heap.size kn [wd]:=⟨fun _=>rfl,fun i hi=>by
  obtain rfl:i=0:=by simpa using hi
  exact cell_alloc_new' _ _ _ rfl rfl⟩
 have hap:=apartK_any hK0 hF (some ⟨w.heap.size,0,none⟩) w.heap.size 1 [wd] ax gx cx xs hkw (hkx.below hb0) (fun i hi=>by simp at hi;omega) hxs (by simp) hxl
 have HAP:=Lib.hid hap
 have H:=Lib.hid hK0
 have HF:=Lib.hid hF
 have HFO:=Lib.hid (hFo.below hb0)
 have HRX:=Lib.hid (World.ownsRow.alloc hrx (.cells #[.pointer (some ⟨kn wd,0,none⟩)] 69))
 have HKX:=Lib.hid (hkx.below hb0)
 have HB0:=Lib.hid (hb0.mono hBw)
 have HWS:=Lib.hid (And.intro hxs (And.intro hnd (And.intro hwd (And.intro hfit hkd))))
 clear h hF hFo hrx hxs hnd hwd hfit hin hkd hap hkx hkw hb0 hK0
 obtain⟨XL,hXL⟩:∃XL,xs.length=XL:=⟨_,rfl⟩
 have HXL:=Lib.hid hXL
 rw [hXL]at hxl hx0 HAP ⊢
 clear hXL
 have HOP3:Hid (((op !=10)=false∧Hid (op=10))∨((op !=10)=true∧(((op==11)=false∧Hid (op=9))∨((op==11)=true∧Hid (op=11))))):=Lib.hid (by
  rcases hop with rfl | rfl | rfl
  ·exact .inr ⟨rfl,.inl ⟨rfl,Lib.hid rfl⟩⟩
  ·exact .inl ⟨rfl,Lib.hid rfl⟩
  ·exact .inr ⟨rfl,.inr ⟨rfl,Lib.hid rfl⟩⟩)
 clear hop
 go_enter Tryz.func62,Tryz.ntmps62
 by_cases hk3:kd=3
 rotate_left
 ·have hk4:(kd !=3)=true:=by simp [hk3]
  go_wp2
  go_ret
  exact .inl ⟨rfl,Lib.hid (Below.refl _ _)⟩
 subst hk3
 go_wp2_with fail
 refine HIN.out.mono ?_
 rintro e w1 ⟨o,ho,rfl,rfl⟩
 cases o with
 | none=>
  simp only [Option.map_none,lk_none]
  go_wp2
  go_ret
  exact .inl ⟨rfl,Lib.hid (Below.refl _ _)⟩
 | some z0=>
 simp only [Option.map_some,lk_some]
 have HZ0:=Lib.hid ho
 clear ho HIN
 obtain⟨wA,hwA⟩:∃wA,w.alloc (.cells #[.pointer (some ⟨kn wd,0,none⟩)] 69)=wA:=⟨_,rfl⟩
 rw [hwA]at HAP H HFO HRX HKX HB0
 go_wp2_with fail
 refine HAP.out.mono ?_
 rintro e w1 ⟨b1,rfl,hb1,hbel1⟩
 have hwAs:=HB0.out.size
 have HB1:=Lib.hid (HB0.out.trans (hbel1.out.mono (by omega)))
 cases b1
 ·clear hb1 hbel1
  go_wp2
  go_ret
  exact .inl ⟨rfl,HB1⟩
 have HAW:=Lib.hid (hb1 rfl)
 have hK1:=H.out.below hbel1.out
 have hg:=standK_any hK1 ax gx cx xs (HKX.out.below hbel1.out) HWS.out.1 (by rw [HXL.out];exact hxl)
 rw [HXL.out]at hg
 have HGC:=Lib.hid hg
 have HK1:=Lib.hid hK1
 have HFO1:=Lib.hid (HFO.out.below hbel1.out)
 have HRX1:=Lib.hid (ownsRow_kept HRX.out (fun k hk=>hbel1.out.block k (World.ownsRow.lt HRX.out k hk).2))
 have HKX1:=Lib.hid (HKX.out.below hbel1.out)
 clear hb1 hbel1 hg hK1 HAP H HFO HRX HKX HB0 c1 hwA hwAs
 go_wp2_with fail
 refine HGC.out.mono ?_
 rintro e w2 ⟨b2,rfl,hb2,rfl⟩
 cases b2
 ·clear hb2
  go_wp2
  go_ret
  exact .inl ⟨rfl,HB1⟩
 have HG:=Lib.hid (hb2 rfl)
 have hbs1:=HB1.out.size
 clear hb2 HGC
 obtain⟨gs,hgs⟩:∃gs,grpsOf op F xs=gs:=⟨_,rfl⟩
 obtain⟨GL,hGL⟩:∃GL,gs.length=GL:=⟨_,rfl⟩
 have HGS:=Lib.hid (And.intro hgs hGL)
 have hGLb:GL≤200:=by
  rw [←hGL,←hgs]
  unfold grpsOf
  have :=HXL.out
  split
  ·simp
  ·split <;> simp <;> omega
 clear hgs hGL
 go_upto_if 45 with fail
 go_cut [9] from 45 to 97 (fun gv wx=>∃vals:Nat→Value,Hid (Below w1.heap.size w1 wx)∧Hid (GroupsG wx w1.heap.size gv gs kn GL vals)∧Hid (InnerOk op lab F wd xs))
 case first=>
  rcases HOP3.out with ⟨g10,HO⟩ | ⟨g10,hg2⟩
  ·have hgsv:gs=[xs]∧GL=1:=by
    have h1:=HGS.out.1
    unfold grpsOf at h1
    rw [if_pos HO.out]at h1
    exact⟨h1.symm,by rw [←HGS.out.2,←h1];rfl⟩
   have HGV:=Lib.hid hgsv
   clear hgsv
   go_wp2
   go_meet
   refine⟨fun _=>.slice ax XL cx,Lib.hid ((Below.refl _ _).alloc (Nat.le_refl _) _),Lib.hid ?_,Lib.hid (fun h=>by have :=HO.out;omega)⟩
   obtain⟨e1,e2⟩:=HGV.out
   rw [e1,e2]
   refine⟨⟨rfl,.inr ⟨w1.heap.size,1, #[.slice ax XL cx],rfl,Nat.le_refl _,heap_alloc_new w1 _,Nat.le_refl _,by unfold maxLen;omega,rfl,rfl⟩⟩,fun q hq=>⟨Bx,?_⟩⟩
   obtain rfl:q=0:=by omega
   have h2:=World.ownsRow.alloc HRX1.out (.cells #[.slice ax XL cx] 66)
   rw [HXL.out]at h2
   simpa [HXL.out]using h2
  ·have hgl:GL=XL:=by
    have h1:=HGS.out
    have h2:op≠10:=fun e=>by rw [e]at g10;exact absurd g10 (by decide)
    unfold grpsOf at h1
    rw [if_neg h2]at h1
    rw [←h1.2,←h1.1,←HXL.out]
    split <;> simp
   have hgd:∀k,k<XL→gs.getD k []=if op=11 then F.kids (xs.getD k 0)else [xs.getD k 0]:=fun k hk=>by
    have h1:=HGS.out.1
    have h2:op≠10:=fun e=>by rw [e]at g10;exact absurd g10 (by decide)
    have h3:k<xs.length:=by rw [HXL.out];exact hk
    unfold grpsOf at h1
    rw [if_neg h2]at h1
    rw [←h1]
    by_cases h11:op=11
    ·rw [if_pos h11,if_pos h11]
     simp [List.getD_eq_getElem?_getD,List.getElem?_map,List.getElem?_eq_getElem h3]
    ·rw [if_neg h11,if_neg h11]
     simp [List.getD_eq_getElem?_getD,List.getElem?_map,List.getElem?_eq_getElem h3]
   have HGL:=Lib.hid hgl
   have HGD:=Lib.hid hgd
   have HG2:=Lib.hid hg2
   have HSTART:=Lib.hid (show Below w1.heap.size w1 (w1.alloc (.cells #[.slice ax XL cx] 66)) from(Below.refl _ _).alloc (Nat.le_refl _) _)
   clear hgl hgd hg2
   rw [g10]
   go_wp2
   go_loopw [9,10] (fun gv iv wr=>∃(k:Nat) (vals:Nat→Value),k≤XL∧iv=.int .i64 (k:Int)∧Hid (Below w1.heap.size w1 wr)∧Hid (GroupsG wr w1.heap.size gv gs kn k vals)∧Hid (op=11→∀q,q<k→(lab (xs.getD q 0)).kind=3∧F.kids (xs.getD q 0)≠[]∧¬Anc F (xs.getD q 0) wd)) (fun _ iv _=>XL-(intOf iv).toNat)
   case atStart=>exact⟨0,fun _=>.slice none 0 0,by omega,by go_num,HSTART,Lib.hid ⟨World.ownsRow_nil _ _ _ _,fun q hq=>by omega⟩,Lib.hid (fun _ q hq=>by omega)⟩
   case round=>
    obtain⟨k,vals,hk,rfl,HBr,HGr,HIN⟩:=hrel
    obtain⟨ga,gc,rfl⟩:=ownsRow_slice HGr.out.row
    by_cases hlt:k<XL
    ·have hkI:(k:Int)<(XL:Int):=by omega
     have hkx:=HKX1.out.below HBr.out
     obtain rfl:=hkx.1 (by rw [HXL.out];omega)
     have ck:=hkx.2 k (by rw [HXL.out];exact hlt)
     have hxn:=HWS.out.1 _ (getD_mem' (d:=0) (show k<xs.length by rw [HXL.out];exact hlt))
     have hgdk:=HGD.out k hlt
     obtain⟨x,hx⟩:∃x,xs.getD k 0=x:=⟨_,rfl⟩
     rw [hx]at ck hxn hgdk
     have HX:=Lib.hid (And.intro hx hgdk)
     obtain⟨X1,hX1⟩:∃X1,wr.alloc (.cells #[.pointer (some ⟨kn x,0,none⟩)] 69)=X1:=⟨_,rfl⟩
     have hs1:X1.heap.size=wr.heap.size+1:=by rw [←hX1];simp
     have hbX:Below wr.heap.size wr X1:=by rw [←hX1];exact(Below.refl _ _).alloc (Nat.le_refl _) _
     have hbrs:=HBr.out.size
     have hone:X1.ownsRow w1.heap.size 69 1 (.slice (some ⟨wr.heap.size,0,none⟩) 1 1) 1 [ptrV (kn x)]:=by
      refine⟨rfl,.inr ⟨wr.heap.size,1, #[.pointer (some ⟨kn x,0,none⟩)],rfl,hbrs,?_,Nat.le_refl _,by unfold maxLen;omega,rfl,rfl⟩⟩
      rw [←hX1]
      exact heap_alloc_new wr _
     have hown2:=World.ownsRow.alloc (HGr.out.below hbX).row (.cells #[.slice (some ⟨wr.heap.size,0,none⟩) 1 1] 66)
     have hnews:∀j u,[Value.slice (some ⟨wr.heap.size,0,none⟩) 1 1][j]? =some u→(X1.alloc (.cells #[.slice (some ⟨wr.heap.size,0,none⟩) 1 1] 66)).cell? ((⟨wr.heap.size+1,0,none⟩:Addr).add j)=some u:=by
      rw [←hs1]
      exact World.news_of_block (cs:= #[.slice (some ⟨wr.heap.size,0,none⟩) 1 1]) (t:=66) (fr:=(0,0)) (heap_alloc_new X1 _)
     have HONE:=Lib.hid hone
     have HOA:=Lib.hid hown2
     have HNEWS:=Lib.hid hnews
     have HBX:=Lib.hid (And.intro hbX hX1)
     have HXN:=Lib.hid hxn
     clear hkx hx hgdk hone hown2 hnews hbX hxn
     rcases HG2.out with ⟨g11,HO⟩ | ⟨g11,HO⟩
     all_goals
      go_wp2_with (at_builtin;refine wpList_append_lies _ rfl _ _ 143 rfl w1.heap.size 66 j0 (.slice none 0 0) 1 24 Tryz.underlying143 hj hy0 hy1 hy2 rfl (by decide) (.slice ga k gc) k ((List.range k).map vals) rfl HOA.out ⟨wr.heap.size+1,0,none⟩ 1 1 [.slice (some ⟨wr.heap.size,0,none⟩) 1 1] rfl rfl HNEWS.out (by simp [Value.oneCell']) (by omega) (by unfold maxLen;omega) (by omega) (by simp;omega) _ rfl ?_)
      intro g6 cap6 w6 hown6 hgrow6 hat6 hlt6
      have hsz6:X1.heap.size+1≤w6.heap.size:=by have :=hgrow6.size;simpa using this
      have hfar:∀b,b<X1.heap.size→some b≠(Value.slice ga k gc).ownBlock→w6.heap[b]? =X1.heap[b]? :=fun b hb hne=>by
       rw [hgrow6.block b (by simp;omega) hne]
       exact Below.heap_alloc X1 _ b hb
      have hb16:Below w1.heap.size w1 w6:=((HBr.out.trans (HBX.out.1.mono hbrs)).trans ((Below.refl _ _).alloc (by omega) _)).grown hgrow6 (by simp;omega) (fun q hq=>(World.ownsRow.lt HGr.out.row q hq).1)
      have hgx:∀(B9:Nat) (v:Value) (N:Nat) (ys:List Value),X1.ownsRow B9 69 1 v N ys→w6.ownsRow B9 69 1 v N ys:=fun B9 v N ys ho=>
       ownsRow_kept ho (fun b hb=>hfar b (World.ownsRow.lt ho b hb).2 (fun e=>own_ne_own ho (HGr.out.below HBX.out.1).row (by decide) hb e.symm))
      have hrow6:∀sv,sv=Value.slice (some ⟨wr.heap.size,0,none⟩) 1 1→w6.ownsRow w1.heap.size 66 1 (.slice (some ⟨g6,0,none⟩) (k+1) cap6) (k+1) ((List.range (k+1)).map (updV vals k sv)):=fun sv hsv=>by
       rw [List.range_succ,List.map_append,List.map_cons,List.map_nil]
       have e:((List.range k).map (updV vals k sv))=(List.range k).map vals:=List.map_congr_left (fun q hq=>by unfold updV;rw [if_neg (by have :=List.mem_range.1 hq;omega)])
       rw [e,show updV vals k sv k=sv by unfold updV;rw [if_pos rfl],hsv]
       exact hown6
      have heach:∀q,q<k→∃Bq,w6.ownsRow Bq 69 1 (vals q) (gs.getD q []).length ((gs.getD q []).map fun y=>ptrV (kn y)):=fun q hq=>((HGr.out.below HBX.out.1).each q hq).imp fun _ hr=>hgx _ _ _ _ hr
      have HROW6:=Lib.hid hrow6
      have HEACH:=Lib.hid heach
      have HONE6:=Lib.hid (hgx _ _ _ _ HONE.out)
      have HB16:=Lib.hid hb16
      clear hrow6 heach hb16 hgx hfar hown6 hgrow6 hat6 hlt6 HONE HOA HNEWS ck
     ·go_wp2
      go_roundw
      case rel=>
       refine⟨k+1,updV vals k (.slice (some ⟨wr.heap.size,0,none⟩) 1 1),by omega,by go_num,HB16,Lib.hid ⟨HROW6.out _ rfl,fun q hq=>?_⟩,Lib.hid (fun h=>by have :=HO.out;omega)⟩
       unfold updV
       by_cases e:q=k
       ·subst e
        have e2:=HX.out.2
        rw [if_neg (by have :=HO.out;omega)]at e2
        rw [if_pos rfl,e2]
        exact⟨_,HONE6.out⟩
       ·rw [if_neg e]
        exact HEACH.out q (by omega)
      case measure=>simp [intOf];omega
     ·have hKw:=HK1.out.below HB16.out
      have ck6:=(HKX1.out.below HB16.out).2 k (by rw [HXL.out];exact hlt)
      rw [HX.out.1]at ck6
      have hxcap:XL≤cx:=by
       have :=HRX1.out
       rw [HXL.out]at this
       rcases this.2 with ⟨h1,_⟩ | ⟨g9,c9,cur,hv9,_,_,h9,_⟩
       ·simp at h1
       ·simp at hv9;omega
      have hsl1:=fun w=>(slice_one (g:=gx) (L:=XL) (cap:=cx) (i:=k) hlt hxcap ((k:Int)+1) (by simp) w).2
      have hsl2:=fun w=>(slice_one (g:=gx) (L:=XL) (cap:=cx) (i:=k) hlt hxcap ((k:Int)+1) (by simp) w).1
      have c7:=(hKw.cells HXN.out).2.2
      obtain⟨ka,kc,hkv⟩:=ownsRow_slice (hKw.row x HXN.out)
      rw [hkv]at c7
      obtain⟨KN,hKN⟩:∃KN,(F.kids x).length=KN:=⟨_,rfl⟩
      rw [hKN]at c7
      have hare:=areOne_any hKw gx k (cx-k) HXN.out ck6
      obtain⟨b3,hb3⟩:∃b3,decide ((lab x).kind=3)=b3:=⟨_,rfl⟩
      rw [hb3]at hare
      obtain⟨b4,hb4⟩:∃b4:Bool,b4=true↔Anc F x wd:=by
       classical
       exact⟨decide (Anc F x wd),by simp⟩
      have hhold:=holdsK_any hKw HF.out HXN.out HWS.out.2.2.1 b4 hb4
      have HARE:=Lib.hid hare
      have HHOLD:=Lib.hid hhold
      have HKV:=Lib.hid (And.intro hkv (And.intro hKN (And.intro hb3 hb4)))
      have HKW:=Lib.hid hKw
      have hfr:=own_free (HROW6.out _ rfl) k
      obtain⟨vck9,hck9⟩:∃u,w6.cell? ⟨g6,k,none⟩=some u:=⟨_,own_cell (HROW6.out _ rfl) (i:=k) (by rw [(HROW6.out _ rfl).1];omega)⟩
      have hKNb:KN≤1000000:=by rw [←hKN];have :=HF.out.few x;omega
      clear hKw hkv hKN hb3 hb4 hare hhold hxcap
      go_wp2_with fail
      refine HARE.out.mono ?_
      rintro e w7 ⟨rfl,rfl⟩
      cases b3
      ·go_wp2
       go_ret
       exact .inl ⟨rfl,Lib.hid (HB1.out.trans (HB16.out.mono (Nat.le_trans hBw hbs1)))⟩
      by_cases hk0:KN=0
      ·have gk0:((KN:Int)==0)=true:=by simp [hk0]
       clear hk0
       go_wp2
       go_ret
       exact .inl ⟨rfl,Lib.hid (HB1.out.trans (HB16.out.mono (Nat.le_trans hBw hbs1)))⟩
      have gk0:((KN:Int)==0)=false:=by simp [hk0]
      have HKP:=Lib.hid (Nat.pos_of_ne_zero hk0)
      clear hk0
      go_wp2_with fail
      refine HHOLD.out.mono ?_
      rintro e w8 ⟨rfl,hw8⟩
      subst hw8
      cases b4
      rotate_left
      ·go_wp2
       go_ret
       exact .inl ⟨rfl,Lib.hid (HB1.out.trans (HB16.out.mono (Nat.le_trans hBw hbs1)))⟩
      have hset:=ownsRow_set (HROW6.out _ rfl) (i:=k) (by omega) (.slice ka KN kc)
      have HSET:=Lib.hid hset
      clear hset
      go_wp2
      go_roundw
      case rel=>
       refine⟨k+1,updV vals k (.slice ka KN kc),by omega,by go_num,Lib.hid (Below.setCell HB16.out (World.ownsRow.lt (HROW6.out _ rfl) g6 rfl).1 _),Lib.hid ⟨?_,fun q hq=>?_⟩,Lib.hid (fun h q hq=>?_)⟩
       ·have h1:=HSET.out
        have e:((List.range (k+1)).map (updV vals k (.slice (some ⟨wr.heap.size,0,none⟩) 1 1))).set k (.slice ka KN kc)=(List.range (k+1)).map (updV vals k (.slice ka KN kc)):=by
         rw [set_range]
         refine List.map_congr_left (fun q hq=>?_)
         unfold updV
         by_cases e:q=k
         ·rw [if_pos e,if_pos e]
         ·rw [if_neg e,if_neg e,if_neg e]
        rwa [e]at h1
       ·have hkeep:∀{B9:Nat} {v:Value} {N:Nat} {ys:List Value},w8.ownsRow B9 69 1 v N ys→(w8.setCell ⟨g6,k,none⟩ (.slice ka KN kc)).ownsRow B9 69 1 v N ys:=fun ho=>
         ownsRow_kept ho (fun b hb=>by
          have hne:b≠g6:=fun e=>own_ne_own ho (HROW6.out _ rfl) (by decide) hb (by rw [e];rfl)
          exact Below.heap_setCell _ _ _ _ hne)
        unfold updV
        by_cases e:q=k
        ·subst e
         have e2:=HX.out.2
         rw [if_pos HO.out]at e2
         rw [if_pos rfl,e2]
         have h1:=HKW.out.row x HXN.out
         rw [HKV.out.1,HKV.out.2.1]at h1
         refine⟨B,?_⟩
         rw [HKV.out.2.1]
         exact hkeep h1
        ·rw [if_neg e]
         exact(HEACH.out q (by omega)).imp fun _ hr=>hkeep hr
       ·by_cases e:q=k
        ·subst e
         rw [HX.out.1]
         exact⟨of_decide_eq_true HKV.out.2.2.1,fun e=>by have :=HKP.out;rw [←HKV.out.2.1,e]at this;simp at this,fun ha=>by have :=HKV.out.2.2.2.2 ha;cases this⟩
        ·exact HIN.out h q (by omega)
      case measure=>simp [intOf];omega
    ·obtain rfl:XL=k:=by omega
     go_wp2
     go_meet
     refine⟨vals,HBr,Lib.hid ?_,Lib.hid (fun h x hx=>?_)⟩
     ·rw [HGL.out];exact HGr.out
     ·obtain⟨i,hi,rfl⟩:=List.getElem_of_mem hx
      have :=HIN.out h i (by rw [←HXL.out];exact hi)
      rwa [List.getD_eq_getElem?_getD,List.getElem?_eq_getElem hi]at this
 case rest=>
  obtain⟨vals,HBc,HGc,HIN⟩:=hcut
  obtain⟨gva,gvc,rfl⟩:=ownsRow_slice HGc.out.row
  have hF:=HF.out
  obtain⟨L,hL⟩:=hF.flat wd
  have hcp:=cpOk_of hF hL (lone_one F wd) (fun z hz=>by simp at hz;subst hz;exact HWS.out.2.2.1)
  have hanx:∀x∈xs,¬Anc F wd x:=fun x hx=>by
   obtain⟨i,hi,rfl⟩:=List.getElem_of_mem hx
   have :=HAW.out.on 0 i (by simp) hi
   simpa [List.getD,hi]using this
  have hstx:∀x∈xs,∃p,F.up x=some p:=fun x hx=>by
   obtain⟨i,hi,rfl⟩:=List.getElem_of_mem hx
   have :=HG.out i (by rw [←HXL.out];exact hi)
   simpa [List.getD,hi]using this
  have hside:=grps_side (op:=op) hF hL HWS.out.2.2.1 HWS.out.2.1 HWS.out.1 hanx hstx HIN.out
  have hne:=grps_ne (fun e=>by have :=HXL.out;rw [e]at this;simp at this;omega) HIN.out
  have HSIDE0:=Lib.hid hside
  rw [HGS.out.1]at hside hne
  have hsub:∀x∈L,∀y∈F.kids x,y∈L:=fun x hx y hy=>(hcp.sub x hx y hy).1
  have hzL:=HZ0.out.mem hsub (hcp.ws wd (by simp)) z0 rfl
  have hst:WgOut n kn pl lab F wd gs L 0 n kn pl lab F:=⟨fun _ _=>⟨rfl,rfl⟩,fun q h1 h2=>by omega,⟨hF,Nat.le_refl _,fun _ _ _=>rfl,fun _ _=>rfl,fun _ _=>rfl⟩,by rw [List.drop_zero];exact hside,fun n2 lab2 G2 hh=>by rwa [List.drop_zero]at hh⟩
  have HST:=Lib.hid hst
  have HKs:=Lib.hid (HK1.out.below HBc.out)
  have HFs:=Lib.hid (HFO1.out.below HBc.out)
  have HLL:=Lib.hid (And.intro hL (And.intro hcp (And.intro hside (And.intro hsub hzL))))
  have HNE:=Lib.hid hne
  have HBs:=Lib.hid (HB1.out.trans (HBc.out.mono (Nat.le_trans hBw hbs1)))
  clear hF hL hcp hanx hstx hside hne hsub hzL hst HAW HG HKX1 HRX1 HFO1 HK1
  go_wp2
  go_loopw [11] (fun iv wq=>∃(i m:Nat) (kn':Nat→Nat) (kv' av':Nat→Value) (pl':Nat→Int) (lab':Nat→NodeD) (G:Wd),i≤GL∧iv=.int .i64 (i:Int)∧Hid (m≤600)∧Hid (ForestK B wq f vf len kn (m:Int) (decide (600<m)))∧Hid (Below B w wq)∧Hid (Knots B wq m kn' kv' av' pl' lab' G)∧Hid (WgOut n kn pl lab F wd gs L i m kn' pl' lab' G)∧Hid (GroupsG wq w1.heap.size (.slice gva GL gvc) gs kn GL vals)∧Hid (w1.heap.size≤wq.heap.size)) (fun iv _=>GL-(intOf iv).toNat)
  case atStart=>exact⟨0,n,kn,_,av,pl,lab,F,by omega,by go_num,Lib.hid hn,HFs,HBs,HKs,HST,HGc,Lib.hid HBc.out.size⟩
  case round=>
   clear HST HFs HBs HKs HGc
   obtain⟨i,m,kn',kv',av',pl',lab',G,hik,rfl,HM6,HFm,HBm,HKm,HOm,HGm,HSm⟩:=hrel
   by_cases hlt:i<GL
   ·have hltx:i<gs.length:=by rw [HGS.out.2];exact hlt
    have hiI:(i:Int)<(GL:Int):=by omega
    have hdc:=drop_consG hltx
    have hgm:gs.getD i []∈gs:=by rw [List.getD_eq_getElem?_getD,List.getElem?_eq_getElem hltx];exact List.getElem_mem _
    have heach:=HGm.out.each i hlt
    obtain⟨g,hg_⟩:∃g,gs.getD i []=g:=⟨_,rfl⟩
    rw [hg_]at hdc hgm heach
    obtain⟨x,r,rfl⟩:∃x r,g=x::r:=by
     cases g with
     | nil=>exact absurd rfl (HNE.out _ hgm)
     | cons x r=>exact⟨x,r,rfl⟩
    have hmid:=HOm.out.mid
    have hside:=HOm.out.side
    rw [hdc]at hmid hside
    have hyin:∀y∈x::r,y<n∧y∉L∧∃p,F.up y=some p∧p∉L:=fun y hy=>hside.yin y (by rw [List.flatten_cons];exact List.mem_append_left _ hy)
    have hupF:∀y∈x::r,G.up y=F.up y:=fun y hy=>hmid.up y (hyin y hy).1 (.inl (by rw [List.flatten_cons];exact List.mem_append_left _ hy))
    have hgnd:(x::r).Nodup:=by
     have h1:=hside.nd
     rw [List.flatten_cons,List.nodup_append]at h1
     exact h1.1
    obtain⟨hxn,hxL,p,hup,hpL⟩:=hyin x (by simp)
    have hupG:G.up x=some p:=by rw [hupF x (by simp)];exact hup
    obtain⟨A,Bk,hkp⟩:=List.append_of_mem ((hmid.ok.iff p x).2 hupG)
    have hpn:=(HF.out.lt p x ((HF.out.iff p x).2 hup)).1
    have hnm:=hmid.le
    have hwn:=HWS.out.2.2.1
    have hin2:Inm lab' G wd (some z0):=HZ0.out.congr HLL.out.2.2.2.1 hmid.tree (fun y hy=>hmid.lab y (HLL.out.2.1.lt y hy)) (HLL.out.2.1.ws wd (by simp))
    have hLn:L.length≤n:=nodup_len n L HLL.out.2.1.nd HLL.out.2.1.lt
    have hNn:(x::r).length≤n:=nodup_len n _ hgnd (fun y hy=>(hyin y hy).1)
    obtain⟨N,hN⟩:∃N,(x::r).length=N:=⟨_,rfl⟩
    have hN0:0<N:=by rw [←hN];simp
    have hN6:N≤600:=by omega
    have hcall:=fun(w':World) (hb:Below wr.heap.size wr w')=>copied_any L.length B w' f len vf kn m kn' kv' av' pl' lab' G wd L (HKm.out.below hb) hmid.ok (HFm.out.below hb) (by omega) (HLL.out.1.congr hmid.tree) (Nat.le_refl _) (fun y hy=>by
     have h1:=HLL.out.2.1.lt y hy
     rw [hmid.lab y h1]
     exact HWS.out.2.2.2.1 y h1) (by have :=HM6.out;omega)
    rw [(HOm.out.old wd hwn).1]at hcall
    obtain⟨gg,hcg2,hcg0⟩:=row_at HGm.out.row (by omega)
    have hcg1:=hcg0 i (vals i) (by simp [hlt])
    obtain⟨Bq,hbq⟩:=heach
    rw [hN]at hbq
    obtain⟨qa,qc,hqv⟩:=ownsRow_slice hbq
    rw [hqv]at hbq hcg1
    obtain⟨gq,rfl,hcq⟩:=row_at hbq hN0
    have hgrow:∀(j:Nat),j<N→wr.cell? ⟨gq,j,none⟩=some (.pointer (some ⟨kn ((x::r).getD j 0),0,none⟩)):=fun j hj=>hcq j _ (by
     rw [List.getElem?_map,List.getElem?_eq_getElem (by omega),List.getD_eq_getElem?_getD,List.getElem?_eq_getElem (by omega)]
     rfl)
    have hrowx:Row (wr.alloc (.cells #[] 69)) (some ⟨gq,0,none⟩) N ((x::r).map fun y=>ptrV (kn y)):=⟨by rw [List.length_map];exact hN,by unfold maxLen;omega,fun _=>⟨gq,0,rfl,fun j hj=>by
     rw [Nat.zero_add]
     have h1:=cell_alloc_old (hgrow j hj) (.cells #[] 69)
     have hj2:j<(x::r).length:=by omega
     have e5:((x::r).map fun y=>ptrV (kn y)).getD j undef=.pointer (some ⟨kn ((x::r).getD j 0),0,none⟩):=by
      simp only [List.getD_eq_getElem?_getD,List.getElem?_map,List.getElem?_eq_getElem hj2,Option.map_some,Option.getD_some]
      rfl
     rw [h1,e5]⟩⟩
    have HROWX:=Lib.hid hrowx
    have HCALL:=Lib.hid hcall
    have HMID:=Lib.hid (And.intro hmid (And.intro hside hdc))
    have HPX:=Lib.hid (And.intro hupG (And.intro hkp (And.intro hxL (And.intro hpL hin2))))
    have HNN:=Lib.hid (And.intro hxn (And.intro hpn (And.intro hnm (And.intro hwn hLn))))
    have HY:=Lib.hid (And.intro hyin (And.intro hupF (And.intro hgnd hN)))
    have hcg1':=cell_alloc_old hcg1 (.cells #[] 69)
    clear hmid hside hdc hgm hg_ hyin hupF hgnd hup hupG hkp hxL hpL hin2 hcall hcg0 hrowx hxn hpn hnm hwn hLn hltx hN hNn hbq hqv hcq hgrow
    subst hcg2
    have hBwr:B≤wr.heap.size:=Nat.le_trans HFm.out.base (Nat.le_of_lt HFm.out.obj.lt)
    go_wp2_with (at_builtin;refine wpList_append_reads rfl _ _ 66 rfl wr.heap.size 69 i0 (.pointer none) 8 Tryz.underlying66 hi hz0 hz1 hz2 rfl (some ⟨wr.heap.size,0,none⟩) 0 0 [] rfl (owns_empty wr wr.heap.size (Nat.le_refl _) _) (some ⟨gq,0,none⟩) N qc ((x::r).map fun y=>ptrV (kn y)) rfl HROWX.out ptrK_one (by unfold maxLen;omega) (by omega) (by simp) ?_)
    intro b2 c2 w3 hown3 hgrow3
    (try rw [Nat.zero_add,List.nil_append]at hown3)
    have hb3:Below wr.heap.size wr w3:=((Below.refl _ _).alloc (Nat.le_refl _) _).grown hgrow3 (by simp) (fun q hq=>by simp [Value.ownBlock]at hq;omega)
    obtain⟨gl,rfl⟩:∃gl,b2=some ⟨gl,0,none⟩:=by
     rcases hown3.2 with ⟨_,h2⟩ | ⟨g0,c0_,cur,hv_,_⟩
     ·omega
     ·simp at hv_;exact⟨g0,hv_.1⟩
    have HL3:=Lib.hid (show w3.ownsRow wr.heap.size 69 1 (.slice (some ⟨gl,0,none⟩) N c2) N ((x::r).map fun y=>ptrV (kn y)) by simpa using hown3)
    have HB3:=Lib.hid hb3
    have HCL3:=Lib.hid (show ∀w9,Below w3.heap.size w3 w9→∀j,j<N→w9.cell? ⟨gl,j,none⟩=some (.pointer (some ⟨kn ((x::r).getD j 0),0,none⟩)) from fun w9 hb9 j hj=>by
     obtain⟨g9,e9,h9⟩:=row_at HL3.out hN0
     simp only [Option.some.injEq,Addr.mk.injEq]at e9
     rw [e9.1]
     refine cell_below hb9 (h9 j _ ?_)
     have h5:=HY.out.2.2.2
     rw [List.getElem?_map,List.getElem?_eq_getElem (by omega),List.getD_eq_getElem?_getD,List.getElem?_eq_getElem (by omega)]
     rfl)
    have hgN:∀j,j<N→(x::r).getD j 0∈x::r:=fun j hj=>getD_mem' (by rw [HY.out.2.2.2];exact hj)
    have HH:=Lib.hid (show ∀(w9:World),Below w3.heap.size w3 w9→∀j q,j<N→q<N→∀d,∃b:Bool,(b=true↔Anc G ((x::r).getD j 0) ((x::r).getD q 0))∧Calls Tryz.prog 110 #[.pointer (some ⟨kn ((x::r).getD j 0),0,none⟩),.pointer (some ⟨kn ((x::r).getD q 0),0,none⟩)] (w9.drewN d) (fun e w'=>e=.returned (.bool b)∧w'=w9.drewN d) from fun w9 hb9 j q hj hq d=>by
     classical
     have hjn:=(HY.out.1 _ (hgN j hj)).1
     have hqn:=(HY.out.1 _ (hgN q hq)).1
     have hm:=HNN.out.2.2.1
     refine⟨decide (Anc G ((x::r).getD j 0) ((x::r).getD q 0)),by simp,?_⟩
     have h1:=holdsK_any (((HKm.out.below HB3.out).below hb9).drewN d) HMID.out.1.ok (k:=(x::r).getD j 0) (x:=(x::r).getD q 0) (by omega) (by omega) (decide (Anc G ((x::r).getD j 0) ((x::r).getD q 0))) (by simp)
     rw [(HOm.out.old _ hjn).1,(HOm.out.old _ hqn).1]at h1
     exact h1.mono fun _ _ hh=>⟨hh.1,hh.2⟩)
    clear hown3 hgrow3 hb3 hcg1 hcg1' HROWX hgN
    obtain⟨wo,hwo⟩:∃wo,wo=wr:=⟨_,rfl⟩
    subst hwo
    go_wp2
    go_loopw [13] (fun av wq=>∃q:Nat,q≤N∧av=.int .i64 (q:Int)∧Hid (Below w3.heap.size w3 wq)∧Hid (∀a,a<q→∀b,b<N→b≠a→¬Anc G ((x::r).getD a 0) ((x::r).getD b 0))) (fun av _=>N-(intOf av).toNat)
    case atStart=>exact⟨0,by omega,by go_num,Lib.hid (Below.refl _ _),Lib.hid (fun a ha=>by omega)⟩
    case round=>
     obtain⟨q,hq,rfl,HBq,HAq⟩:=hrel
     by_cases hqN:q<N
     ·have hqI:(q:Int)<(N:Int):=by omega
      go_wp2
      go_loopw [14] (fun av wq=>∃b:Nat,b≤N∧av=.int .i64 (b:Int)∧Hid (Below w3.heap.size w3 wq)∧Hid (∀b',b'<b→b'≠q→¬Anc G ((x::r).getD q 0) ((x::r).getD b' 0))) (fun av _=>N-(intOf av).toNat)
      case atStart=>exact⟨0,by omega,by go_num,HBq,Lib.hid (fun b hb=>by omega)⟩
      case round=>
       obtain⟨b,hb,rfl,HBb,HAb⟩:=hrel
       by_cases hbN:b<N
       ·have hbI:(b:Int)<(N:Int):=by omega
        have ca:=HCL3.out _ HBb.out q hqN
        have cb:=HCL3.out _ HBb.out b hbN
        obtain⟨pa,hpa⟩:∃pa,kn ((x::r).getD q 0)=pa:=⟨_,rfl⟩
        obtain⟨pb,hpb⟩:∃pb,kn ((x::r).getD b 0)=pb:=⟨_,rfl⟩
        rw [hpa]at ca
        rw [hpb]at cb
        by_cases e:b=q
        ·have ge:((q:Int) !=(b:Int))=false:=by simp [e]
         have HE:=Lib.hid e
         clear e hpa hpb
         go_wp2
         go_quiet (fail)
         go_wp2
         refine⟨?rel,?measure⟩
         case rel=>exact⟨b+1,by omega,by go_num,Lib.hid (below_drewN HBb.out _),Lib.hid (fun b' hb' hne=>HAb.out b' (by have :=HE.out;omega) hne)⟩
         case measure=>simp [intOf];omega
        ·have ge:((q:Int) !=(b:Int))=true:=by simp;omega
         have hex:=HH.out wr HBb.out q b hqN hbN
         rw [hpa,hpb]at hex
         have hbe:∃bb:Bool,(bb=true↔Anc G ((x::r).getD q 0) ((x::r).getD b 0))∧∀d,Calls Tryz.prog 110 #[.pointer (some ⟨pa,0,none⟩),.pointer (some ⟨pb,0,none⟩)] (wr.drewN d) (fun e w'=>e=.returned (.bool bb)∧w'=wr.drewN d):=by
          obtain⟨bb,h1,h2⟩:=hex 0
          refine⟨bb,h1,fun d=>?_⟩
          obtain⟨b9,h3,h4⟩:=hex d
          have e9:b9=bb:=by
           cases b9 <;> cases bb <;> simp_all
          rw [e9]at h4
          exact h4
         obtain⟨bb,hbb,hcc⟩:=hbe
         have HC:=Lib.hid hcc
         have HBB:=Lib.hid hbb
         clear hex hcc hbb e hpa hpb
         cases bb
         ·go_wp2
          go_quiet (exact Calls.quiet_of_same (HC.out _))
          go_wp2
          refine⟨?rel,?measure⟩
          case rel=>
           refine⟨b+1,by omega,by go_num,Lib.hid (below_drewN HBb.out _),Lib.hid (fun b' hb' hne=>?_)⟩
           by_cases e2:b'=b
           ·subst e2
            exact fun ha=>by have :=HBB.out.2 ha;cases this
           ·exact HAb.out b' (by omega) hne
          case measure=>simp [intOf];omega
         ·go_wp2
          go_quiet (exact Calls.quiet_of_same (HC.out _))
          go_wp2
          go_ret
          exact .inl ⟨rfl,Lib.hid (HBm.out.trans ((HB3.out.trans ((below_drewN HBb.out _).mono HB3.out.size)).mono hBwr))⟩
       ·obtain rfl:N=b:=by omega
        go_wp2
        refine⟨?rel,?measure⟩
        case rel=>
         refine⟨q+1,by omega,by go_num,HBb,Lib.hid (fun a ha b' hb' hne=>?_)⟩
         by_cases e2:a=q
         ·subst e2
          exact HAb.out b' hb' hne
         ·exact HAq.out a (by omega) b' hb' hne
        case measure=>simp [intOf];omega
     ·obtain rfl:N=q:=by omega
      have hap:∀a∈x::r,∀b∈x::r,a≠b→¬Anc G a b:=fun a ha b hb hne=>by
       obtain⟨ia,hia,rfl⟩:=List.getElem_of_mem ha
       obtain⟨ib,hib,rfl⟩:=List.getElem_of_mem hb
       have h5:=HY.out.2.2.2
       have h6:=HAq.out ia (by omega) ib (by omega) (fun e=>hne (by subst e;rfl))
       rwa [List.getD_eq_getElem?_getD,List.getElem?_eq_getElem hia,List.getD_eq_getElem?_getD,List.getElem?_eq_getElem hib]at h6
      have HAP2:=Lib.hid hap
      have hb3:=HB3.out
      obtain⟨w4,hw4⟩:∃w4,w4=wr:=⟨_,rfl⟩
      subst hw4
      have hb34:Below wo.heap.size wo w4:=hb3.trans (HBq.out.mono hb3.size)
      have hcal4:=HCALL.out w4 hb34
      have HK4:=Lib.hid (HKm.out.below hb34)
      have HF4:=Lib.hid (HFm.out.below hb34)
      have HG4:=Lib.hid (HGm.out.below hb34)
      have HB4:=Lib.hid (HBm.out.trans (hb34.mono hBwr))
      have HL4:=Lib.hid (ownsRow_kept HL3.out (fun b hb=>HBq.out.block b (World.ownsRow.lt HL3.out b hb).2))
      have HS4:=Lib.hid (Nat.le_trans HSm.out hb34.size)
      have HCL:=Lib.hid hcal4
      clear hap hb3 hb34 hcal4 HCALL HKm HFm HGm HBm HL3 HB3 HBq HAq HCL3 HH hBwr
      go_wp2_with fail
      refine HCL.out.mono ?_
      rintro e w5 ⟨m2,kn2,kv2,av2,pl2,lab2,G2,rfl,HC2,HK2,HF2,HKF2⟩
      have hfo:=HF4.out.obj
      have hgx5:=GroupsG.keptF hfo HG4.out HKF2.out
      have hl5:=ownG_keptF hfo (by decide) HL4.out HKF2.out
      have hbw4:B≤w4.heap.size:=Nat.le_trans HF4.out.base (Nat.le_of_lt hfo.lt)
      have hb5:=HB4.out.trans (HKF2.out.below B hbw4 HF4.out.base)
      obtain⟨g9,e9,h9⟩:=row_at hl5 hN0
      simp only [Option.some.injEq,Addr.mk.injEq]at e9
      have hcl:w5.cell? ⟨gl,0,none⟩=some (.pointer (some ⟨kn x,0,none⟩)):=by rw [e9.1];exact h9 0 _ rfl
      obtain⟨hxn,hpn,hnm,hwn,hLn⟩:=HNN.out
      obtain⟨hupG,hkp,hxL,hpL,hin2⟩:=HPX.out
      have hm2:=HC2.out.lo
      have hmid:=HMID.out.1
      have hkx2:kn2 x=kn x:=by rw [(HC2.out.old x (by omega)).1];exact(HOm.out.old x hxn).1
      have hkp2:G2.kids p=A++x::Bk:=by rw [(HC2.out.oldF p (by omega)).1];exact hkp
      have hup2:G2.up x=some p:=by rw [(HC2.out.oldF x (by omega)).2];exact hupG
      have c6x:=(HK2.out.cells (show x<m2 by omega)).2.1
      rw [hkx2,hup2,Option.map_some,lk_some]at c6x
      have hpl:∀w',Below w5.heap.size w5 w'→Calls Tryz.prog 107 #[.pointer (some ⟨kn x,0,none⟩)] w' (KIntPost (A.length:Int) w'):=fun w' hb=>by
       have :=place_some (HK2.out.below hb) HC2.out.ok hkp2
       rwa [hkx2]at this
      have hlen2:(G2.kids p).length≤1000000:=Nat.le_trans (HC2.out.ok.few p) (by have :=HC2.out.hi;have :=HM6.out;omega)
      have hpt:∀w',Below w5.heap.size w5 w'→Calls Tryz.prog 108 #[.pointer (some ⟨kn2 p,0,none⟩),.int .i64 (A.length:Int),.pointer (some ⟨kn2 m,0,none⟩)] w' (TurnKPost B m2 kn2 av2 pl2 lab2 (G2.put p A.length m) w'):=fun w' hb=>
       putK_any (HK2.out.below hb) (show p<m2 by omega) hm2 (by omega) HC2.out.root A (x::Bk) hkp2 hlen2
      have HPL:=Lib.hid hpl
      have HPT:=Lib.hid hpt
      have H5:=Lib.hid (And.intro hgx5 (And.intro hl5 hb5))
      clear hpl hpt hgx5 hl5 hb5 hfo e9 h9 hlen2 hup2 hkp2 hkx2 HCL hxn hpn hnm hwn hLn hupG hkp hxL hpL hin2 hmid HL4 HG4 HB4 HK4 HF4
      go_wp2
      go_region_with (first
       | (go_at_call 107;refine(HPL.out _ (by first | exact Below.refl _ _ | exact(Below.refl _ _).drew)).mono ?_;rintro e w' ⟨rfl,rfl⟩)
       | (go_at_call 108;refine(HPT.out _ (by first | exact Below.refl _ _ | exact(Below.refl _ _).drew)).mono ?_;rintro e w' ⟨kv6,rfl,hk6,ho6⟩))
      all_goals
       have ho5:OnlyK m2 kn2 w5 w':=(OnlyK.of_below (by first | exact Below.refl _ _ | exact(Below.refl _ _).drew)).trans ho6.out
       have hBw5:B≤w5.heap.size:=Nat.le_trans hbw4 HKF2.out.size
       have hf6:=HF2.out.turn HK2.out ho5
       have hg6:=H5.out.1.onlyK HK2.out ho5
       have hl6:=ownG_onlyK HK2.out (by decide) H5.out.2.1 ho5
       have hb6:=H5.out.2.2.trans (ho5.below B hBw5 HK2.out.base)
       have hs6:w1.heap.size≤w'.heap.size:=Nat.le_trans (Nat.le_trans HS4.out HKF2.out.size) ho5.size
       have hold:∀i,i<m→∀q,G2.up i=some q→q<m:=fun i hi q hq=>by
        rw [(HC2.out.oldF i hi).2]at hq
        exact(HMID.out.1.ok.lt q i ((HMID.out.1.ok.iff q i).2 hq)).1
       have hwok:=put_new HC2.out.ok hm2 hold HC2.out.root (p:=p) (by have :=HNN.out.2.1;have :=HNN.out.2.2.1;omega) A.length
       have hm2b:m2≤900000:=by have :=HC2.out.hi;have :=HM6.out;have :=HNN.out.2.2.2.2;omega
       have him:=inmost_any hk6.out hwok hm2b hm2
       have o2:=hf6.obj.cell (i:=2) (v:=.bool (decide (600<m2))) rfl
       have HIM:=Lib.hid him
       have H6:=Lib.hid (And.intro hf6 (And.intro hg6 (And.intro hb6 (And.intro hs6 (And.intro hwok (And.intro hm2b hl6))))))
       clear hcl c6x ho5 hf6 hg6 hl6 hb6 hs6 hold hwok him HPL HPT H5 ho6 hm2b
       go_wp2_with fail
       refine HIM.out.mono ?_
       rintro e w7 ⟨o,ho,rfl,rfl⟩
       cases hop:decide (600<m2)
       rotate_left
       ·rw [hop]at o2
        have hf9:=H6.out.1
        rw [hop]at hf9
        have HF9:=Lib.hid hf9
        have HB9:=Lib.hid H6.out.2.2.1
        clear hop hf9
        cases o
        ·simp only [Option.map_none,lk_none]
         go_wp2
         go_ret
         exact .inr (.inr ⟨rfl,_,HF9,HB9⟩)
        ·simp only [Option.map_some,lk_some]
         go_wp2
         go_ret
         exact .inr (.inr ⟨rfl,_,HF9,HB9⟩)
       rw [hop]at o2
       have h26:m2≤600:=by simpa using hop
       obtain⟨e1,e2,e3⟩:=HC2.out.exact h26
       have hlabs:∀i,i<m→lab2 i=lab' i:=fun i hi=>(HC2.out.old i hi).2.2.2.2
       obtain⟨hwo_,hmid2,hside2⟩:=HMID.out.1.step HMID.out.2.1 HPX.out.1 HPX.out.2.1 HLL.out.2.2.2.2 HAP2.out hlabs
       have hcpG:=HMID.out.1.cp HLL.out.2.1
       have hwL:=HLL.out.2.1.ws wd (by simp)
       have hix0:ix L wd=0:=by
        have :=HLL.out.1.head
        cases hLc:L with
        | nil=>rw [hLc]at this;cases this
        | cons a r=>rw [hLc]at this;simp at this;simp [ix,this]
       have hpm:p<m:=by have :=HNN.out.2.1;have :=HNN.out.2.2.1;omega
       have hinm:Inm lab2 (G2.put p A.length m) m (some (m+ix L z0)):=by
        have h1:=HPX.out.2.2.2.2.copy hcpG e3 hwL
        rw [hix0,Nat.add_zero,←e2]at h1
        refine h1.congr (L:=L.map fun y=>m+ix L y) (fun a ha b hb=>?_) (fun a ha=>?_) (fun _ _=>rfl) (List.mem_map.2 ⟨wd,hwL,by rw [hix0];rfl⟩)
        ·obtain⟨y,hy,rfl⟩:=List.mem_map.1 ha
         rw [e2,(cp_new hy).1]at hb
         obtain⟨c,hc,rfl⟩:=List.mem_map.1 hb
         exact List.mem_map.2 ⟨c,(hcpG.sub y hy c hc).1,rfl⟩
        ·obtain⟨y,hy,rfl⟩:=List.mem_map.1 ha
         simp only [Wd.put]
         rw [if_neg (by omega)]
       obtain rfl:=hinm.det ho
       simp only [Option.map_some,lk_some]
       obtain⟨tq,hto⟩:∃tq,m+ix L z0=tq:=⟨_,rfl⟩
       rw [hto]
       obtain⟨A0,hA0⟩:∃A0,((G.kids z0).map fun y=>m+ix L y)=A0:=⟨_,rfl⟩
       have HWG:=Lib.hid (And.intro hwo_ (And.intro e1 (And.intro e2 (And.intro hto hA0))))
       have hwstart:G2.put p A.length m=mv (hull G m L wd p A) tq A0 [] []:=by
        rw [←hto,←hA0,mv_nil hwo_.kz]
        unfold hull
        rw [←e2]
       rw [hwstart]at hk6
       have hout:WgOut n kn pl lab F wd gs L (i+1) m2 kn2 pl2 lab2 (mv (hull G m L wd p A) tq A0 [] (x::r)):=by
        have hfin:wrapG G m L wd p A z0 (x::r)=mv (hull G m L wd p A) tq A0 [] (x::r):=by rw [←hto,←hA0];rfl
        rw [hfin]at hmid2
        refine⟨fun q hq=>?_,fun q h1 h2=>?_,by rw [e1];exact hmid2,hside2,fun n2 lab9 G9 hM=>?_⟩
        ·have hqm:q<m:=by have :=HNN.out.2.2.1;omega
         obtain⟨a1,a2,a3,a4,a5⟩:=HC2.out.old q hqm
         obtain⟨b1,b2⟩:=HOm.out.old q hq
         exact⟨a1.trans b1,a4.trans b2⟩
        ·by_cases e:q<m
         ·rw [(HC2.out.old q e).2.2.2.1];exact HOm.out.new q h1 e
         ·exact(HC2.out.new q (by omega) h2).2.1
        ·refine HOm.out.exact n2 lab9 G9 ?_
         rw [HMID.out.2.2]
         rw [e1,←hfin]at hM
         exact .cons HPX.out.1 HPX.out.2.1 HPX.out.2.2.2.2 HAP2.out hlabs e3 hM
       have HOUT:=Lib.hid (And.intro hout h26)
       have HK6:=Lib.hid hk6.out
       have HO9:=Lib.hid (show OnlyK m2 kn2 w' w' from OnlyK.refl _ _ _)
       have hkn2:∀y∈x::r,kn2 y=kn y∧y<m:=fun y hy=>by
        have h1:=(HY.out.1 y hy).1
        have h2:=HNN.out.2.2.1
        exact⟨by rw [(HC2.out.old y (by omega)).1];exact(HOm.out.old y h1).1,by omega⟩
       have HKN2:=Lib.hid hkn2
       have HBM:=Lib.hid (show B≤w'.heap.size from Nat.le_trans (Nat.le_trans hBw hbs1) H6.out.2.2.2.1)
       clear hop h26 e1 e2 e3 hlabs hwo_ hmid2 hside2 hcpG hwL hix0 hpm hinm ho hto hA0 hwstart hout hkn2 hk6 HIM
       go_wp2
       clear o2
       go_loopw [18] (fun qv wq=>∃(q:Nat) (kv9:Nat→Value),q≤N∧qv=.int .i64 (q:Int)∧Hid (Knots B wq m2 kn2 kv9 av2 pl2 lab2 (mv (hull G m L wd p A) tq A0 [] ((x::r).take q)))∧Hid (OnlyK m2 kn2 w' wq)) (fun qv _=>N-(intOf qv).toNat)
       case atStart=>exact⟨0,kv6,by omega,by go_num,HK6,HO9⟩
       case round=>
        obtain⟨q,kv9,hq,rfl,HKq,HOq⟩:=hrel
        by_cases hqN:q<N
        ·have hqI:(q:Int)<(N:Int):=by omega
         have hqx:q<(x::r).length:=by rw [HY.out.2.2.2];exact hqN
         have hym:=getD_mem' (d:=0) hqx
         have htk:=take_snoc hqx
         obtain⟨g9,e9,h9⟩:=row_at (ownG_onlyK HK6.out (by decide) H6.out.2.2.2.2.2.2 HOq.out) hN0
         simp only [Option.some.injEq,Addr.mk.injEq]at e9
         have hcq:wr.cell? ⟨gl,q,none⟩=some (.pointer (some ⟨kn ((x::r).getD q 0),0,none⟩)):=by
          rw [e9.1]
          refine h9 q _ ?_
          rw [List.getElem?_map,List.getElem?_eq_getElem hqx,List.getD_eq_getElem?_getD,List.getElem?_eq_getElem hqx]
          rfl
         have hyT:(x::r).getD q 0∉(x::r).take q:=fun hm=>by
          have h4:=HY.out.2.2.1
          rw [←List.take_append_drop q (x::r),List.nodup_append]at h4
          refine h4.2.2 _ hm _ ?_ rfl
          rw [List.drop_eq_getElem_cons hqx,List.getD_eq_getElem?_getD,List.getElem?_eq_getElem hqx]
          exact List.mem_cons_self ..
         obtain⟨y,hy⟩:∃y,(x::r).getD q 0=y:=⟨_,rfl⟩
         rw [hy]at hym htk hcq hyT
         obtain⟨hwo_,e1,e2,hto,hA0⟩:=HWG.out
         have hym2:=(HKN2.out y hym).2
         have htoM:=hwo_.one.to
         rw [hto,←e1]at htoM
         have hokT:WOk m2 (mv (hull G m L wd p A) tq A0 [] ((x::r).take q)):=by
          have h1:=mv_all (n:=m2) (F:=hull G m L wd p A) (p:=tq) (A0:=A0) (B0:=[]) (ws:=(x::r).take q) (by rw [e1];exact hwo_.one.ok2) htoM (by rw [←hto,←hA0];exact hwo_.kz) (fun v hv=>by rw [←hto];exact hwo_.anc v (List.mem_of_mem_take hv)) (HY.out.2.2.1.sublist (List.take_sublist _ _)) (fun v hv=>by have :=hwo_.lt v (List.mem_of_mem_take hv);rw [e1];omega)
          exact h1
         have hst:=mv_step (n:=m2) (F:=hull G m L wd p A) (p:=tq) (A0:=A0) (B0:=[]) (T:=(x::r).take q) (W:=x::r) (v:=y) (by rw [e1];exact hwo_.one.ok2) htoM (by rw [←hto,←hA0];exact hwo_.kz) (fun v hv=>List.mem_of_mem_take hv) (fun v hv=>by rw [←hto];exact hwo_.anc v hv) hym hyT (by rw [e1];omega) hokT
         have hoff:∀T,(∀v∈T,v∈x::r)→offL T A0=A0:=fun T hT=>by rw [←hA0];exact hwo_.old T (fun v hv=>hwo_.lt v (hT v hv))
         rw [hoff ((x::r).take q++[y]) (fun v hv=>by
          rcases List.mem_append.1 hv with h | h
          ·exact List.mem_of_mem_take h
          ·simp at h;rw [h];exact hym)]at hst
         have hkto:(mv (hull G m L wd p A) tq A0 [] ((x::r).take q)).kids tq=A0++(x::r).take q:=by
          rw [mv_kids,hoff _ (fun v hv=>List.mem_of_mem_take hv)]
          simp [offL]
         have hlen9:(A0++(x::r).take q).length=A0.length+q:=by rw [List.length_append,List.length_take];omega
         have ct7:=(HKq.out.cells htoM).2.2
         obtain⟨ta,tc,htv⟩:=ownsRow_slice (HKq.out.row tq htoM)
         rw [hkto,hlen9]at htv
         rw [htv]at ct7
         obtain⟨LL,hLL⟩:∃LL,A0.length+q=LL:=⟨_,rfl⟩
         rw [hLL]at ct7 hlen9
         have hLLb:LL≤1000000:=by rw [←hLL,←hA0,List.length_map];have :=HMID.out.1.ok.few z0;have :=HM6.out;omega
         obtain⟨pp,hpp⟩:∃pp,(mv (hull G m L wd p A) tq A0 [] ((x::r).take q)).up y=some pp:=by
          rw [mv_up,if_neg hyT]
          unfold hull
          simp only [Wd.put]
          rw [if_neg (by omega),(cp_old L [wd] hym2).2,HY.out.2.1 y hym]
          obtain⟨_,_,pz,h1,_⟩:=HY.out.1 y hym
          exact⟨pz,h1⟩
         have hkz3:((mv (hull G m L wd p A) tq A0 [] ((x::r).take q)).cut y).kids tq=(A0++(x::r).take q)++[]:=by
          have h1:=hst.2.2.2.1
          rw [h1]
          simp [offL]
         have hpt2:∀w9,Below wr.heap.size wr w9→Calls Tryz.prog 108 #[.pointer (some ⟨kn2 tq,0,none⟩),.int .i64 (LL:Int),.pointer (some ⟨kn y,0,none⟩)] w9 (TurnKPost B m2 kn2 av2 pl2 lab2 (mv (hull G m L wd p A) tq A0 [] ((x::r).take (q+1))) w9):=fun w9 hb=>by
          have h1:=putK_more (HKq.out.below hb) hokT H6.out.2.2.2.2.2.1 (x:=y) (p:=tq) (q:=pp) htoM (by rw [e1];omega) hst.2.2.1 hpp _ [] hkz3 (m:=LL) hlen9
          have h2:=hst.2.2.2.2.1
          rw [hlen9]at h2
          rw [(HKN2.out y hym).1,h2,←htk]at h1
          exact h1
         have HPT2:=Lib.hid hpt2
         clear hqx hym htk e9 h9 hyT hy hwo_ e1 e2 hto hA0 hym2 hokT hst hoff hkto hlen9 htv hLL hpp hkz3 hpt2
         go_wp2
         go_region_with (go_at_call 108;refine(HPT2.out _ (by first | exact Below.refl _ _ | exact(Below.refl _ _).drew)).mono ?_;rintro e w8 ⟨kv8,rfl,hk8,ho8⟩)
         all_goals
          have HOB:=Lib.hid (HOq.out.trans ((OnlyK.of_below (by first | exact Below.refl _ _ | exact(Below.refl _ _).drew)).trans ho8.out))
          clear ho8
          go_wp2
          refine⟨?rel,?measure⟩
          case rel=>exact⟨q+1,kv8,by omega,by go_num,hk8,HOB⟩
          case measure=>simp [intOf];omega
        ·obtain rfl:N=q:=by omega
         have hk9:=HKq.out
         rw [List.take_of_length_le (by rw [HY.out.2.2.2];exact Nat.le_refl _)]at hk9
         have HK9:=Lib.hid hk9
         have HF9:=Lib.hid (H6.out.1.turn HK6.out HOq.out)
         have HG9:=Lib.hid (H6.out.2.1.onlyK HK6.out HOq.out)
         have HB9:=Lib.hid (H6.out.2.2.1.trans (HOq.out.below B HBM.out HK6.out.base))
         have HS9:=Lib.hid (Nat.le_trans H6.out.2.2.2.1 HOq.out.size)
         clear hk9
         go_wp2
         refine⟨?rel,?measure⟩
         case rel=>exact⟨i+1,m2,kn2,kv9,av2,pl2,lab2,_,by omega,by go_num,Lib.hid HOUT.out.2,HF9,HB9,HK9,Lib.hid HOUT.out.1,HG9,HS9⟩
         case measure=>simp [intOf];omega
   ·obtain rfl:GL=i:=by omega
    have hfin:WrapsG wd L m lab' G gs n lab F:=HOm.out.exact m lab' G (by
     rw [List.drop_of_length_le (by rw [HGS.out.2];exact Nat.le_refl _)]
     exact .nil rfl (fun _ _=>rfl) rfl)
    have hold:∀q,q<n→kn' q=kn q∧pl' q=pl q∧lab' q=lab q:=fun q hq=>⟨(HOm.out.old q hq).1,(HOm.out.old q hq).2,HOm.out.mid.lab q hq⟩
    have hf9:=HFm.out
    rw [show decide (600<m)=false by have :=HM6.out;simp;omega]at hf9
    rw [←HGS.out.1]at hfin
    have HFIN:=Lib.hid (And.intro hfin (And.intro hold HOm.out.new))
    have HF9:=Lib.hid hf9
    clear hfin hold hf9
    go_wp2
    go_ret
    exact .inr (.inl ⟨m,kn',kv',av',pl',lab',G,L,rfl,HM6.out,HFIN.out.2.1,HFIN.out.2.2,HLL.out.1,HIN.out,HSIDE0.out,HWS.out.2.2.2.2,HFIN.out.1,HKm,HF9,HBm⟩)
end Go.Proofs.YtkdomegcacgpnaaGreat
