/- Parts of a proof: AlikeC, UNames, ClsPlain, ChgAt. -/
import Derived.Test.YtkdomegcacgpnaaGreatG28
import Derived.Test.YtkdomegcacgpnaaGreatG29
import Derived.Test.YtkdomegcacgpnaaGreatG32
import Derived.Test.YtkdomegcacgpnaaGreatG38
import Derived.Deep.RegionHeld3
import Derived.Test.YtkdomegcacgpnaaGreatG33
import Derived.Test.YtkdomegcacgpnaaGreatG08
set_option linter.unusedVariables false
set_option linter.unusedSimpArgs false
namespace Go.Proofs.YtkdomegcacgpnaaGreat
open Go.RowKit
structure HalfC (l l2:KVs):Prop where
 oth:∀x∈l,(x.1.toList==[99,108,97,115,115])=false→lookKV l2 x.1=some x.2
 cls:∀x∈l,(x.1.toList==[99,108,97,115,115])=true→x.2.size≤16000000000000∧(ClsVal l2).size≤16000000000000∧∀j,j<(wordsF x.2).length→inW (wordsF (ClsVal l2)) ((wordsF x.2).getD j ByteArray.empty) (wordsF (ClsVal l2)).length=true
structure AlikeC (m n:NodeD):Prop where
 kind:m.kind=n.kind
 tag:m.tag=n.tag
 text:m.text=n.text
 size:m.size=n.size
 one:HalfC m.attrs n.attrs
 two:HalfC n.attrs m.attrs
theorem kv_cls{x:ByteArray}(h:(x.toList==[99,108,97,115,115])=true):x=⟨#[99,108,97,115,115]⟩:=by
 have h1:=eq_of_beq h
 rw [ByteArray.toList_eq]at h1
 cases x with
 | mk d=>
  have h2:d= #[99,108,97,115,115]:=Array.toList_inj.1 h1
  rw [h2]
set_option maxRecDepth 100000 in
set_option maxHeartbeats 4000000 in
theorem withinC_any(k1 z1:Int)(tag1 text1:ByteArray)(aa1:Option Addr)(al1 ac1:Nat)(k2 z2:Int)(tag2 text2:ByteArray)(aa2:Option Addr)(al2 ac2:Nat)(l l2:KVs)(w:World)(h1:AttrsAt w aa1 al1 l)(h2:AttrsAt w aa2 al2 l2)(hd:HalfC l l2):
  Calls Tryz.prog 22 #[.agg #[.int .i64 k1,.string tag1,.string text1,.slice aa1 al1 ac1,.int .i64 z1],.agg #[.int .i64 k2,.string tag2,.string text2,.slice aa2 al2 ac2,.int .i64 z2]] w (YesB w):=by
 obtain⟨W0,hW0⟩:∃W0,(w.alloc (.cells #[.int .i64 k1,.string tag1,.string text1,.slice aa1 al1 ac1,.int .i64 z1] 38)).alloc (.cells #[.int .i64 k2,.string tag2,.string text2,.slice aa2 al2 ac2,.int .i64 z2] 38)=W0:=⟨_,rfl⟩
 have hb0:Below w.heap.size w W0:=by rw [←hW0];exact((Below.refl _ _).alloc (Nat.le_refl _) _).alloc (by simp) _
 have o1:World.objAt W0 w.heap.size #[.int .i64 k1,.string tag1,.string text1,.slice aa1 al1 ac1,.int .i64 z1] 38:=by rw [←hW0];exact World.objAt.below (B:=w.heap.size+1) (objAt_alloc_new w _ _) ((Below.refl _ _).alloc (by simp) _) (by omega)
 have o2:World.objAt W0 (w.heap.size+1) #[.int .i64 k2,.string tag2,.string text2,.slice aa2 al2 ac2,.int .i64 z2] 38:=by rw [←hW0];have :=objAt_alloc_new (w.alloc (.cells #[.int .i64 k1,.string tag1,.string text1,.slice aa1 al1 ac1,.int .i64 z1] 38)) #[.int .i64 k2,.string tag2,.string text2,.slice aa2 al2 ac2,.int .i64 z2] 38;rwa [World.size_alloc]at this
 have q13:W0.cell? ⟨w.heap.size,3,none⟩=some (.slice aa1 al1 ac1):=o1.cell (i:=3) rfl
 have q20:W0.cell? ⟨w.heap.size+1,0,none⟩=some (.int .i64 k2):=o2.cell (i:=0) rfl
 have q21:W0.cell? ⟨w.heap.size+1,1,none⟩=some (.string tag2):=o2.cell (i:=1) rfl
 have q22:W0.cell? ⟨w.heap.size+1,2,none⟩=some (.string text2):=o2.cell (i:=2) rfl
 have q23:W0.cell? ⟨w.heap.size+1,3,none⟩=some (.slice aa2 al2 ac2):=o2.cell (i:=3) rfl
 have q24:W0.cell? ⟨w.heap.size+1,4,none⟩=some (.int .i64 z2):=o2.cell (i:=4) rfl
 have hal1:l.length=al1:=h1.1
 have H1:=Lib.hid (h1.below hb0)
 have H2:=Lib.hid (h2.below hb0)
 have HQ:=Lib.hid (And.intro q13 (And.intro q20 (And.intro q21 (And.intro q22 (And.intro q23 q24)))))
 have HB0:=Lib.hid hb0
 have HDV:=Lib.hid hd
 have hlm:al1≤9223372036854775807:=h1.2.1
 have hs0:W0.heap.size=w.heap.size+2:=by rw [←hW0];simp
 clear h1 h2 hd hb0 o1 o2 q20 q21 q22 q23 q24
 subst hal1
 go_enter Tryz.func22,Tryz.ntmps22
 go_wp2
 go_loopw [5] (fun i wr=>∃k:Nat,k≤l.length∧i=.int .i64 (k:Int)∧Hid (Below W0.heap.size W0 wr)) (fun i _=>l.length-(intOf i).toNat)
 case atStart=>exact⟨0,by omega,by go_num,Lib.hid (by first | exact Below.refl _ _ | (rw [hW0];exact Below.refl _ _))⟩
 case round=>
  obtain⟨k,hk,rfl,HB⟩:=hrel
  clear q13
  have q13:=cell_below HB.out HQ.out.1
  by_cases hlt:k<l.length
  ·obtain⟨_,_,_,hcc⟩:=H1.out
   obtain⟨b,off,rfl,hc⟩:=hcc (by omega)
   obtain⟨c1,c2⟩:=hc k hlt
   have c1:=cell_below HB.out c1
   have c2:=cell_below HB.out c2
   have hmem:l.getD k default∈l:=by rw [List.getD_eq_getElem?_getD,List.getElem?_eq_getElem hlt];exact List.getElem_mem _
   have hoth:=HDV.out.oth _ hmem
   have hcls:=HDV.out.cls _ hmem
   obtain⟨x,hxx⟩:∃x,(l.getD k default).1=x:=⟨_,rfl⟩
   obtain⟨y,hyy⟩:∃y,(l.getD k default).2=y:=⟨_,rfl⟩
   rw [hxx]at c1 hoth hcls
   rw [hyy]at c2 hoth hcls
   have hkI:(k:Int)<(l.length:Int):=by omega
   have hbs:=HB.out.size
   obtain⟨X,hX⟩:∃X,wr.alloc (.cells #[.string x,.string y] 61)=X:=⟨_,rfl⟩
   have hbX:Below wr.heap.size wr X:=by rw [←hX];exact(Below.refl _ _).alloc (Nat.le_refl _) _
   have hbX0:Below W0.heap.size W0 X:=HB.out.trans (hbX.mono hbs)
   have p0:X.cell? ⟨wr.heap.size,0,none⟩=some (.string x):=by rw [←hX];exact cell_alloc_new' _ _ _ rfl rfl
   have p1:X.cell? ⟨wr.heap.size,1,none⟩=some (.string y):=by rw [←hX];exact cell_alloc_new' _ _ _ rfl rfl
   have p20:=cell_below hbX0 HQ.out.2.1
   have p21:=cell_below hbX0 HQ.out.2.2.1
   have p22:=cell_below hbX0 HQ.out.2.2.2.1
   have p23:=cell_below hbX0 HQ.out.2.2.2.2.1
   have p24:=cell_below hbX0 HQ.out.2.2.2.2.2
   have HX:=Lib.hid (And.intro hbX0 (H2.out.below hbX0))
   clear hc hcc hmem hxx hyy hbX hbX0
   cases hq:(x.toList==[99,108,97,115,115])
   ·have HLK:=Lib.hid (hoth hq)
    clear hoth hcls
    have HC:=Lib.hid (attrIs_any k2 z2 tag2 text2 aa2 al2 ac2 l2 x X HX.out.2)
    go_wp2_with fail
    refine HC.out.mono ?_
    rintro e w2 ⟨rfl,hb2⟩
    rw [HLK.out,Option.getD_some,Option.isSome_some]
    have p1':=cell_below hb2.out p1
    have gy:(y.toList !=y.toList)=false:=by simp
    have HB2:=Lib.hid (HX.out.1.trans (hb2.out.mono HX.out.1.size))
    clear hb2 HC p0 p1 p20 p21 p22 p23 p24
    go_wp2
    refine⟨?rel,?measure⟩
    case rel=>exact⟨k+1,by omega,by go_num,HB2⟩
    case measure=>simp [intOf];omega
   ·have hxc:x=⟨#[99,108,97,115,115]⟩:=kv_cls hq
    subst hxc
    obtain⟨sz1,sz2,hin⟩:=hcls hq
    obtain⟨vb,hvb⟩:∃vb,(lookKV l2 ⟨#[99,108,97,115,115]⟩).getD ByteArray.empty=vb:=⟨_,rfl⟩
    have hvc:ClsVal l2=vb:=hvb
    rw [hvc]at sz2 hin
    have HVB:=Lib.hid hvb
    have HIN:=Lib.hid hin
    clear hoth hcls hin hvb hvc
    have HC:=Lib.hid (attrIs_any k2 z2 tag2 text2 aa2 al2 ac2 l2 ⟨#[99,108,97,115,115]⟩ X HX.out.2)
    go_wp2_with fail
    refine HC.out.mono ?_
    rintro e w2 ⟨rfl,hb2⟩
    rw [HVB.out]
    have p1':=cell_below hb2.out p1
    have HB2:=Lib.hid (HX.out.1.trans (hb2.out.mono HX.out.1.size))
    have HW:=Lib.hid (fun(w:World)=>words_any y w sz1)
    have HWB:=Lib.hid (fun(w:World)=>words_any vb w sz2)
    clear hb2 HC p0 p1 p20 p21 p22 p23 p24
    go_wp2_with fail
    refine(HW.out _).mono ?_
    rintro e w3 ⟨v3,rfl,ho3,hb3⟩
    have HB3:=Lib.hid (HB2.out.trans (hb3.out.mono HB2.out.size))
    clear p1'
    go_wp2_with fail
    refine(HWB.out _).mono ?_
    rintro e w4 ⟨v4,rfl,ho4,hb4⟩
    have HB4:=Lib.hid (HB3.out.trans (hb4.out.mono HB3.out.size))
    obtain⟨a3,d3,rfl,_,hs3⟩:=ho3.out.open
    obtain⟨a4,d4,rfl,_,hs4⟩:=ho4.out.open
    have HS3:=Lib.hid (hs3.below hb4.out)
    have HS4:=Lib.hid hs4
    obtain⟨ws,hws⟩:∃ws,wordsF y=ws:=⟨_,rfl⟩
    obtain⟨vs,hvs⟩:∃vs,wordsF vb=vs:=⟨_,rfl⟩
    have hwl:=wordsF_len y
    rw [hws]at HS3 hwl HIN ⊢
    rw [hvs]at HS4 HIN ⊢
    clear hb3 hb4 ho3 ho4 hs3 hs4 hws hvs
    go_wp2
    go_loopw [11] (fun jv w5=>∃j:Nat,j≤ws.length∧jv=.int .i64 (j:Int)∧Hid (w5=w4)) (fun i _=>ws.length-(intOf i).toNat)
    case atStart=>exact⟨0,by omega,by go_num,Lib.hid rfl⟩
    case round=>
     obtain⟨j,hj,rfl,HE⟩:=hrel
     have he:=HE.out
     subst he
     by_cases hjl:j<ws.length
     ·obtain⟨_,hcc⟩:=HS3.out
      obtain⟨b3,off3,rfl,hc3⟩:=hcc (by omega)
      have cj:=hc3 j hjl
      have hin:=HIN.out j hjl
      obtain⟨q,hqq⟩:∃q,ws.getD j ByteArray.empty=q:=⟨_,rfl⟩
      rw [hqq]at cj hin
      have HIN2:=Lib.hid hin
      have hjI:(j:Int)<(ws.length:Int):=by omega
      have HCW:=Lib.hid (isWord_any a4 vs.length d4 vs q wr HS4.out)
      clear hcc hc3 hqq hin
      go_wp2_with fail
      refine HCW.out.mono ?_
      rintro e w6 ⟨b6,hb6,rfl,rfl⟩
      rw [HIN2.out]at hb6
      subst hb6
      go_wp2
      refine⟨?rel,?measure⟩
      case rel=>exact⟨j+1,by omega,by go_num,Lib.hid (by simp)⟩
      case measure=>simp [intOf];omega
     ·obtain rfl:j=ws.length:=by omega
      go_wp2
      refine⟨?rel,?measure⟩
      case rel=>exact⟨k+1,by omega,by go_num,HB4⟩
      case measure=>simp [intOf];omega
  ·obtain rfl:k=l.length:=by omega
   go_wp2
   go_ret
   exact⟨rfl,HB0.out.trans (HB.out.mono (by omega))⟩
set_option maxRecDepth 100000 in
set_option maxHeartbeats 4000000 in
theorem alikeC_any(a1 a2:Option Addr)(len c1 c2:Nat)(ts1 ts2:List NodeD)(w:World)(h1:Nodes w a1 len ts1)(h2:Nodes w a2 len ts2)(hs:∀i,i<len→AlikeC (ts1.getD i default) (ts2.getD i default)):
  Calls Tryz.prog 9 #[.slice a1 len c1,.slice a2 len c2] w (YesB w):=by
 have hm:=h1.len.2
 have gl:((len:Int) !=(len:Int))=false:=by simp
 have H1:=Lib.hid h1
 have H2:=Lib.hid h2
 have HS:=Lib.hid hs
 clear h1 h2 hs
 go_enter Tryz.func9,Tryz.ntmps9
 go_wp2
 go_loopw [5] (fun i wr=>∃k:Nat,k≤len∧i=.int .i64 (k:Int)∧Hid (Below w.heap.size w wr)) (fun i _=>len-(intOf i).toNat)
 case atStart=>exact⟨0,by omega,by go_num,Lib.hid (Below.refl _ _)⟩
 case round=>
  obtain⟨k,hk,rfl,HB⟩:=hrel
  by_cases hlt:k<len
  ·obtain⟨b1,o1,rfl,hc1⟩:=H1.out.at (by omega)
   obtain⟨b2,o2,rfl,hc2⟩:=H2.out.at (by omega)
   have n1:=(hc1 k hlt).below HB.out
   have n2:=(hc2 k hlt).below HB.out
   obtain⟨e1,e2,e3,e5,d,d9⟩:=HS.out k hlt
   obtain⟨m1,hm1⟩:∃m,ts1.getD k default=m:=⟨_,rfl⟩
   obtain⟨m2,hm2⟩:∃m,ts2.getD k default=m:=⟨_,rfl⟩
   rw [hm1]at n1 e1 e2 e3 e5 d d9
   rw [hm2]at n2 e1 e2 e3 e5 d d9
   obtain⟨k1,g1,x1,aa1,al1,ac1,l1,z1⟩:=m1
   obtain⟨k2,g2,x2,aa2,al2,ac2,l2,z2⟩:=m2
   simp only at e1 e2 e3 e5 d d9
   subst e1 e2 e3 e5
   have p0:=n1.kind
   have p1:=n1.tag
   have p2:=n1.text
   have p3:=n1.attrs
   have p4:=n1.size
   have q0:=n2.kind
   have q1:=n2.tag
   have q2:=n2.text
   have q3:=n2.attrs
   have q4:=n2.size
   simp only at p0 p1 p2 p3 p4 q0 q1 q2 q3 q4
   have r1:=n1.at_
   have r2:=n2.at_
   simp only at r1 r2
   have hw1:∀(w':World),Below wr.heap.size wr w'→Calls Tryz.prog 22 #[.agg #[.int .i64 k1,.string g1,.string x1,.slice aa1 al1 ac1,.int .i64 z1],.agg #[.int .i64 k1,.string g1,.string x1,.slice aa2 al2 ac2,.int .i64 z1]] w' (YesB w'):=fun w' hb=>by
    exact withinC_any k1 z1 g1 x1 aa1 al1 ac1 k1 z1 g1 x1 aa2 al2 ac2 l1 l2 w' (r1.below hb) (r2.below hb) d
   have hw2:∀(w':World),Below wr.heap.size wr w'→Calls Tryz.prog 22 #[.agg #[.int .i64 k1,.string g1,.string x1,.slice aa2 al2 ac2,.int .i64 z1],.agg #[.int .i64 k1,.string g1,.string x1,.slice aa1 al1 ac1,.int .i64 z1]] w' (YesB w'):=fun w' hb=>by
    exact withinC_any k1 z1 g1 x1 aa2 al2 ac2 k1 z1 g1 x1 aa1 al1 ac1 l2 l1 w' (r2.below hb) (r1.below hb) d9
   have HW:=Lib.hid (And.intro hw1 hw2)
   have hkI:(k:Int)<(len:Int):=by omega
   have gk:(k1 !=k1)=false:=by simp
   have gz:(z1 !=z1)=false:=by simp
   have gt:(g1.toList !=g1.toList)=false:=by simp
   have gx:(x1.toList !=x1.toList)=false:=by simp
   clear n1 n2 hc1 hc2 hm1 hm2 d d9 r1 r2 hw1 hw2
   have hSS:∀w',Below wr.heap.size wr w'→(fun w'=>Below wr.heap.size wr w'∧w'.cell? ⟨b1,o1+k*5,none⟩=some (.int .i64 k1)∧w'.cell? ⟨b1,o1+k*5+1,none⟩=some (.string g1)∧w'.cell? ⟨b1,o1+k*5+2,none⟩=some (.string x1)∧w'.cell? ⟨b1,o1+k*5+3,none⟩=some (.slice aa1 al1 ac1)∧w'.cell? ⟨b1,o1+k*5+4,none⟩=some (.int .i64 z1)∧w'.cell? ⟨b2,o2+k*5,none⟩=some (.int .i64 k1)∧w'.cell? ⟨b2,o2+k*5+1,none⟩=some (.string g1)∧w'.cell? ⟨b2,o2+k*5+2,none⟩=some (.string x1)∧w'.cell? ⟨b2,o2+k*5+3,none⟩=some (.slice aa2 al2 ac2)∧w'.cell? ⟨b2,o2+k*5+4,none⟩=some (.int .i64 z1)) w':=fun w' hb=>⟨hb,cell_below hb p0,cell_below hb p1,cell_below hb p2,cell_below hb p3,cell_below hb p4,cell_below hb q0,cell_below hb q1,cell_below hb q2,cell_below hb q3,cell_below hb q4⟩
   have HSS:=Lib.hid hSS
   clear hSS p0 p1 p2 p3 p4 q0 q1 q2 q3 q4
   have hbd:Below wr.heap.size wr wr.drew:=(Below.refl _ _).drew
   have hbY:∀w',Below wr.drew.heap.size wr.drew w'→Below wr.heap.size wr w':=fun w' hb=>hbd.trans hb
   have hbZ:∀{w8:World} (w':World),Below w8.heap.size w8 w'→Below wr.heap.size wr w8→Below wr.heap.size wr w':=fun w' hb h8=>h8.trans (hb.mono h8.size)
   go_wp2
   go_region_held3 (fun w'=>Below wr.heap.size wr w'∧w'.cell? ⟨b1,o1+k*5,none⟩=some (.int .i64 k1)∧w'.cell? ⟨b1,o1+k*5+1,none⟩=some (.string g1)∧w'.cell? ⟨b1,o1+k*5+2,none⟩=some (.string x1)∧w'.cell? ⟨b1,o1+k*5+3,none⟩=some (.slice aa1 al1 ac1)∧w'.cell? ⟨b1,o1+k*5+4,none⟩=some (.int .i64 z1)∧w'.cell? ⟨b2,o2+k*5,none⟩=some (.int .i64 k1)∧w'.cell? ⟨b2,o2+k*5+1,none⟩=some (.string g1)∧w'.cell? ⟨b2,o2+k*5+2,none⟩=some (.string x1)∧w'.cell? ⟨b2,o2+k*5+3,none⟩=some (.slice aa2 al2 ac2)∧w'.cell? ⟨b2,o2+k*5+4,none⟩=some (.int .i64 z1)) (first | exact HSS.out _ (hbZ _ hb9 (hbY _ hb8)) | exact HSS.out _ (hbY _ hb8) | exact HSS.out _ hbd) (first | (have h3:=hbY _ hb8;go_at_call 22;refine(HW.out.2 _ h3).mono ?_;rintro e w9 ⟨rfl,hb9⟩) | (go_at_call 22;refine(HW.out.1 _ hbd).mono ?_;rintro e w8 ⟨rfl,hb8⟩))
   all_goals
    have HB9:=Lib.hid (HB.out.trans ((hbZ _ hb9 (hbY _ hb8)).mono HB.out.size))
    go_wp2
    refine⟨?rel,?measure⟩
    case rel=>exact⟨k+1,by omega,by go_num,HB9⟩
    case measure=>simp [intOf];omega
  ·obtain rfl:k=len:=by omega
   go_wp2
   go_ret
   exact⟨rfl,HB.out⟩
def FewSay(len:Nat)(b:Bool):Prop:=b=true→len≤2147483647
set_option maxHeartbeats 400000 in
theorem fits8_few(a:Option Addr)(len cap:Nat)(ss:List ByteArray)(w:World)(h:Strs w a len ss):
  Calls Tryz.prog 6 #[.slice a len cap] w (SomeBool (FewSay len) w):=by
 have hm:=h.len.2
 by_cases q1:(2147483647:Int)<(len:Int)
 ·have g1:decide ((2147483647:Int)<(len:Int))=true:=by simp [q1]
  have g1n:decide (2147483647<len)=true:=by simp;omega
  clear q1
  go_enter Tryz.func6,Tryz.ntmps6
  go_wp2
  go_ret
  exact⟨false,(fun h=>by cases h),rfl,rfl⟩
 have hle:len≤2147483647:=by omega
 have g1:decide ((2147483647:Int)<(len:Int))=false:=by simp [q1]
 have g1n:decide (2147483647<len)=false:=by simp;omega
 clear q1
 go_enter Tryz.func6,Tryz.ntmps6
 go_wp2
 go_loop [10] (fun i=>∃k:Nat,k≤len∧i=.int .i64 k) (fun i=>len-(intOf i).toNat)
 case atStart=>exact⟨0,Nat.zero_le _,rfl⟩
 case round=>
  obtain⟨k,hk,rfl⟩:=hrel
  by_cases hlt:k<len
  ·obtain⟨b,off,rfl,hc⟩:=h.at (by omega)
   have hck:=hc k hlt
   go_wp2
   ·go_ret
    exact⟨_,(fun _=>hle),rfl,rfl⟩
   ·go_round
    case rel=>exact⟨k+1,by omega,by go_num⟩
    case measure=>simp [intOf];omega
  ·go_wp2
   go_ret
   exact⟨_,(fun _=>hle),rfl,rfl⟩
theorem name_ok{x:ByteArray}(h:printF x=true)(hz:x.size≤1048576):NameOk x.data.toList:=by
 have h1:=of_decide_eq_true h
 refine⟨h1.1,fun b hb=>?_,fun b hb=>?_,by rw [←size_list];exact hz⟩
 ·have :=(h1.2 b hb)
  unfold printB at this
  unfold spaceB spaceI
  simp only [Bool.or_eq_false_iff,beq_eq_false_iff_ne]
  omega
 ·have :=(h1.2 b hb)
  unfold printB at this
  exact⟨by omega,by omega,by omega⟩
theorem inW_mem{ws:List ByteArray}{x:ByteArray}:∀{k:Nat},inW ws x k=false→∀j,j<k→(ws.getD j ByteArray.empty).toList≠x.toList
 | 0,_,_,h=>absurd h (Nat.not_lt_zero _)
 | k+1,h,j,hj=>by
  simp only [inW,Bool.or_eq_false_iff]at h
  by_cases e:j=k
  ·subst e;simpa using h.2
  ·exact inW_mem h.1 j (by omega)
theorem goodC_start{l:KVs}{s:Nat}(hd:DistKV l)(hl:l.length≤20)(hz:∀x∈l,x.1.size≤200∧x.2.size≤s)(hs:SimpleC (ClsVal l)):GoodC l (Wc l) 20 s:=by
 obtain⟨s1,s2⟩:=hs rfl
 refine⟨hd,rfl,?_,fun b hb=>?_,hl,hz⟩
 ·unfold Wc
  rw [←wordsF_wl]
  unfold List.Nodup
  rw [List.pairwise_iff_getElem]
  intro i j hi hj hij
  rw [List.length_map]at hi hj
  rw [List.getElem_map,List.getElem_map]
  have :=inW_mem (s2 j hj) i hij
  rw [List.getD_eq_getElem?_getD,List.getD_eq_getElem?_getD,List.getElem?_eq_getElem hi,List.getElem?_eq_getElem hj,ByteArray.toList_eq,ByteArray.toList_eq]at this
  exact this
 ·rw [Array.mem_toList_iff]at hb
  obtain⟨j,hj,e⟩:=Array.getElem_of_mem hb
  have :=s1 j hj
  rw [←e]
  exact⟨this.2.2,this.2.1,this.1⟩
theorem clsVal_le{l:KVs}{m:Nat}(h:∀x∈l,x.2.size≤m):(ClsVal l).size≤m:=by
 unfold ClsVal
 cases hq:lookKV l clsK with
 | none=>exact Nat.zero_le _
 | some v=>
  obtain⟨x,hx,_,rfl⟩:=look_eq hq
  exact h x hx
theorem half_of{l l2:KVs}(hd:DistKV l)(hn:∀x∈l,x.1.toList≠clsK.toList→lookKV l2 x.1=some x.2)(hz:∀x∈l,x.2.size≤16000000000000)(hz2:∀x∈l2,x.2.size≤16000000000000)(hw:∀u∈Wc l,u∈Wc l2):HalfC l l2:=by
 have hcls:clsK.toList=[99,108,97,115,115]:=by rw [ByteArray.toList_eq];rfl
 refine⟨fun x hx he=>hn x hx (by rw [hcls];simpa using he),fun x hx he=>⟨hz x hx,clsVal_le hz2,fun j hj=>?_⟩⟩
 have h1:lookKV l clsK=some x.2:=by
  rw [←look_mem hd hx]
  exact look_key (by rw [hcls];exact(eq_of_beq he).symm)
 have h2:=val_mem h1
 rw [inW_all,decide_eq_true_iff,wordsF_wl]
 refine hw _ ?_
 unfold Wc
 rw [h2,←wordsF_wl]
 refine List.mem_map_of_mem ?_
 rw [List.getD_eq_getElem?_getD,List.getElem?_eq_getElem hj]
 exact List.getElem_mem _
theorem strs_cells{w:World}{a:Option Addr}{n:Nat}{ss:List ByteArray}(h:Strs w a n ss):StrCells w a n ss:=by
 obtain⟨h1,h2,h3⟩:=h
 refine⟨h2,fun h0=>?_⟩
 obtain⟨b,off,rfl,hc⟩:=h3 h0
 refine⟨b,off,rfl,fun i hi=>?_⟩
 have :=hc i hi
 rw [List.length_map]at h1
 rw [List.getD_eq_getElem?_getD,List.getElem?_map,List.getElem?_eq_getElem (by omega)]at this
 rw [this,List.getD_eq_getElem?_getD,List.getElem?_eq_getElem (by omega)]
 rfl
def selC(d:Nat)(p:Value):Array Value:= #[.slice none 0 0,.pointer (some ⟨d,0,none⟩),p]
set_option maxRecDepth 100000 in
set_option maxHeartbeats 1000000 in
theorem eq1o_any(s d:Nat)(a:Option Addr)(w:World)(c0:w.cell? ⟨s,0,none⟩=some (.slice a 1 1))(c1:w.cell? ⟨s,1,none⟩=some (.pointer (some ⟨d,0,none⟩))):
  Calls Tryz.prog 32 #[.pointer (some ⟨s,0,none⟩),.int .i64 1] w (fun e w'=>∃s' p,e=.returned (.pointer (some ⟨s',0,none⟩))∧World.objAt w' s' (selC d p) 82∧w.heap.size≤s'∧Below w.heap.size w w'):=by
 go_enter Tryz.func32,Tryz.ntmps32
 go_wp2
 go_ret
 exact⟨w.heap.size,_,rfl,objAt_alloc_new w _ _,Nat.le_refl _,(Below.refl _ w).alloc (Nat.le_refl _) _⟩
structure ChgAt (W w:World) (g bl n:Nat) (s0 d:Nat) (p:Value) (nb:Nat→Nat) (v:Nat→Value) (lab:Nat→NodeD) (F:Wd):Prop where
 dom:DomAt W.heap.size w n nb v lab F
 obj:World.objAt w g #[.slice (some ⟨bl,0,none⟩) n n,.pointer (some ⟨s0,0,none⟩)] 53
 sel:World.objAt w s0 (selC d p) 82
 row:∃arr,World.objAt w bl arr 75∧∀i,i<n→arr[i]? =some (lk (some (nb i)))
 bel:Below W.heap.size W w
theorem ChgAt.below{W w w':World}{g bl n s0 d:Nat}{p:Value}{nb:Nat→Nat}{v:Nat→Value}{lab:Nat→NodeD}{F:Wd}(h:ChgAt W w g bl n s0 d p nb v lab F)(hb:Below w.heap.size w w'):ChgAt W w' g bl n s0 d p nb v lab F:=by
 obtain⟨arr,h1,h2⟩:=h.row
 exact⟨h.dom.below hb,h.obj.below hb h.obj.lt,h.sel.below hb h.sel.lt,⟨arr,h1.below hb h1.lt,h2⟩,h.bel.trans (hb.mono h.bel.size)⟩
theorem ChgAt.cell{W w:World}{g bl n s0 d:Nat}{p:Value}{nb:Nat→Nat}{v:Nat→Value}{lab:Nat→NodeD}{F:Wd}(h:ChgAt W w g bl n s0 d p nb v lab F):∀i,i<n→w.cell? ⟨bl,i,none⟩=some (.pointer (some ⟨nb i,0,none⟩)):=fun i hi=>by
 obtain⟨arr,h1,h2⟩:=h.row
 exact h1.cell (h2 i hi)
theorem objAt_ne_node{w:World}{b k:Nat}{cs:Array Value}{t:TypeId}{r:NRec}(h:World.objAt w b cs t)(hn:World.nodeAt w k r)(ht:t≠117):b≠k:=fun e=>by
 subst e
 unfold World.objAt at h
 unfold World.nodeAt at hn
 rw [h]at hn
 simp only [NRec.obj,Option.some.injEq,Obj.cells.injEq]at hn
 exact ht hn.2.1
theorem OnlyC.obj{B n:Nat}{nb:Nat→Nat}{v:Nat→Value}{lab:Nat→NodeD}{F:Wd}{w w':World}(ho:OnlyC B n nb v w w')(hD:DomAt B w n nb v lab F){b:Nat}{cs:Array Value}{t:TypeId}(h:World.objAt w b cs t)(h1:t≠117)(h2:t≠119):World.objAt w' b cs t:=by
 have :=ho.block b h.lt (fun i hi=>objAt_ne_node h (hD.node i hi) h1) (fun i hi=>objAt_ne_own h (hD.own i hi) h2)
 unfold World.objAt at h ⊢
 rw [this]
 exact h
theorem ChgAt.turn{W w w':World}{g bl n s0 d:Nat}{p:Value}{nb:Nat→Nat}{v v':Nat→Value}{lab lab':Nat→NodeD}{F:Wd}(h:ChgAt W w g bl n s0 d p nb v lab F)(ho:OnlyC W.heap.size n nb v w w')(hD:DomAt W.heap.size w' n nb v' lab' F):ChgAt W w' g bl n s0 d p nb v' lab' F:=by
 obtain⟨arr,h1,h2⟩:=h.row
 exact⟨hD,ho.obj h.dom h.obj (by decide) (by decide),ho.obj h.dom h.sel (by decide) (by decide),⟨arr,ho.obj h.dom h1 (by decide) (by decide),h2⟩,h.bel.trans (ho.below _ (Nat.le_refl _) (fun i hi=>h.dom.base i hi))⟩
def BegunPost2(ts:List NodeD)(len:Nat)(W:World)(e:Ending)(w:World):Prop:=
 ∃g bl nb vv s0 d p,e=.returned (.tuple #[.pointer (some ⟨g,0,none⟩),.bool true])∧Hid (ChgAt W w g bl len s0 d p nb vv (fun i=>ts.getD i default) (wd0 (sz ts) len))
set_option maxRecDepth 100000 in
set_option maxHeartbeats 1000000 in
theorem begun2_any(W:World)(a:Option Addr)(len cap:Nat)(ts:List NodeD)(hR:RightT ts len)(hN:Nodes W a len ts):
  Calls Tryz.prog 16 #[.slice a len cap] W (BegunPost2 ts len W):=by
 have hlen:=hR.le
 have hpos:=hR.pos
 have hg:=grown_any W a len cap ts hR hN
 have HG:=Lib.hid hg
 have HR:=Lib.hid hR
 clear hg hR hN
 go_enter Tryz.func16,Tryz.ntmps16
 go_wp2_with fail
 refine HG.out.mono ?_
 rintro e w1 ⟨bl,nb,vv,rfl,hF,hb⟩
 have hbs:=hb.out.size
 have c0:=hF.out.cell hpos
 clear HG
 go_wp2_with fail
 refine(newDoc_any _ _).mono ?_
 rintro e w2 ⟨d,s,a,rfl,k0,k1,k2,hb2⟩
 have HB2:=Lib.hid hb2
 clear hb2 c0
 go_wp2_with fail
 refine(eq1o_any s d a w2 k1 k2).mono ?_
 rintro e w3 ⟨s3,p,rfl,m0,m1,hb3⟩
 have hb13:Below w1.heap.size w1 w3:=HB2.out.trans (hb3.mono HB2.out.size)
 have hF3:=hF.out.below hb13
 have hb03:Below W.heap.size W w3:=hb.out.trans (hb13.mono hbs)
 have hbs3:=hb03.size
 have H3:=Lib.hid (And.intro hF3 (And.intro hb03 m0))
 clear hb3 hb13 hF3 hb03 k0 k1 k2 m0 m1
 go_wp2
 go_ret2
 have hba:∀o,Below w3.heap.size w3 (w3.alloc o):=fun o=>(Below.refl _ _).alloc (Nat.le_refl _) o
 have hFa:=H3.out.1.below (hba (.cells #[.slice (some ⟨bl,0,none⟩) len len,.pointer (some ⟨s3,0,none⟩)] 53))
 obtain⟨arr,r1,r2,r3⟩:=hFa.row
 exact⟨w3.heap.size,bl,nb,vv,s3,d,p,rfl,Lib.hid ⟨hFa.dom HR.out,objAt_alloc_new w3 _ _,H3.out.2.2.below (hba _) H3.out.2.2.lt,⟨arr,r1,r3⟩,H3.out.2.1.alloc hbs3 _⟩⟩
end Go.Proofs.YtkdomegcacgpnaaGreat
