/- Parts of a proof: Kids4, Contents, EachG. -/
import Derived.Test.YtkdomegcacgpnaaGreatG06
import Derived.Test.YtkdomegcacgpnaaGreatG01
import Derived.Laws.MakeOwn
import Derived.Deep.LoopGhost
import Derived.Test.YtkdomegcacgpnaaGreatG17
import Derived.Test.YtkdomegcacgpnaaGreatG07
import Derived.Test.YtkdomegcacgpnaaGreatG20
import Derived.Test.YtkdomegcacgpnaaGreatG08
import Derived.Test.YtkdomegcacgpnaaGreatG24
set_option linter.unusedVariables false
set_option linter.unusedSimpArgs false
namespace Go.Proofs.YtkdomegcacgpnaaGreat
open Go.RowKit
def LkPost4(o:Option Nat)(w:World)(e:Ending)(w':World):Prop:=e=.returned (lk o)∧w=w'
theorem eqlNilNil4(w:World):(binOp .eql 75 (.pointer none) (.pointer none)).run Tryz.prog w=.ok (.bool true) w:=by kernel_rfl
theorem eqlSomeNil4(w:World)(b:Nat):(binOp .eql 75 (.pointer (some ⟨b,0,none⟩)) (.pointer none)).run Tryz.prog w=.ok (.bool false) w:=by kernel_rfl
set_option maxRecDepth 100000 in
set_option maxHeartbeats 4000000 in
theorem iter4_none{B n:Nat}(b1 b2 b3 p:Nat)(w:World){nb:Nat→Nat}{v:Nat→Value}{lab:Nat→NodeD}{G:Wd}(h:DomAt B w n nb v lab G)(hG:WOk n G)(hp:p<n)
  (c1:w.cell? ⟨b1,0,none⟩=some (.int .i64 4)) (c2:w.cell? ⟨b2,0,none⟩=some (.pointer (some ⟨nb p,0,none⟩))) (c3:w.cell? ⟨b3,0,none⟩=some (.pointer none)):
  Calls Tryz.prog 148 #[.pointer none,.pointer (some ⟨b1,0,none⟩),.pointer (some ⟨b2,0,none⟩),.pointer (some ⟨b3,0,none⟩)] w (LkPost4 ((G.kids p).head?.map nb) w):=by
 have kx:=(h.node p hp).fst
 have e1:(linkR G nb (lab p) (v p) p).fst=(G.kids p).head?.map nb:=rfl
 rw [e1]at kx
 have H:=Lib.hid h
 have HG:=Lib.hid hG
 clear h hG hp e1
 go_enter Tryz.func148,Tryz.ntmps148
 go_wp2
 go_loopg [0] 1 (fun gk c wr=>gk=1∧c=.pointer none∧w=wr)
 case atStart=>exact⟨rfl,rfl,rfl⟩
 case round=>
  obtain⟨rfl,rfl,rfl⟩:=hrel
  cases hk:(G.kids p).head? with
  | none=>
   rw [hk,Option.map_none,lk_none]at kx
   have heq:=eqlNilNil4 w
   clear hk
   go_wp2
   go_ret
   exact⟨rfl,rfl⟩
  | some q=>
   rw [hk,Option.map_some,lk_some]at kx
   have hqn:q<n:=(HG.out.lt p q (List.mem_of_mem_head? (by rw [hk];simp))).2
   have kt:=(H.out.node q hqn).ty
   obtain⟨ty,hty⟩:∃ty,(linkR G nb (lab q) (v q) q).ty=ty:=⟨_,rfl⟩
   rw [hty]at kt
   have heq:=eqlSomeNil4 w (nb q)
   clear hk hqn hty
   by_cases h3:ty=3
   ·subst h3
    go_wp2
    go_ret
    exact⟨rfl,rfl⟩
   ·have g3:(ty==3)=false:=by simp [h3]
    clear h3
    go_wp2
    go_ret
    exact⟨rfl,rfl⟩
set_option maxRecDepth 100000 in
set_option maxHeartbeats 4000000 in
theorem iter4_some{B n:Nat}(b1 b2 b3 p y:Nat)(w:World){nb:Nat→Nat}{v:Nat→Value}{lab:Nat→NodeD}{G:Wd}{A r:List Nat}(h:DomAt B w n nb v lab G)(hG:WOk n G)(hk:G.kids p=A++y::r)
  (c1:w.cell? ⟨b1,0,none⟩=some (.int .i64 4)) (c3:w.cell? ⟨b3,0,none⟩=some (.pointer none)):
  Calls Tryz.prog 148 #[.pointer (some ⟨nb y,0,none⟩),.pointer (some ⟨b1,0,none⟩),.pointer (some ⟨b2,0,none⟩),.pointer (some ⟨b3,0,none⟩)] w (LkPost4 (r.head?.map nb) w):=by
 have hyk:y∈G.kids p:=by rw [hk];simp
 have kx:=(h.node y (hG.lt p y hyk).2).nxt
 have e4:(linkR G nb (lab y) (v y) y).nxt=r.head?.map nb:=by
  have h1:=(hG.iff p y).1 hyk
  show((G.up y).bind fun p=>nxtIn (G.kids p) y).map nb=_
  rw [h1]
  show(nxtIn (G.kids p) y).map nb=_
  rw [hk,nxtIn_app A (fun hm=>by
   have h2:=hG.nd p
   rw [hk]at h2
   exact(nd_parts h2).1 hm)]
 rw [e4]at kx
 have hrn:∀q∈r,q<n:=fun q hq=>(hG.lt p q (by rw [hk];simp [hq])).2
 have H:=Lib.hid h
 have HRN:=Lib.hid hrn
 clear h hG hk e4 hyk hrn
 go_enter Tryz.func148,Tryz.ntmps148
 go_wp2
 go_loopg [0] 1 (fun gk c wr=>gk=1∧c=.pointer (some ⟨nb y,0,none⟩)∧w=wr)
 case atStart=>exact⟨rfl,rfl,rfl⟩
 case round=>
  obtain⟨rfl,rfl,rfl⟩:=hrel
  cases r with
  | nil=>
   simp only [List.head?_nil,Option.map_none,lk_none]at kx ⊢
   have heq:=eqlNilNil4 w
   go_wp2
   go_ret
   exact⟨rfl,rfl⟩
  | cons q r=>
   simp only [List.head?_cons,Option.map_some,lk_some]at kx ⊢
   have kt:=(H.out.node q (HRN.out q (by simp))).ty
   obtain⟨ty,hty⟩:∃ty,(linkR G nb (lab q) (v q) q).ty=ty:=⟨_,rfl⟩
   rw [hty]at kt
   have heq:=eqlSomeNil4 w (nb q)
   clear hty
   by_cases h3:ty=3
   ·subst h3
    go_wp2
    go_ret
    exact⟨rfl,rfl⟩
   ·have g3:(ty==3)=false:=by simp [h3]
    clear h3
    go_wp2
    go_ret
    exact⟨rfl,rfl⟩
set_option maxRecDepth 100000 in
set_option maxHeartbeats 8000000 in
theorem kids_4(o2 o3:Option Addr)(f:Value)(L:List Nat)(w w3:World)(hL:L.length≤600)(hw3:w3=((w.alloc (.cells #[.pointer o2] 75)).alloc (.cells #[.int .i64 4] 167)).alloc (.cells #[.pointer o3] 75))
  (hit:∀w',Below w3.heap.size w3 w'→Calls Tryz.prog 148 #[.pointer none,.pointer (some ⟨w.heap.size+1,0,none⟩),.pointer (some ⟨w.heap.size,0,none⟩),.pointer (some ⟨w.heap.size+1+1,0,none⟩)] w' (LkPost4 L[0]? w')∧
   ∀k,k<L.length→Calls Tryz.prog 148 #[.pointer (some ⟨L.getD k 0,0,none⟩),.pointer (some ⟨w.heap.size+1,0,none⟩),.pointer (some ⟨w.heap.size,0,none⟩),.pointer (some ⟨w.heap.size+1+1,0,none⟩)] w' (LkPost4 L[k+1]? w')):
  Calls Tryz.prog 142 #[.pointer o2,.int .i64 4,.pointer o3,f] w (OwnPtrsPost L w):=by
 obtain⟨i0,hi,hz0,hz1,hz2⟩:=info_parts Tryz.infoPtr
 have hb3:Below w.heap.size w w3:=by rw [hw3];exact(((Below.refl _ _).alloc (Nat.le_refl _) _).alloc (by simp) _).alloc (by simp;omega) _
 have cst:w3.cell? ⟨w.heap.size+1,0,none⟩=some (.int .i64 4):=by rw [hw3];exact cell_alloc_old (cell_alloc_new' _ _ _ (by simp) rfl) _
 have hmf:∀(fn:Fn) (first cap:Array Value) (w:World),(Instr.makeFunc fn first cap).run Tryz.prog w=.ok (.func fn first cap) w:=fun _ _ _ _=>rfl
 have hsz:w.heap.size+1<w3.heap.size:=by rw [hw3];simp
 have HIT:=Lib.hid hit
 have HB3:=Lib.hid hb3
 clear hit hb3
 have hmk:=fun(w':World)=>run_make (P:=Tryz.prog) w' 48 75 i0 (.pointer none) Tryz.underlying48 hi hz0 .i64 .i64 0 (L.length:Int) (by omega) (by omega) (by rw [hz2];omega) (by omega)
 simp only [hz1,Int.toNat_zero,Int.toNat_natCast,Nat.mul_one]at hmk
 go_enter Tryz.func142,Tryz.ntmps142
 go_wp2_with fail
 rw [←hw3]
 clear hw3
 refine(HIT.out w3 (Below.refl _ _)).1.mono ?_
 rintro e w4 ⟨rfl,rfl⟩
 go_wp2
 go_loopw [10,11] (fun n c wr=>∃k,k≤L.length∧n=.int .i64 (k:Int)∧c=lk L[k]? ∧w3=wr) (fun n _ _=>L.length-(intOf n).toNat)
 case atStart=>exact⟨0,by omega,by go_num,rfl,rfl⟩
 case round=>
  obtain⟨k,hk,rfl,rfl,rfl⟩:=hrel
  by_cases hlt:k<L.length
  ·have he:L[k]? =some (L.getD k 0):=by simp [List.getD,hlt]
   rw [he,lk_some]
   have hcl:=(HIT.out w3 (Below.refl _ _)).2 k hlt
   obtain⟨y,hy⟩:∃y,L.getD k 0=y:=⟨_,rfl⟩
   rw [hy]at hcl ⊢
   have HCL:=Lib.hid hcl
   clear hy hcl he
   go_wp2_with fail
   refine HCL.out.mono ?_
   rintro e w5 ⟨rfl,rfl⟩
   go_wp2
   go_roundw
   case rel=>exact⟨k+1,by omega,by go_num,rfl,by first | rfl | trivial⟩
   case measure=>simp [intOf];omega
  ·obtain rfl:k=L.length:=by omega
   rw [show L[L.length]? =none by simp,lk_none]
   have hown0:(w3.alloc (.cells (madeCells (Value.pointer none).cells L.length) 75)).ownsRow w3.heap.size 75 1 (.slice (some ⟨w3.heap.size,0,none⟩) 0 L.length) 0 []:=World.ownsRow_made w3 _ L.length (Nat.le_refl _) (by unfold maxLen;omega) (by simp [size_madeCells])
   have hb4:Below w3.heap.size w3 (w3.alloc (.cells (madeCells (Value.pointer none).cells L.length) 75)):=(Below.refl _ _).alloc (Nat.le_refl _) _
   have hmk3:=hmk w3
   obtain⟨w4,hw4⟩:∃w4,w3.alloc (.cells (madeCells (Value.pointer none).cells L.length) 75)=w4:=⟨_,rfl⟩
   rw [hw4]at hown0 hb4 hmk3
   have cst4:=cell_below hb4 cst
   have HO4:=Lib.hid (And.intro hown0 hb4)
   clear hmk hown0 hb4 hlt hw4
   go_wp2_with fail
   refine(HIT.out w4 HO4.out.2).1.mono ?_
   rintro e w5 ⟨rfl,rfl⟩
   clear hmk3
   go_wp2
   go_loopg [8,12] L.length (fun gk r c wy=>∃k,gk=L.length-k∧k≤L.length∧c=lk L[k]? ∧OwnPtrs wy w3.heap.size r (L.take k)∧Below w3.heap.size w3 wy)
   case atStart=>exact⟨0,by omega,by omega,rfl,HO4.out.1,HO4.out.2⟩
   case round=>
    obtain⟨k,rfl,hk,rfl,hown,hbel⟩:=hrel
    have cstx:=cell_below hbel cst
    by_cases hlt:k<L.length
    ·have he:L[k]? =some (L.getD k 0):=by simp [List.getD,hlt]
     rw [he,lk_some]
     have hcl:∀w',Below w3.heap.size w3 w'→Calls Tryz.prog 148 #[.pointer (some ⟨L.getD k 0,0,none⟩),.pointer (some ⟨w.heap.size+1,0,none⟩),.pointer (some ⟨w.heap.size,0,none⟩),.pointer (some ⟨w.heap.size+1+1,0,none⟩)] w' (LkPost4 L[k+1]? w'):=fun w' hb=>(HIT.out w' hb).2 k hlt
     have htk:=take_snoc hlt
     obtain⟨y,hy⟩:∃y,L.getD k 0=y:=⟨_,rfl⟩
     obtain⟨D,hD⟩:∃D,L.take k=D:=⟨_,rfl⟩
     have hDl:D.length=k:=by rw [←hD];simp;omega
     rw [hy]at hcl htk ⊢
     rw [hD]at hown htk
     have hown':wr.ownsRow w3.heap.size 75 1 u8 D.length (D.map ptrV):=hown
     have HCL:=Lib.hid hcl
     have HTK:=Lib.hid htk
     have HBEL:=Lib.hid hbel
     clear hy hcl he hD htk hown hbel
     go_wp2_with (at_builtin;refine wpList_append_own _ rfl _ _ 48 rfl w3.heap.size 75 i0 (.pointer none) 1 8 Tryz.underlying48 hi hz0 hz1 hz2 rfl (by decide) _ _ _ rfl (hown'.alloc _) ⟨wr.heap.size,0,none⟩ 1 1 [.pointer (some ⟨y,0,none⟩)] rfl rfl ?c1 ?c2 ?c3 ?c4 ?c5 ?_)
     case c1=>
      intro j u hj
      match j,hj with
      | 0,hj=>simp at hj;subst hj;simp [Addr.add]
     case c2=>intro u hu;simp at hu;subst hu;rfl
     case c3=>unfold maxLen;omega
     case c4=>omega
     case c5=>have :=HBEL.out.size;first | (simp;done) | (simp;omega)
     intro v' w1 hown2 hgrow _
     have hbel2:Below w3.heap.size w3 w1:=(HBEL.out.alloc HBEL.out.size _).grown hgrow (by have :=HBEL.out.size;first | (simp;done) | (simp;omega)) (fun q hq=>(World.ownsRow.lt hown' q hq).1)
     rw [←hDl]at hown2
     have hsn:=ownPtrs_snoc (k:=y) hown2
     have H1:=Lib.hid (And.intro hsn hbel2)
     have cst1:=cell_below hbel2 cst
     clear hown2 hgrow hbel2 hsn hown' cstx
     go_wp2_with fail
     refine(HCL.out w1 H1.out.2).mono ?_
     rintro e w6 ⟨rfl,rfl⟩
     go_wp2
     go_roundg (L.length-(k+1))
     case measure=>omega
     case rel=>exact⟨k+1,rfl,by omega,rfl,by rw [HTK.out];exact H1.out.1,H1.out.2⟩
    ·obtain rfl:k=L.length:=by omega
     rw [show L[L.length]? =none by simp,lk_none]
     rw [List.take_length]at hown
     have HOWN:Hid (OwnPtrs wr w.heap.size u8 L):=Lib.hid (ownsRow_base hown (by omega))
     have HBEL:=Lib.hid (HB3.out.trans (hbel.mono HB3.out.size))
     clear hown hbel hlt
     go_wp2
     go_ret
     exact⟨_,rfl,HOWN,HBEL⟩
theorem children4_any{B n:Nat}(p:Nat)(f:Value)(w:World){nb:Nat→Nat}{v:Nat→Value}{lab:Nat→NodeD}{G:Wd}(h:DomAt B w n nb v lab G)(hG:WOk n G)(hn:n≤1000)(hp:p<n)(hkl:(G.kids p).length≤600):
  Calls Tryz.prog 142 #[.pointer (some ⟨nb p,0,none⟩),.int .i64 4,.pointer none,f] w (OwnPtrsPost ((G.kids p).map nb) w):=by
 obtain⟨w3,hw3⟩:∃w3,w3=((w.alloc (.cells #[.pointer (some ⟨nb p,0,none⟩)] 75)).alloc (.cells #[.int .i64 4] 167)).alloc (.cells #[.pointer none] 75):=⟨_,rfl⟩
 have hb3:Below w.heap.size w w3:=by rw [hw3];exact(((Below.refl _ _).alloc (Nat.le_refl _) _).alloc (by simp) _).alloc (by simp;omega) _
 have c1:w3.cell? ⟨w.heap.size+1,0,none⟩=some (.int .i64 4):=by rw [hw3];exact cell_alloc_old (cell_alloc_new' _ _ _ (by simp) rfl) _
 have c2:w3.cell? ⟨w.heap.size,0,none⟩=some (.pointer (some ⟨nb p,0,none⟩)):=by rw [hw3];exact cell_alloc_old (cell_alloc_old (cell_alloc_new' _ _ _ rfl rfl) _) _
 have c3:w3.cell? ⟨w.heap.size+1+1,0,none⟩=some (.pointer none):=by rw [hw3];exact cell_alloc_new' _ _ _ (by simp) rfl
 refine kids_4 _ _ f ((G.kids p).map nb) w w3 (by rw [List.length_map];exact hkl) hw3 (fun w' hb=>⟨?_,fun k hk=>?_⟩)
 ·have h1:=iter4_none (w.heap.size+1) w.heap.size (w.heap.size+1+1) p w' ((h.below hb3).below hb) hG hp (cell_below hb c1) (cell_below hb c2) (cell_below hb c3)
  have e:((G.kids p).map nb)[0]? =(G.kids p).head?.map nb:=by
   cases G.kids p <;> rfl
  rw [e]
  exact h1
 ·rw [List.length_map]at hk
  have hsp:G.kids p=(G.kids p).take k++(G.kids p).getD k 0::(G.kids p).drop (k+1):=by
   have h0:(G.kids p).drop k=(G.kids p).getD k 0::(G.kids p).drop (k+1):=by
    rw [List.drop_eq_getElem_cons hk]
    simp [List.getD,hk]
   rw [←h0,List.take_append_drop]
  have h1:=iter4_some (w.heap.size+1) w.heap.size (w.heap.size+1+1) p _ w' ((h.below hb3).below hb) hG hsp (cell_below hb c1) (cell_below hb c3)
  have e:((G.kids p).map nb)[k+1]? =((G.kids p).drop (k+1)).head?.map nb:=by simp
  have e2:((G.kids p).map nb).getD k 0=nb ((G.kids p).getD k 0):=by simp [List.getD,hk]
  rw [e,e2]
  exact h1
set_option maxRecDepth 100000 in
set_option maxHeartbeats 1000000 in
theorem clo4_any{B n:Nat}(p box:Nat)(i:Int)(w:World){nb:Nat→Nat}{v:Nat→Value}{lab:Nat→NodeD}{G:Wd}(h:DomAt B w n nb v lab G)(hG:WOk n G)(hn:n≤600)(hp:p<n)(cb:w.cell? ⟨box,0,none⟩=some (.int .i64 4)):
  Calls Tryz.prog 141 #[.int .i64 i,.pointer (some ⟨nb p,0,none⟩),.pointer (some ⟨box,0,none⟩)] w (OwnPtrsPost ((G.kids p).map nb) w):=by
 have hc:=children4_any p .nilFunc w h hG (by omega) hp (Nat.le_trans (hG.few p) hn)
 obtain⟨L,hL⟩:∃L,(G.kids p).map nb=L:=⟨_,rfl⟩
 rw [hL]at hc ⊢
 have HC:=Lib.hid hc
 clear hc h hG hp hn hL
 go_enter Tryz.func141,Tryz.ntmps141
 go_wp2_with fail
 refine HC.out.mono ?_
 rintro e w1 ⟨v',rfl,ho,hb⟩
 clear HC
 go_wp2
 go_ret
 exact⟨_,rfl,ho,hb⟩
set_option maxRecDepth 100000 in
set_option maxHeartbeats 1000000 in
theorem map4_any{B n:Nat}(p box sg:Nat)(w:World){nb:Nat→Nat}{v:Nat→Value}{lab:Nat→NodeD}{G:Wd}(h:DomAt B w n nb v lab G)(hG:WOk n G)(hn:n≤600)(hp:p<n)(cb:w.cell? ⟨box,0,none⟩=some (.int .i64 4))(cs:w.cell? ⟨sg,0,none⟩=some (.pointer (some ⟨nb p,0,none⟩))):
  Calls Tryz.prog 140 #[.slice (some ⟨sg,0,none⟩) 1 1,.func (.func 141) #[] #[.pointer (some ⟨box,0,none⟩)]] w (OwnPtrsPost ((G.kids p).map nb) w):=by
 have hc:=clo4_any p box 0 w h hG hn hp cb
 obtain⟨L,hL⟩:∃L,(G.kids p).map nb=L:=⟨_,rfl⟩
 rw [hL]at hc ⊢
 have HC:=Lib.hid hc
 clear hc h hG hp hn hL
 go_enter Tryz.func140,Tryz.ntmps140
 go_wp2_with fail
 refine HC.out.mono ?_
 rintro e w1 ⟨v',rfl,ho,hb⟩
 clear HC
 go_wp2
 go_ret
 exact⟨_,rfl,ho,hb⟩
set_option maxRecDepth 100000 in
set_option maxHeartbeats 1000000 in
theorem get4_any{B n:Nat}(p sg:Nat)(w:World){nb:Nat→Nat}{v:Nat→Value}{lab:Nat→NodeD}{G:Wd}(h:DomAt B w n nb v lab G)(hG:WOk n G)(hn:n≤600)(hp:p<n)(cs:w.cell? ⟨sg,0,none⟩=some (.pointer (some ⟨nb p,0,none⟩))):
  Calls Tryz.prog 130 #[.slice (some ⟨sg,0,none⟩) 1 1,.int .i64 4] w (OwnPtrsPost ((G.kids p).map nb) w):=by
 have hc:=fun w1 (hb:Below w.heap.size w w1) (cb:w1.cell? ⟨w.heap.size,0,none⟩=some (.int .i64 4))=>map4_any p w.heap.size sg w1 (h.below hb) hG hn hp cb (cell_below hb cs)
 obtain⟨L,hL⟩:∃L,(G.kids p).map nb=L:=⟨_,rfl⟩
 rw [hL]at hc ⊢
 have HC:=Lib.hid hc
 have hmf:∀(fn:Fn) (first cap:Array Value) (w:World),(Instr.makeFunc fn first cap).run Tryz.prog w=.ok (.func fn first cap) w:=fun _ _ _ _=>rfl
 clear hc h hG hp hn hL cs
 go_enter Tryz.func130,Tryz.ntmps130
 go_wp2_with fail
 refine(HC.out _ ((Below.refl _ _).alloc (Nat.le_refl _) _) (cell_alloc_new' _ _ _ rfl rfl)).mono ?_
 rintro e w1 ⟨v',rfl,ho,hb⟩
 have hb1:Below w.heap.size w w1:=((Below.refl _ _).alloc (Nat.le_refl _) _).trans (hb.out.mono (by simp))
 have HO:Hid (OwnPtrs w1 w.heap.size v' L):=Lib.hid (ownsRow_base ho.out (by simp))
 have HB:=Lib.hid hb1
 clear HC ho hb hb1
 go_wp2
 go_ret
 exact⟨_,rfl,HO,HB⟩
set_option maxRecDepth 100000 in
set_option maxHeartbeats 1000000 in
theorem contents_any{B n:Nat}(p s sg d:Nat)(w:World){nb:Nat→Nat}{v:Nat→Value}{lab:Nat→NodeD}{G:Wd}(h:DomAt B w n nb v lab G)(hG:WOk n G)(hn:n≤600)(hp:p<n)(c0:w.cell? ⟨s,0,none⟩=some (.slice (some ⟨sg,0,none⟩) 1 1))(c1:w.cell? ⟨s,1,none⟩=some (.pointer (some ⟨d,0,none⟩)))(cs:w.cell? ⟨sg,0,none⟩=some (.pointer (some ⟨nb p,0,none⟩))):
  Calls Tryz.prog 92 #[.pointer (some ⟨s,0,none⟩)] w (SelPost ((G.kids p).map nb) w):=by
 have hc:=get4_any p sg w h hG hn hp cs
 obtain⟨L,hL⟩:∃L,(G.kids p).map nb=L:=⟨_,rfl⟩
 rw [hL]at hc ⊢
 have HC:=Lib.hid hc
 have HD:=Lib.hid c1
 clear hc h hG hp hn hL c1
 go_enter Tryz.func92,Tryz.ntmps92
 go_wp2_with fail
 refine HC.out.mono ?_
 rintro e w1 ⟨v',rfl,ho,hb⟩
 have c1':=cell_below hb.out HD.out
 have c0':=cell_below hb.out c0
 obtain⟨a',cap',hv,_⟩:=ho.out.ptrs.nil
 rw [List.length_map]at hv
 subst hv
 clear HC HD
 go_wp2
 go_ret
 refine⟨w1.heap.size,.slice a' L.length cap',rfl,Lib.hid ⟨?_,⟨d,?_⟩,?_,hb.out.size⟩,Lib.hid ?_⟩
 ·exact cell_alloc_new' _ _ _ (by simp) rfl
 ·exact cell_alloc_new' _ _ _ (by simp) rfl
 ·exact ho.out.alloc _
 ·exact hb.out.alloc hb.out.size _
set_option maxRecDepth 100000 in
set_option maxHeartbeats 2000000 in
theorem each_any{X:Nat→World→Prop}{f:FuncId}{box:Nat}(hf:f=143∨f=145)(s sg scap d:Nat)(ys:List Nat)(w:World)(c0:w.cell? ⟨s,0,none⟩=some (.slice (some ⟨sg,0,none⟩) ys.length scap))(hn:ys.length≤200)(h0:X 0 w)
  (hr:∀i w',X i w'→i<ys.length→w'.cell? ⟨s,1,none⟩=some (.pointer (some ⟨d,0,none⟩))∧w'.cell? ⟨sg,i,none⟩=some (.pointer (some ⟨ys.getD i 0,0,none⟩)))
  (hstep:∀i w1 w2,i<ys.length→X i w1→OneAt w2 (w1.heap.size+1) w1.heap.size (ys.getD i 0) d→Below w1.heap.size w1 w2→Calls Tryz.prog f #[.int .i64 (i:Int),.pointer (some ⟨w1.heap.size+1,0,none⟩),.pointer (some ⟨box,0,none⟩)] w2 (fun e w3=>e=.returned (.tuple #[])∧Hid (X (i+1) w3))):
  Calls Tryz.prog 89 #[.pointer (some ⟨s,0,none⟩),.func (.func f) #[] #[.pointer (some ⟨box,0,none⟩)]] w (fun e w'=>e=.returned (.pointer (some ⟨s,0,none⟩))∧Hid (X ys.length w')):=by
 have H0:=Lib.hid h0
 have HR:=Lib.hid hr
 rcases hf with rfl | rfl
 all_goals
  have HST:=Lib.hid hstep
  clear h0 hr hstep
  go_enter Tryz.func89,Tryz.ntmps89
  go_wp2
  go_loopw [12] (fun iv wr=>∃i:Nat,iv=.int .i64 (i:Int)∧i≤ys.length∧Hid (X i wr)) (fun iv _=>ys.length-(intOf iv).toNat)
  case atStart=>exact⟨0,by go_num,by omega,H0⟩
  case round=>
   obtain⟨i,rfl,hi,HI⟩:=hrel
   by_cases hlt:i<ys.length
   ·obtain⟨cd,ck⟩:=HR.out i wr HI.out hlt
    have hst:=HST.out i wr
    obtain⟨y,hy⟩:∃y,ys.getD i 0=y:=⟨_,rfl⟩
    rw [hy]at ck hst
    have HONE:=Lib.hid (one_any y d wr)
    have HS9:=Lib.hid hst
    have hiI:(i:Int)<(ys.length:Int):=by omega
    clear hy hst
    go_wp2_with fail
    refine HONE.out.mono ?_
    rintro e w1 ⟨rfl,HO1,HB1⟩
    have HC:=Lib.hid (HS9.out w1 hlt HI.out HO1.out HB1.out)
    clear HO1 HB1 HONE ck cd HS9
    go_wp2_with fail
    refine HC.out.mono ?_
    rintro e w2 ⟨rfl,hx⟩
    clear HC HI
    go_wp2
    go_roundw
    case rel=>exact⟨i+1,by go_num,by omega,hx⟩
    case measure=>simp [intOf];omega
   ·obtain rfl:i=ys.length:=by omega
    go_wp2
    go_ret
    exact⟨rfl,HI⟩
theorem wrapG_kids{G:Wd}{m:Nat}{L:List Nat}{w p:Nat}{A:List Nat}{z:Nat}{T:List Nat}{y:Nat}(hy:y<m)(hyp:y≠p)(hT:∀a∈T,a∉G.kids y):(wrapG G m L w p A z T).kids y=G.kids y:=by
 unfold wrapG mv
 simp only [Wd.ins,Wd.off]
 rw [if_neg (by omega)]
 unfold hull
 simp only [Wd.put]
 rw [if_neg hyp,(cp_old L [w] hy).1]
 refine List.filter_eq_self.2 (fun q hq=>?_)
 simp only [Bool.not_eq_true',List.contains_eq_mem,decide_eq_false_iff_not]
 exact fun hm=>hT q hm hq
structure EachInvG (B n:Nat) (w0:World) (nb:Nat→Nat) (F:Wd) (lab0:Nat→NodeD) (wd:Nat) (L:List Nat) (rest:List (List Nat)) (n2:Nat) (lab2:Nat→NodeD) (G2:Wd) (m:Nat) (nbi:Nat→Nat) (vi:Nat→Value) (labi:Nat→NodeD) (Gi:Wd) (wr:World):Prop where
 dom:DomAt B wr m nbi vi labi Gi
 mid:WgMid n F lab0 L rest m labi Gi
 side:WgSide n F wd L rest
 ki:∀i,i<m→((labi i).kind=3↔tyOf (labi i).kind=3)
 fit:∀i,i<m→(labi i).attrs.length≤100
 num:∀i,i<n→nbi i=nb i
 fresh:∀i,n≤i→i<m→w0.heap.size≤nbi i
 only :OnlyG n nb w0 wr
 keep:∀y,y<n→F.kids y∈rest→Gi.kids y=F.kids y
 wraps:∃lab',(∀i,i<m→lab' i=labi i)∧WrapsG wd L n2 lab2 G2 rest m lab' Gi
def EachG(B n:Nat)(w0:World)(nb:Nat→Nat)(F:Wd)(lab0:Nat→NodeD)(wd:Nat)(L:List Nat)(n2:Nat)(lab2:Nat→NodeD)(G2:Wd)(rest:List (List Nat))(wr:World):Prop:=∃m nbi vi labi Gi,EachInvG B n w0 nb F lab0 wd L rest n2 lab2 G2 m nbi vi labi Gi wr
theorem EachInvG.start{B n:Nat}{w:World}{nb:Nat→Nat}{v:Nat→Value}{lab:Nat→NodeD}{F:Wd}(h:DomAt B w n nb v lab F){wd:Nat}{L:List Nat}{gs:List (List Nat)}{n2:Nat}{lab2:Nat→NodeD}{G2:Wd}(hs:WgSide n F wd L gs)(hki:∀i,i<n→((lab i).kind=3↔tyOf (lab i).kind=3))(hfit:∀i,i<n→(lab i).attrs.length≤100)(hW:WrapsG wd L n2 lab2 G2 gs n lab F):EachInvG B n w nb F lab wd L gs n2 lab2 G2 n nb v lab F w:=
 ⟨h,⟨hs.ok,Nat.le_refl _,fun _ _ _=>rfl,fun _ _=>rfl,fun _ _=>rfl⟩,hs,hki,hfit,fun _ _=>rfl,fun i h1 h2=>by omega,OnlyG.refl _ _ _,fun _ _ _=>rfl,lab,fun _ _=>rfl,hW⟩
theorem EachG.start{B n:Nat}{w:World}{nb:Nat→Nat}{v:Nat→Value}{lab:Nat→NodeD}{F:Wd}(h:DomAt B w n nb v lab F){wd:Nat}{L:List Nat}{gs:List (List Nat)}{n2:Nat}{lab2:Nat→NodeD}{G2:Wd}(hs:WgSide n F wd L gs)(hki:∀i,i<n→((lab i).kind=3↔tyOf (lab i).kind=3))(hfit:∀i,i<n→(lab i).attrs.length≤100)(hW:WrapsG wd L n2 lab2 G2 gs n lab F):EachG B n w nb F lab wd L n2 lab2 G2 gs w:=⟨n,nb,v,lab,F,.start h hs hki hfit hW⟩
theorem EachG.fin{B n:Nat}{w0:World}{nb:Nat→Nat}{F:Wd}{lab0:Nat→NodeD}{wd:Nat}{L:List Nat}{n2:Nat}{lab2:Nat→NodeD}{G2:Wd}{wr:World}(h:EachG B n w0 nb F lab0 wd L n2 lab2 G2 [] wr):MoveP none B n nb n2 lab2 G2 w0 wr:=by
 obtain⟨m,nbi,vi,labi,Gi,h1⟩:=h
 obtain⟨lab',hl,hw⟩:=h1.wraps
 cases hw with
 | nil hm hlb hG=>
  subst hm hG
  exact⟨nbi,vi,Lib.hid (h1.dom.relab fun i hi=>(hlb i hi).trans (hl i hi)),Lib.hid h1.mid.ok,Lib.hid ⟨h1.num,h1.fresh⟩,Lib.hid h1.mid.le,w0,Lib.hid (OnlyRow.refl _ _),Lib.hid h1.only⟩
theorem EachInvG.below{B n:Nat}{w0:World}{nb:Nat→Nat}{F:Wd}{lab0:Nat→NodeD}{wd:Nat}{L:List Nat}{rest:List (List Nat)}{n2:Nat}{lab2:Nat→NodeD}{G2:Wd}{m:Nat}{nbi:Nat→Nat}{vi:Nat→Value}{labi:Nat→NodeD}{Gi:Wd}{wr w':World}(h:EachInvG B n w0 nb F lab0 wd L rest n2 lab2 G2 m nbi vi labi Gi wr)(hb:Below wr.heap.size wr w'):EachInvG B n w0 nb F lab0 wd L rest n2 lab2 G2 m nbi vi labi Gi w':=
 ⟨h.dom.below hb,h.mid,h.side,h.ki,h.fit,h.num,h.fresh,h.only.of_below hb,h.keep,h.wraps⟩
theorem EachInvG.call{B n:Nat}{w0:World}{nb:Nat→Nat}{F:Wd}{lab0:Nat→NodeD}{wd:Nat}{L:List Nat}{g:List Nat}{gs:List (List Nat)}{n2:Nat}{lab2:Nat→NodeD}{G2:Wd}{m:Nat}{nbi:Nat→Nat}{vi:Nat→Value}{labi:Nat→NodeD}{Gi:Wd}{wr:World}(h:EachInvG B n w0 nb F lab0 wd L (g::gs) n2 lab2 G2 m nbi vi labi Gi wr)
  (hL:Fl F.kids [wd] L) (hkw:(lab0 wd).kind=3) (hB:B≤w0.heap.size) (hm6:g.length≤600) {s S:Nat} {sv:Value} (hs:SelAt wr s sv (g.map nbi) S):
  Calls Tryz.prog 94 #[.pointer (some ⟨s,0,none⟩),.pointer (some ⟨nb wd,0,none⟩)] wr (fun e w'=>e=.returned (.pointer (some ⟨s,0,none⟩))∧Hid (EachG B n w0 nb F lab0 wd L n2 lab2 G2 gs w')):=by
 obtain⟨lab',hl,hw⟩:=h.wraps
 cases hw with
 | @cons x p z _ r _ _ lab1 _ A Bk hu hk hz hap h1 h2 h3=>
  have hc:=h.mid.cp h.side.cp
  have hsub:∀a∈L,∀b∈Gi.kids a,b∈L:=fun a ha b hb=>(hc.sub a ha b hb).1
  have hwL:=hc.ws wd (by simp)
  have hz2:=hz.congr (lab':=labi) (G':=Gi) hsub (fun _ _=>rfl) (fun a ha=>(hl a (hc.lt a ha)).symm) hwL
  have hzL:=hz2.mem hsub hwL z rfl
  have hle:=h.mid.le
  have hwn:=h.side.cp.lt wd (h.side.cp.ws wd (by simp))
  have hfl:Fl Gi.kids [wd] L:=hL.congr (fun y hy=>by first | exact h.mid.tree y hy | exact(h.mid.tree y hy).symm)
  obtain⟨hxn,hxL,q,hq,hqL⟩:=h.side.yin x (by simp)
  have hpq:p=q:=by
   have :=h.mid.up x hxn (.inl (by simp))
   rw [hu,hq]at this
   exact Option.some.inj this
  have hpL:p∉L:=by rw [hpq];exact hqL
  have hndf:=h.side.nd
  rw [List.flatten_cons,List.nodup_append]at hndf
  have hin:∀y∈x::r,y<m∧y∉L:=fun y hy=>by
   have :=h.side.yin y (by rw [List.flatten_cons];exact List.mem_append_left _ hy)
   exact⟨by omega,this.2.1⟩
  have hcall:=wrapAllG_any h.dom h.mid.ok h.ki hs hc hfl hu hk hz2 hpL hndf.1 hin hap (by rw [h.mid.lab wd hwn];exact hkw) hm6 h.fit (Nat.le_trans hB h.only.size)
  rw [h.num wd hwn]at hcall
  refine hcall.mono ?_
  rintro e w' ⟨nb3,v3,lab3,rfl,hn3,hd3,ho3⟩
  obtain⟨ho,hnew,hnl⟩:=hn3.out
  refine⟨rfl,Lib.hid ⟨m+L.length,nb3,v3,lab3,wrapG Gi m L wd p A z (x::r),?_⟩⟩
  have hstep:=h.mid.step h.side hu hk hzL (lab':=lab3) hap (fun i hi=>(ho i hi).2)
  have hlabs:∀i,i<m+L.length→lab1 i=lab3 i:=fun i hi=>by
   by_cases e:i<m
   ·rw [h1 i e,hl i e,(ho i e).2]
   ·have a1:=h2 (i-m) (by omega)
    have a2:=hnl (i-m) (by omega)
    rw [show m+(i-m)=i by omega]at a1 a2
    rw [a1,a2]
    exact hl _ (hc.lt _ (getD_mem' (by omega)))
  have hlab:∀P:NodeD→Prop,(∀i,i<m→P (labi i))→∀i,i<m+L.length→P (lab3 i):=fun P hP i hi=>by
   by_cases e:i<m
   ·rw [(ho i e).2];exact hP i e
   ·have a2:=hnl (i-m) (by omega)
    rw [show m+(i-m)=i by omega]at a2
    rw [a2]
    exact hP _ (hc.lt _ (getD_mem' (by omega)))
  refine⟨hd3.out,hstep.2.1,hstep.2.2,hlab (fun A=>A.kind=3↔tyOf A.kind=3) h.ki,hlab (fun A=>A.attrs.length≤100) h.fit,fun i hi=>((ho i (by omega)).1).trans (h.num i hi),fun i hi hi2=>?_,h.only.turnG ho3.out (fun i hi=>h.num i hi) h.fresh,fun y hy hm=>?_,lab1,hlabs,h3⟩
  ·by_cases e:i<m
   ·rw [(ho i e).1];exact h.fresh i hi e
   ·exact Nat.le_trans h.only.size (hnew i (by omega) hi2)
  ·have hky:=h.keep y hy (List.mem_cons_of_mem _ hm)
   have hno:∀a∈x::r,a∉F.kids y:=fun a ha ha2=>hndf.2.2 a ha a (List.mem_flatten.2 ⟨_,hm,ha2⟩) rfl
   rw [wrapG_kids (by omega) (fun e=>?_) (fun a ha=>by rw [hky];exact hno a ha)]
   ·exact hky
   ·refine hno x (by simp) ?_
    rw [e,hpq]
    exact(h.side.ok.iff q x).2 hq
end Go.Proofs.YtkdomegcacgpnaaGreat
