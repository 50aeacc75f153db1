/- Parts of a proof: AppendChild, ImplRight, GrowAll. -/
import Derived.Test.YtkdomegcacgpnaaGreatG00
import Derived.Test.YtkdomegcacgpnaaGreatG03
import Derived.Test.YtkdomegcacgpnaaGreatG04
import Derived.StillTailTactics
import Derived.Deep.OwnRows
set_option linter.unusedVariables false
set_option linter.unusedSimpArgs false
namespace Go.Proofs.YtkdomegcacgpnaaGreat
open Go.RowKit
set_option maxHeartbeats 400000 in
theorem appendChild_first(n c:Nat)(rn rc:NRec)(w:World)(hn:World.nodeAt w n rn)(hc:World.nodeAt w c rc)(hne:n≠c)
  (hl:rn.lst=none) (h0:rc.par=none) (h3:rc.prv=none) (h4:rc.nxt=none):
  Calls Tryz.prog 82 #[.pointer (some ⟨n,0,none⟩),.pointer (some ⟨c,0,none⟩)] w fun e w'=>e=.returned (.tuple #[])∧
   World.putN (World.putN w n {rn with fst:=some c,lst:=some c}) c {rc with par:=some n}=w':=by
 have c0:=hc.par
 have c3:=hc.prv
 have c4:=hc.nxt
 have c2:=hn.lst
 have c1:=hn.fst
 rw [h0]at c0
 rw [h3]at c3
 rw [h4]at c4
 rw [hl]at c2
 obtain⟨v,hv⟩:∃v,w.cell? ⟨n,1,none⟩=some v:=⟨_,c1⟩
 have fc:=hc.free
 have fn:=hn.free
 have fin:(((w.setCell ⟨n,1,none⟩ (.pointer (some ⟨c,0,none⟩))).setCell ⟨n,2,none⟩ (.pointer (some ⟨c,0,none⟩))).setCell ⟨c,0,none⟩ (.pointer (some ⟨n,0,none⟩))).setCell ⟨c,3,none⟩ (.pointer none)=
   World.putN (World.putN w n {rn with fst:=some c,lst:=some c}) c {rc with par:=some n}:=by
  rw [←lk_some c,←lk_some n,←lk_none,setCell_fst hn,setCell_lst (hn.put _),World.putN_putN,
   setCell_par (hc.other _ (Ne.symm hne)),setCell_prv ((hc.other _ (Ne.symm hne)).put _),World.putN_putN,←h3]
 have FIN:=Lib.hid fin
 clear c1 fin hn hc h0 h3 h4 hl hne
 simp only [lk_none]at c0 c2 c3 c4
 go_enter Tryz.func82,Tryz.ntmps82
 go_wp2
 go_end0
 exact⟨rfl,FIN.out.symm⟩
set_option maxHeartbeats 400000 in
theorem appendChild_later(n c l:Nat)(rn rc rl:NRec)(w:World)(hn:World.nodeAt w n rn)(hc:World.nodeAt w c rc)(hlr:World.nodeAt w l rl)(hne:n≠c)(hln:l≠n)(hlc:l≠c)
  (hl:rn.lst=some l) (h0:rc.par=none) (h3:rc.prv=none) (h4:rc.nxt=none):
  Calls Tryz.prog 82 #[.pointer (some ⟨n,0,none⟩),.pointer (some ⟨c,0,none⟩)] w fun e w'=>e=.returned (.tuple #[])∧
   World.putN (World.putN (World.putN w l {rl with nxt:=some c}) n {rn with lst:=some c}) c {rc with par:=some n,prv:=some l}=w':=by
 have c0:=hc.par
 have c3:=hc.prv
 have c4:=hc.nxt
 have c2:=hn.lst
 have d4:=hlr.nxt
 rw [h0]at c0
 rw [h3]at c3
 rw [h4]at c4
 rw [hl]at c2
 obtain⟨v,hv⟩:∃v,w.cell? ⟨l,4,none⟩=some v:=⟨_,d4⟩
 have fc:=hc.free
 have fn:=hn.free
 have fl:=hlr.free
 have fin:(((w.setCell ⟨l,4,none⟩ (.pointer (some ⟨c,0,none⟩))).setCell ⟨n,2,none⟩ (.pointer (some ⟨c,0,none⟩))).setCell ⟨c,0,none⟩ (.pointer (some ⟨n,0,none⟩))).setCell ⟨c,3,none⟩ (.pointer (some ⟨l,0,none⟩))=
   World.putN (World.putN (World.putN w l {rl with nxt:=some c}) n {rn with lst:=some c}) c {rc with par:=some n,prv:=some l}:=by
  rw [←lk_some c,←lk_some n,←lk_some l,setCell_nxt hlr,setCell_lst (hn.other _ (Ne.symm hln)),
   setCell_par ((hc.other _ (Ne.symm hlc)).other _ (Ne.symm hne)),setCell_prv (((hc.other _ (Ne.symm hlc)).other _ (Ne.symm hne)).put _),World.putN_putN]
 have FIN:=Lib.hid fin
 have hcl:(⟨c,4,none⟩:Addr)≠⟨l,4,none⟩:=by simp [Ne.symm hlc]
 clear d4 fin hn hc hlr h0 h3 h4 hl
 simp only [lk_none,lk_some]at c0 c2 c3 c4
 go_enter Tryz.func82,Tryz.ntmps82
 go_wp2
 go_end0
 exact⟨rfl,FIN.out.symm⟩
theorem RightT.kinds{ts:List NodeD}{len:Nat}(h:RightT ts len){j:Nat}(hj:j<len)(h0:0<j):
  ((ts.getD j default).kind=3)∨(((ts.getD j default).kind=2∨(ts.getD j default).kind=4∨(ts.getD j default).kind=5)∧sz ts j=1):=by
 rcases(h.node j hj).kinds with ⟨_,h1⟩ | h1 | h1 | h1 | h1
 ·omega
 ·exact .inr ⟨.inl h1.1,h1.2⟩
 ·exact .inl h1
 ·exact .inr ⟨.inr (.inl h1.1),h1.2⟩
 ·exact .inr ⟨.inr (.inr h1.1),h1.2⟩
set_option maxRecDepth 100000 in
set_option maxHeartbeats 2000000 in
theorem ifits_any(a:Option Addr)(len cap:Nat)(ts:List NodeD)(hR:RightT ts len)(m:Nat):∀(at_ to:Nat) (w:World),Nodes w a len ts→to-at_≤m→1≤at_→at_≤to→to≤len→(∀j,at_≤j→j<to→j+sz ts j≤to)→
  Calls Tryz.prog 116 #[.slice a len cap,.int .i64 at_,.int .i64 to] w (YesB w):=by
 have hlen:=hR.le
 have HR:=Lib.hid hR
 clear hR
 induction m with
 | zero=>
  intro at_ to w h hm h1 hat hto hin
  obtain rfl:at_=to:=by omega
  clear h
  go_enter Tryz.func116,Tryz.ntmps116
  go_wp2
  go_loop [1] (fun i=>i=.int .i64 at_) (fun _=>0)
  case atStart=>rfl
  case round=>
   subst hrel
   go_wp2
   go_ret
   exact⟨rfl,Below.refl _ _⟩
 | succ m ih=>
  intro at_ to w h hm h1 hat hto hin
  have HN:=Lib.hid h
  have HI:=Lib.hid hin
  have IH:=Lib.hid ih
  clear h hin ih
  go_enter Tryz.func116,Tryz.ntmps116
  go_wp2
  go_loopw [1] (fun i wr=>∃k:Nat,at_≤k∧k≤to∧i=.int .i64 k∧Below w.heap.size w wr) (fun i _=>to-(intOf i).toNat)
  case atStart=>exact⟨at_,Nat.le_refl _,hat,rfl,Below.refl _ _⟩
  case round=>
   obtain⟨k,hk1,hk2,rfl,hbel⟩:=hrel
   have HB:=Lib.hid hbel
   have HN1:=Lib.hid (HN.out.below hbel)
   clear hbel
   by_cases hlt:k<to
   ·obtain⟨b,off,rfl,hc⟩:=HN1.out.at (by omega)
    have c:=hc k (by omega)
    have c0:=c.kind
    have c1:=c.tag
    have c2:=c.text
    have c3:=c.attrs
    have c4:=c.size
    have hz:=(HR.out.sizes k (by omega)).2.1
    have hz1:=(HR.out.sizes k (by omega)).1
    have hz2:=HI.out k hk1 hlt
    have hkind:=HR.out.kinds (j:=k) (by omega) (by omega)
    have hsub:∀j,k+1≤j→j<k+sz ts k→j+sz ts j≤k+sz ts k:=fun j h1 h2=>(HR.out.sizes k (by omega)).2.2 j (by omega) h2
    have hcall:=fun(o:Obj)=>IH.out (k+1) (k+sz ts k) (wr.alloc o) (HN1.out.below ((Below.refl _ _).alloc (Nat.le_refl _) o)) (by omega) (by omega) (by omega) (by omega) hsub
    rw [hz]at c4
    have HC:=Lib.hid hcall
    clear c hc hz hsub hcall
    generalize (ts.getD k default).kind=q at c0 hkind
    generalize (ts.getD k default).tag=tag at c1
    generalize (ts.getD k default).text=text at c2
    generalize (ts.getD k default).aa=aa at c3
    generalize (ts.getD k default).al=al at c3
    generalize (ts.getD k default).ac=ac at c3
    generalize sz ts k=z at *
    have hcall:=HC.out
    rw [show(((k+1:Nat):Int))=(k:Int)+1 from by omega,show(((k+z:Nat):Int))=(k:Int)+(z:Int) from by omega]at hcall
    have HC2:=Lib.hid hcall
    clear HC hcall
    have g1:decide ((z:Int)<1)=false:=by simp;omega
    have g2:decide ((to:Int)-(k:Int)<(z:Int))=false:=by simp;omega
    have g3:decide (q≤(1:Int))=false:=by simp;omega
    have g4:decide ((5:Int)<q)=false:=by simp;omega
    rcases hkind with rfl | ⟨hq,rfl⟩
    ·go_wp2_with fail
     refine(HC2.out _).mono ?_
     rintro e w2 ⟨rfl,hb2⟩
     have hb3:Below w.heap.size w w2:=(HB.out.alloc HB.out.size _).trans (hb2.mono (by have :=HB.out.size;simp;omega))
     have hw2:wr.heap.size<w2.heap.size:=by have :=hb2.size;simp at this;omega
     have hcz:w2.cell? ⟨wr.heap.size,4,none⟩=some (.int .i64 (z:Int)):=(hb2.cell (p:=⟨wr.heap.size,4,none⟩) (by simp)).trans (by simp)
     have HB3:=Lib.hid hb3
     clear hb2 hb3
     go_wp2
     go_roundw
     case rel=>exact⟨k+z,by omega,by omega,by go_num,HB3.out⟩
     case measure=>simp [intOf];omega
    ·have g2':decide ((to:Int)-(k:Int)<(1:Int))=false:=by simp;omega
     have hcall:=HC2.out
     rw [show(((1:Nat):Int))=1 from rfl]at hcall c4
     have HC3:=Lib.hid hcall
     clear hcall g2 g1 HC2
     rcases hq with rfl | rfl | rfl
     all_goals
      go_wp2_with fail
      refine(HC3.out _).mono ?_
      rintro e w2 ⟨rfl,hb2⟩
      have hb3:Below w.heap.size w w2:=(HB.out.alloc HB.out.size _).trans (hb2.mono (by have :=HB.out.size;simp;omega))
      have hw2:wr.heap.size<w2.heap.size:=by have :=hb2.size;simp at this;omega
      have hcz:w2.cell? ⟨wr.heap.size,4,none⟩=some (.int .i64 1):=(hb2.cell (p:=⟨wr.heap.size,4,none⟩) (by simp)).trans (by simp)
      have HB3:=Lib.hid hb3
      clear hb2 hb3
      go_wp2
      go_roundw
      case rel=>exact⟨k+1,by omega,by omega,by go_num,HB3.out⟩
      case measure=>simp [intOf];omega
   ·go_wp2
    go_ret
    exact⟨rfl,HB.out⟩
set_option maxRecDepth 100000 in
theorem iright_any(a:Option Addr)(len cap:Nat)(ts:List NodeD)(hR:RightT ts len)(w:World)(h:Nodes w a len ts):
  Calls Tryz.prog 65 #[.slice a len cap] w (YesB w):=by
 have hlen:=hR.le
 have hpos:=hR.pos
 have hcall:=ifits_any a len cap ts hR len 1 len w h (by omega) (Nat.le_refl _) (by omega) (Nat.le_refl _) (fun j h1 h2=>hR.nest.fit j h2)
 obtain⟨b,off,rfl,hc⟩:=h.at hpos
 have c0:=(hc 0 hpos).kind
 have c4:=(hc 0 hpos).size
 rw [(hR.sizes 0 hpos).2.1,hR.root]at c4
 rw [show(ts.getD 0 default).kind=1 from hR.kind]at c0
 rw [Nat.zero_mul,Nat.add_zero]at c0 c4
 have g0:((len:Int)==0)=false:=by simp;omega
 have HC:=Lib.hid hcall
 clear hc h hR hcall
 go_enter Tryz.func65,Tryz.ntmps65
 go_wp2_with fail
 refine HC.out.mono ?_
 rintro e w2 ⟨rfl,hb2⟩
 have HB:=Lib.hid hb2
 clear hb2
 go_wp2
 go_ret
 exact⟨rfl,HB.out⟩
structure Rowed (w w':World) (bl lo hi:Nat) (nb:Nat→Nat):Prop where
 row:∃arr arr',w.heap[bl]? =some (.cells arr 75 (0,0))∧w'.heap[bl]? =some (.cells arr' 75 (0,0))∧arr'.size=arr.size∧
  (∀i,lo≤i→i<hi→arr'[i]? =some (lk (some (nb i))))∧(∀i,¬(lo≤i∧i<hi)→arr'[i]? =arr[i]?)
theorem Rowed.cell{w w':World}{bl lo hi:Nat}{nb:Nat→Nat}(h:Rowed w w' bl lo hi nb){i:Nat}(h1:lo≤i)(h2:i<hi):w'.cell? ⟨bl,i,none⟩=some (.pointer (some ⟨nb i,0,none⟩)):=by
 obtain⟨arr,arr',a,b,c,d,e⟩:=h.row
 simp [World.cell?,b,d i h1 h2]
theorem Rowed.free{w w':World}{bl lo hi:Nat}{nb:Nat→Nat}(h:Rowed w w' bl lo hi nb)(o:Nat):w'.frozen? ⟨bl,o,none⟩=false:=by
 obtain⟨arr,arr',a,b,c,d,e⟩:=h.row
 simp [World.frozen?,b]
structure Grew (ts:List NodeD) (bl lo:Nat) (nb nb':Nat→Nat) (v v':Nat→Value) (w w':World):Prop where
 seg:Seg w' (fun i=>i+sz ts i) lo (lo+sz ts lo) nb' v' ts w.heap.size
 rowed:Rowed w w' bl lo (lo+sz ts lo) nb'
 grown:w.grownBy w' (some bl)
 sameN:∀i,¬(lo≤i∧i<lo+sz ts lo)→nb' i=nb i
 sameV:∀i,¬(lo≤i∧i<lo+sz ts lo)→v' i=v i
def GrowPost(ts:List NodeD)(bl lo:Nat)(nb:Nat→Nat)(v:Nat→Value)(w:World)(e:Ending)(w':World):Prop:=
 e=.returned (.tuple #[])∧∃nb' v',Grew ts bl lo nb nb' v v' w w'
structure Mid (ts:List NodeD) (bl lo k:Nat) (nb nb':Nat→Nat) (v v':Nat→Value) (w wr:World):Prop where
 seg:Seg wr (Ez (sz ts) lo k) lo k nb' v' ts w.heap.size
 rowed:Rowed w wr bl lo k nb'
 grown:w.grownBy wr (some bl)
 sameN:∀i,¬(lo≤i∧i<k)→nb' i=nb i
 sameV:∀i,¬(lo≤i∧i<k)→v' i=v i
theorem grownBy_trans{w w1 w2:World}{row:Option Nat}(h:w.grownBy w1 row)(h':w1.grownBy w2 row):w.grownBy w2 row:=
 ⟨h'.os.trans h.os,h'.tape.trans h.tape,h'.output.trans h.output,Nat.le_trans h.size h'.size,fun k hk hne=>(h'.block k (Nat.lt_of_lt_of_le hk h.size) hne).trans (h.block k hk hne)⟩
theorem mid_start{ts:List NodeD}{bl lo:Nat}{nb:Nat→Nat}{v:Nat→Value}{w w1:World}{g:Nat}{av:Value}{arr:Array Value}
  (hb:w.heap[bl]? =some (.cells arr 75 (0,0))) (hlo:lo<arr.size)
  (hn:World.nodeAt w1 g (aloneR (ts.getD lo default) av)) (ho:w1.ownsRow (g+1) 119 3 av (ts.getD lo default).attrs.length (attrCells (ts.getD lo default).attrs))
  (hg:w.heap.size≤g) (hbel:Below w.heap.size w w1):
  Mid ts bl lo (lo+1) nb (fun i=>if i=lo then g else nb i) v (fun i=>if i=lo then av else v i) w (w1.setCell ⟨bl,lo,none⟩ (.pointer (some ⟨g,0,none⟩))):=by
 have hbl:bl<w.heap.size:=(Array.getElem?_eq_some_iff.1 hb).1
 have hb1:w1.heap[bl]? =some (.cells arr 75 (0,0)):=(hbel.block bl hbl).trans hb
 have hP:Part (Ez (sz ts) lo (lo+1)) lo (lo+1):=by
  refine⟨by omega,by simp [Ez],fun i a b=>?_,fun i j a b c d=>?_⟩
  ·obtain rfl:i=lo:=by omega
   simp [Ez]
  ·obtain rfl:i=lo:=by omega
   simp only [Ez,if_true]at d
   obtain rfl:j=i:=by omega
   exact Nat.le_refl _
 have hrest:∀k,k≠bl→(w1.setCell ⟨bl,lo,none⟩ (.pointer (some ⟨g,0,none⟩))).heap[k]? =w1.heap[k]? :=fun k hk=>Below.heap_setCell _ _ _ _ hk
 have hgbl:g≠bl:=by omega
 refine⟨⟨fun i a b=>?_,fun i a b=>?_,fun i a b=>?_,fun i j a b c d _=>by omega,fun i j a b c d e=>by omega⟩,⟨arr,arr.setIfInBounds lo (.pointer (some ⟨g,0,none⟩)),hb,?_,by simp,fun i a b=>?_,fun i h=>?_⟩,?_,fun i h=>?_,fun i h=>?_⟩
 ·obtain rfl:i=lo:=by omega
  simp only [if_true]
  have e:nodeR (Ez (sz ts) i (i+1)) i (fun j=>if j=i then g else nb j) (ts.getD i default) av i=aloneR (ts.getD i default) av:=by
   unfold nodeR aloneR
   rw [up_lo (Nat.le_refl _),prvK_lo,nxtK_lo,hP.lst_none (by simp [Ez])]
   simp [fstK,Ez]
  rw [e]
  unfold World.nodeAt at *
  rw [hrest g hgbl];exact hn
 ·obtain rfl:i=lo:=by omega
  simp only [if_true]
  refine ownsRow_base (B:=g+1) ?_ (by omega)
  refine ownsRow_kept ho (fun b hb'=>hrest b ?_)
  have :=(World.ownsRow.lt ho b hb').1
  omega
 ·obtain rfl:i=lo:=by omega
  simp only [if_true];exact hg
 ·simp [World.setCell,Array.getElem?_modify,hb1]
 ·obtain rfl:i=lo:=by omega
  simp [hlo]
 ·rw [Array.getElem?_setIfInBounds_ne (by omega)]
 ·refine⟨hbel.os,hbel.tape,hbel.output,by simp;exact hbel.size,fun k hk hne=>?_⟩
  rw [hrest k (fun e=>hne (by rw [e]))]
  exact hbel.block k hk
 ·have :i≠lo:=by omega
  simp [this]
 ·have :i≠lo:=by omega
  simp [this]
theorem Seg.drew{w:World}{E:Nat→Nat}{lo hi:Nat}{nb:Nat→Nat}{v:Nat→Value}{ts:List NodeD}{B:Nat}(h:Seg w E lo hi nb v ts B):Seg w.drew E lo hi nb v ts B:=
 ⟨h.node,h.own,h.base,h.inj,h.sep⟩
theorem mid_pre{ts:List NodeD}{len bl lo k:Nat}{nb nb' nb2:Nat→Nat}{v v' v2:Nat→Value}{w wr w2:World}(hz:Nest (sz ts) len)(h1:lo<k)(h2:k<len)(hin:∀j,lo<j→j<k→j+sz ts j≤k)
  (hm:Mid ts bl lo k nb nb' v v' w wr) (hg:Grew ts bl k nb' nb2 v' v2 wr w2):
  Seg w2 (Ez (sz ts) lo k) lo k nb2 v2 ts w.heap.size∧Ahead w2 lo k nb2 v2 wr.heap.size∧w2.cell? ⟨bl,lo,none⟩=some (.pointer (some ⟨nb2 lo,0,none⟩))∧w2.cell? ⟨bl,k,none⟩=some (.pointer (some ⟨nb2 k,0,none⟩))∧Rowed w w2 bl lo (k+sz ts k) nb2:=by
 have hp:=part_of hz h1 (by omega) hin
 have hkk:=hz.pos k h2
 obtain⟨arr,arr1,ra,rb,rc,rd,re⟩:=hm.rowed.row
 obtain⟨brr,brr1,sa,sb,sc,sd,se⟩:=hg.rowed.row
 rw [rb]at sa
 simp at sa
 subst sa
 have hsame:∀j,lo≤j→j<k→nb' j=nb2 j:=fun j a b=>(hg.sameN j (by omega)).symm
 have hsv:∀j,lo≤j→j<k→v' j=v2 j:=fun j a b=>(hg.sameV j (by omega)).symm
 refine⟨(hm.seg.grown hg.grown rb (by decide) (by decide)).congr hp hsame hsv,⟨fun i a b=>?_,fun i a b x hx=>?_⟩,?_,hg.rowed.cell (Nat.le_refl _) (by omega),⟨arr,brr1,ra,sb,by rw [sc,rc],fun i a b=>?_,fun i h=>?_⟩⟩
 ·rw [←hsame i a b];exact World.nodeAt.lt (hm.seg.node i a b)
 ·rw [←hsv i a b]at hx;exact(World.ownsRow.lt (hm.seg.own i a b) x hx).2
 ·have :brr1[lo]? =some (lk (some (nb2 lo))):=by rw [se lo (by omega),rd lo (Nat.le_refl _) h1,hsame lo (Nat.le_refl _) h1]
  simp [World.cell?,sb,this]
 ·by_cases hik:i<k
  ·rw [se i (by omega),rd i a hik,hsame i a hik]
  ·exact sd i (by omega) b
 ·rw [se i (by omega),re i (by omega)]
theorem mid_post{ts:List NodeD}{bl lo k:Nat}{nb nb' nb2:Nat→Nat}{v v' v2:Nat→Value}{w wr w2 w3:World}(h1:lo<k)(hkk:1≤sz ts k)
  (hm:Mid ts bl lo k nb nb' v v' w wr) (hg:Grew ts bl k nb' nb2 v' v2 wr w2) (hs:Seg w3 (Ez (sz ts) lo (k+sz ts k)) lo (k+sz ts k) nb2 v2 ts w.heap.size) (hr:Rowed w w2 bl lo (k+sz ts k) nb2)
  (ho:w3.os=w2.os) (ht:w3.tape=w2.tape) (hout:w3.output=w2.output) (hsz:w3.heap.size=w2.heap.size) (hb:∀b,(∀i,lo≤i→i<k+sz ts k→b≠nb2 i)→w3.heap[b]? =w2.heap[b]?) (hbl:∀i,lo≤i→i<k+sz ts k→bl≠nb2 i):
  Mid ts bl lo (k+sz ts k) nb nb2 v v2 w w3:=by
 have hgg:=grownBy_trans hm.grown hg.grown
 refine⟨hs,?_,?_,fun i h=>?_,fun i h=>?_⟩
 ·obtain⟨arr,brr1,ra,sb,r⟩:=hr.row
  exact⟨arr,brr1,ra,by rw [hb bl hbl];exact sb,r⟩
 ·refine⟨ho.trans hgg.os,ht.trans hgg.tape,hout.trans hgg.output,by rw [hsz];exact hgg.size,fun b hlt hne=>?_⟩
  rw [hb b (fun i a c e=>by have :=hs.base i a c;omega)]
  exact hgg.block b hlt hne
 ·rw [hg.sameN i (by omega),hm.sameN i (by omega)]
 ·rw [hg.sameV i (by omega),hm.sameV i (by omega)]
theorem grow_append{ts:List NodeD}{len bl lo k:Nat}{nb nb' nb2:Nat→Nat}{v v' v2:Nat→Value}{w wr w2:World}(hz:Nest (sz ts) len)(h1:lo<k)(h2:k<len)(hin:∀j,lo<j→j<k→j+sz ts j≤k)
  (hm:Mid ts bl lo k nb nb' v v' w wr) (hg:Grew ts bl k nb' nb2 v' v2 wr w2):
  Calls Tryz.prog 82 #[.pointer (some ⟨nb2 lo,0,none⟩),.pointer (some ⟨nb2 k,0,none⟩)] w2.drew fun e w3=>e=.returned (.tuple #[])∧
   Hid (Mid ts bl lo (k+sz ts k) nb nb2 v v2 w w3):=by
 obtain⟨p1,p2,_,_,p5⟩:=mid_pre hz h1 h2 hin hm hg
 have J:=join_of hz h1 h2 hin
 have hkk:=hz.pos k h2
 have hF:Seg w2.drew (fun i=>i+sz ts i) k (k+sz ts k) nb2 v2 ts wr.heap.size:=hg.seg.drew
 have hA:Ahead w2.drew lo k nb2 v2 wr.heap.size:=⟨p2.node,p2.own⟩
 have hB:w.heap.size≤wr.heap.size:=hm.grown.size
 have hall:∀i,lo≤i→i<k+sz ts k→∃r,World.nodeAt w2 (nb2 i) r:=fun i a b=>by
  by_cases h:i<k
  ·exact⟨_,p1.node i a h⟩
  ·exact⟨_,hg.seg.node i (by omega) b⟩
 have hbl:∀i,lo≤i→i<k+sz ts k→bl≠nb2 i:=fun i a b e=>by
  obtain⟨r,hr⟩:=hall i a b
  obtain⟨arr,arr1,_,hb,_⟩:=p5.row
  unfold World.nodeAt at hr
  rw [e,hr]at hb
  simp [NRec.obj]at hb
 have hbase:=(seg_join_props J p1.drew hF hB hA).2.1
 have nlo:=p1.drew.node lo (Nat.le_refl _) h1
 have nk:=hF.node k (Nat.le_refl _) (by omega)
 have hne:nb2 lo≠nb2 k:=fun e=>by have :=hbase lo k (Nat.le_refl _) (by omega) (by omega) (by omega) e;omega
 by_cases hk:k=lo+1
 ·have hs:=seg_join0 J hk p1.drew hF hB hA
  refine(appendChild_first _ _ _ _ _ nlo nk hne (by simp [nodeR,J.p1.lst_none (i:=lo) (by rw [J.p1.root];omega)]) (by simp [nodeR,up_lo (Nat.le_refl _)]) (by simp [nodeR,prvK_lo]) (by simp [nodeR,nxtK_lo])).mono ?_
  rintro e w3 ⟨rfl,hw⟩
  rw [hw]at hs
  refine⟨rfl,Lib.hid (mid_post h1 hkk hm hg hs p5 (by rw [←hw];rfl) (by rw [←hw];rfl) (by rw [←hw];rfl) (by rw [←hw,World.size_putN,World.size_putN];rfl) (fun b hb=>?_) hbl)⟩
  rw [←hw,World.heap_putN_other _ (hb k (by omega) (by omega)),World.heap_putN_other _ (hb lo (by omega) (by omega))]
  rfl
 ·obtain⟨l,hl⟩:=J.p1.lst_some (i:=lo) (Nat.le_refl _) (by rw [J.p1.root];omega)
  obtain⟨la,lb,lc,ld⟩:=J.p1.lst_end (Nat.le_refl _) J.p1.lt hl
  rw [J.p1.root]at lb ld
  have hs:=seg_join J hl p1.drew hF hB hA
  have nl:=p1.drew.node l (by omega) lb
  have h2ne:nb2 l≠nb2 lo:=fun e=>by have :=hbase l lo (by omega) (by omega) (Nat.le_refl _) (by omega) e;omega
  have h3ne:nb2 l≠nb2 k:=fun e=>by have :=hbase l k (by omega) (by omega) (by omega) (by omega) e;omega
  refine(appendChild_later _ _ _ _ _ _ _ nlo nk nl hne h2ne h3ne (by simp [nodeR,hl]) (by simp [nodeR,up_lo (Nat.le_refl _)]) (by simp [nodeR,prvK_lo]) (by simp [nodeR,nxtK_lo])).mono ?_
  rintro e w3 ⟨rfl,hw⟩
  rw [hw]at hs
  refine⟨rfl,Lib.hid (mid_post h1 hkk hm hg hs p5 (by rw [←hw];rfl) (by rw [←hw];rfl) (by rw [←hw];rfl) (by rw [←hw,World.size_putN,World.size_putN,World.size_putN];rfl) (fun b hb=>?_) hbl)⟩
  rw [←hw,World.heap_putN_other _ (hb k (by omega) (by omega)),World.heap_putN_other _ (hb lo (by omega) (by omega)),World.heap_putN_other _ (hb l (by omega) (by omega))]
  rfl
theorem mid_end{ts:List NodeD}{bl lo:Nat}{nb nb':Nat→Nat}{v v':Nat→Value}{w wr:World}(hm:Mid ts bl lo (lo+sz ts lo) nb nb' v v' w wr):Grew ts bl lo nb nb' v v' w wr:=
 ⟨by rw [←Ez_full];exact hm.seg,hm.rowed,hm.grown,hm.sameN,hm.sameV⟩
set_option maxRecDepth 100000 in
set_option maxHeartbeats 2000000 in
theorem grow_any(W:World)(a:Option Addr)(len cap:Nat)(ts:List NodeD)(hR:RightT ts len)(hNW:Nodes W a len ts)(bl lcap:Nat)(hbl:W.heap.size≤bl)(m:Nat):
  ∀(lo:Nat) (nb:Nat→Nat) (v:Nat→Value) (w:World) (arr:Array Value),sz ts lo≤m→lo<len→Below W.heap.size W w→w.heap[bl]? =some (.cells arr 75 (0,0))→arr.size=len→
  Calls Tryz.prog 66 #[.slice a len cap,.int .i64 lo,.slice (some ⟨bl,0,none⟩) len lcap] w (GrowPost ts bl lo nb v w):=by
 have hlen:=hR.le
 have HR:=Lib.hid hR
 have HNW:=Lib.hid hNW
 clear hR hNW
 induction m with
 | zero=>
  intro lo nb v w arr hm hlo
  have :=(HR.out.sizes lo hlo).1
  omega
 | succ m ih=>
  intro lo nb v w arr hm hlo hbel hb harr
  have IH:=Lib.hid ih
  have HB:=Lib.hid hbel
  have HBL:=Lib.hid hb
  have hz1:=(HR.out.sizes lo hlo).1
  have hzf:=HR.out.nest.fit lo hlo
  have hsz:bl<w.heap.size:=(Array.getElem?_eq_some_iff.1 hb).1
  have hN:=HNW.out.below hbel
  obtain⟨b,off,rfl,hc⟩:=hN.at (by omega)
  have c:=hc lo hlo
  have hok:=HR.out.node lo hlo
  have hz:=(HR.out.sizes lo hlo).2.1
  have hms:=fun(w1:World) (g:Nat) (av:Value)=>mid_start (ts:=ts) (bl:=bl) (lo:=lo) (nb:=nb) (v:=v) (w:=w) (w1:=w1) (g:=g) (av:=av) (arr:=arr) hb (by omega)
  have hc4:∀(w':World),Below W.heap.size W w'→∀j,j<len→w'.cell? ⟨b,off+j*5+4,none⟩=some (.int .i64 (sz ts j:Int)):=fun w' hw' j hj=>by
   obtain⟨b',off',hbo,hcc⟩:=(HNW.out.below hw').at (by omega)
   simp only [Option.some.injEq,Addr.mk.injEq]at hbo
   obtain⟨rfl,rfl,_⟩:=hbo
   rw [(hcc j hj).size,(HR.out.sizes j hj).2.1]
  obtain⟨n,hn⟩:∃n,ts.getD lo default=n:=⟨_,rfl⟩
  rw [hn]at c hok hms hz
  have halone:=alone_any n _ lo w hok c.at_
  have c0:=c.kind
  have c1:=c.tag
  have c2:=c.text
  have c3:=c.attrs
  have c4:=c.size
  have HAL:=Lib.hid halone
  have HN:=Lib.hid hN
  have HMS:=Lib.hid hms
  have HC4:=Lib.hid hc4
  have HNN:=Lib.hid hn
  clear hok halone c hc hb hbel ih hN hn hz hms hc4
  go_enter Tryz.func66,Tryz.ntmps66
  go_wp2_with fail
  refine HAL.out.mono ?_
  rintro e w1 ⟨g,av,rfl,hnode,hown,hg,hb1⟩
  have hmid:=HMS.out w1 g av hnode hown hg hb1
  have hcl:∃u,w1.cell? ⟨bl,lo,none⟩=some u:=by
   refine⟨arr[lo]'(by omega),?_⟩
   have :w1.heap[bl]? =some (.cells arr 75 (0,0)):=(hb1.block bl hsz).trans HBL.out
   simp [World.cell?,this,show lo<arr.size by omega]
  obtain⟨u,hcl⟩:=hcl
  have hfl:w1.frozen? ⟨bl,lo,none⟩=false:=by
   have :w1.heap[bl]? =some (.cells arr 75 (0,0)):=(hb1.block bl hsz).trans HBL.out
   simp [World.frozen?,this]
  have HMID:=Lib.hid hmid
  clear hmid hnode hown hg hb1 c0 c1 c2 c3 c4 HAL HMS
  go_wp2
  go_loopw [6] (fun i wr=>∃(k:Nat) (nb':Nat→Nat) (v':Nat→Value),i=.int .i64 k∧lo<k∧k≤lo+sz ts lo∧(∀j,lo<j→j<k→j+sz ts j≤k)∧Mid ts bl lo k nb nb' v v' w wr) (fun i _=>lo+sz ts lo-(intOf i).toNat)
  case atStart=>exact⟨lo+1,_,_,by go_num,by omega,by omega,fun j h1 h2=>by omega,HMID.out⟩
  case round=>
   obtain⟨k,nb',v',rfl,hk1,hk2,hin,hmid⟩:=hrel
   have hbelr:Below W.heap.size W wr:=HB.out.grown hmid.grown HB.out.size (fun q hq=>by simp at hq;omega)
   have c0:=HC4.out wr hbelr lo hlo
   have HM:=Lib.hid hmid
   have HBR:=Lib.hid hbelr
   have HIN:=Lib.hid hin
   clear hmid hbelr hin
   by_cases hlt:k<lo+sz ts lo
   ·have hkz1:=(HR.out.sizes k (by omega)).1
    have hkz2:=(HR.out.sizes lo hlo).2.2 k (by omega) hlt
    have ckz:=fun(w':World) (h':Below W.heap.size W w')=>HC4.out w' h' k (by omega)
    obtain⟨arr,arr1,ra,rb,rc,rd,re⟩:=HM.out.rowed.row
    have hcall:=IH.out k nb' v' wr arr1 (by omega) (by omega) HBR.out rb (by rw [rc];have :=HBL.out;rw [ra]at this;simp at this;rw [this];exact harr)
    have HCALL:=Lib.hid hcall
    have HCKZ:=Lib.hid ckz
    clear hcall ckz ra rb rc rd re
    go_wp2_with fail
    refine HCALL.out.mono ?_
    rintro e w2 ⟨rfl,nb2,v2,hgrew⟩
    obtain⟨_,_,p3,p4,_⟩:=mid_pre HR.out.nest hk1 (by omega) HIN.out HM.out hgrew
    have hB2:Below W.heap.size W w2:=HBR.out.grown hgrew.grown HBR.out.size (fun q hq=>by simp at hq;omega)
    have happ:=grow_append HR.out.nest hk1 (by omega) HIN.out HM.out hgrew
    have HAPP:=Lib.hid happ
    have HB2:=Lib.hid hB2
    clear hgrew hB2 HCALL c0 happ
    go_wp2_with fail
    have hloI:(lo:Int)<(len:Int):=by omega
    have hkI:(k:Int)<(len:Int):=by omega
    go_still_tail 8,(by kernel_rfl)
    go_wp2_with fail
    refine HAPP.out.mono ?_
    rintro e w3 ⟨rfl,HM3⟩
    have hB3:Below W.heap.size W w3:=HB.out.grown HM3.out.grown HB.out.size (fun q hq=>by simp at hq;omega)
    have c4:=HCKZ.out w3 hB3
    have HB3:=Lib.hid hB3
    clear hB3 p3 p4 HAPP
    go_wp2
    go_roundw
    ·exact⟨k+sz ts k,nb2,v2,by go_num,by omega,by omega,fun j h1 h2=>by
      rcases Nat.lt_trichotomy j k with h | rfl | h
      ·have :=HIN.out j h1 h;omega
      ·exact Nat.le_refl _
      ·exact HR.out.nest.lam k j (by omega) (by omega) (by omega),HM3.out⟩
    ·simp only [intOf];omega
   ·obtain rfl:k=lo+sz ts lo:=by omega
    have hend:=mid_end HM.out
    have HE:=Lib.hid hend
    clear hend HM HIN
    go_wp2
    go_end0
    exact⟨rfl,nb',v',HE.out⟩
end Go.Proofs.YtkdomegcacgpnaaGreat
namespace Go.Proofs.YtkdomegcacgpnaaGreat
open Go.RowKit
theorem Seg.weaken{w:World}{E:Nat→Nat}{lo hi:Nat}{nb:Nat→Nat}{v:Nat→Value}{ts:List NodeD}{B B':Nat}(h:Seg w E lo hi nb v ts B)(hB:B'≤B):Seg w E lo hi nb v ts B':=
 ⟨h.node,fun i a b=>ownsRow_base (h.own i a b) hB,fun i a b=>Nat.le_trans hB (h.base i a b),h.inj,h.sep⟩
structure Forest (B:Nat) (w:World) (bl len:Nat) (nb:Nat→Nat) (v:Nat→Value) (ts:List NodeD):Prop where
 seg:Seg w (fun i=>i+sz ts i) 0 len nb v ts B
 base:B≤bl
 row:∃arr,w.heap[bl]? =some (.cells arr 75 (0,0))∧arr.size=len∧∀i,i<len→arr[i]? =some (lk (some (nb i)))
theorem Forest.cell{B:Nat}{w:World}{bl len:Nat}{nb:Nat→Nat}{v:Nat→Value}{ts:List NodeD}(h:Forest B w bl len nb v ts){i:Nat}(hi:i<len):w.cell? ⟨bl,i,none⟩=some (.pointer (some ⟨nb i,0,none⟩)):=by
 obtain⟨arr,a,b,c⟩:=h.row
 simp [World.cell?,a,c i hi]
theorem Forest.node{B:Nat}{w:World}{bl len:Nat}{nb:Nat→Nat}{v:Nat→Value}{ts:List NodeD}(h:Forest B w bl len nb v ts){i:Nat}(hi:i<len):World.nodeAt w (nb i) (nodeR (fun i=>i+sz ts i) 0 nb (ts.getD i default) (v i) i):=h.seg.node i (Nat.zero_le _) hi
theorem Forest.below{B:Nat}{w w':World}{bl len:Nat}{nb:Nat→Nat}{v:Nat→Value}{ts:List NodeD}(h:Forest B w bl len nb v ts)(hb:Below w.heap.size w w'):Forest B w' bl len nb v ts:=by
 obtain⟨arr,a,b,c⟩:=h.row
 have ha:∀k,k<w.heap.size→w'.heap[k]? =w.heap[k]? :=hb.block
 refine⟨⟨fun i x y=>?_,fun i x y=>?_,h.seg.base,h.seg.inj,h.seg.sep⟩,h.base,arr,?_,b,c⟩
 ·have hn:=h.seg.node i x y
  have hl:=hn.lt
  unfold World.nodeAt at hn ⊢
  rw [ha _ hl];exact hn
 ·refine ownsRow_kept (h.seg.own i x y) (fun k hk=>ha k ?_)
  exact(World.ownsRow.lt (h.seg.own i x y) k hk).2
 ·rw [ha bl (Array.getElem?_eq_some_iff.1 a).1];exact a
def GrownPost(ts:List NodeD)(len:Nat)(W:World)(e:Ending)(w:World):Prop:=
 ∃bl nb v,e=.returned (.tuple #[.slice (some ⟨bl,0,none⟩) len len,.bool true])∧Hid (Forest W.heap.size w bl len nb v ts)∧Hid (Below W.heap.size W w)
theorem made_info:(Tryz.prog.info? 75).map (fun i=>(i.zero,i.size,i.bytes))=some (some (.pointer none),1,8):=by kernel_rfl
theorem grown_make(n:Nat)(hn:n≤200)(w:World):(Instr.makeSlice 48 (.int .i64 (n:Int)) (.int .i64 (n:Int))).run Tryz.prog w=.ok (.slice (some ⟨w.heap.size,0,none⟩) n n) (w.alloc (.cells (madeCells #[.pointer none] n) 75)):=
 run_make_row' 48 75 (.pointer none) 8 Tryz.underlying48 made_info rfl .i64 .i64 n (by omega) (by omega) w
set_option maxRecDepth 100000 in
set_option maxHeartbeats 1000000 in
theorem grown_any(W:World)(a:Option Addr)(len cap:Nat)(ts:List NodeD)(hR:RightT ts len)(h:Nodes W a len ts):
  Calls Tryz.prog 30 #[.slice a len cap] W (GrownPost ts len W):=by
 have hlen:=hR.le
 have hpos:=hR.pos
 have hyes:=iright_any a len cap ts hR W h
 have hgrow:∀(w1:World),Below W.heap.size W w1→Calls Tryz.prog 66 #[.slice a len cap,.int .i64 0,.slice (some ⟨w1.heap.size,0,none⟩) len len] (w1.alloc (.cells (madeCells #[.pointer none] len) 75))
   (GrowPost ts w1.heap.size 0 (fun _=>0) (fun _=>.pointer none) (w1.alloc (.cells (madeCells #[.pointer none] len) 75))):=fun w1 hb=>
  grow_any W a len cap ts hR h w1.heap.size len hb.size len 0 _ _ _ _ (by rw [hR.root];exact Nat.le_refl _) hpos (hb.alloc hb.size _) (heap_alloc_new _ _) (size_madeCells _ _)
 have hmk:=fun w=>grown_make len hlen w
 have HR:=Lib.hid hR
 have HY:=Lib.hid hyes
 have HG:=Lib.hid hgrow
 clear hR hyes hgrow h
 go_enter Tryz.func30,Tryz.ntmps30
 go_wp2_with fail
 refine HY.out.mono ?_
 rintro e w1 ⟨rfl,hb1⟩
 have hcall:=HG.out w1 hb1
 have HC:=Lib.hid hcall
 have HB:=Lib.hid hb1
 clear hcall hb1 HG HY
 go_wp2_with fail
 refine HC.out.mono ?_
 rintro e w2 ⟨rfl,nb,v,hgrew⟩
 have hfin:Forest W.heap.size w2 w1.heap.size len nb v ts∧Below W.heap.size W w2:=by
  have hbs:=HB.out.size
  have hr:=HR.out.root
  have hseg:=hgrew.seg
  rw [hr,Nat.zero_add]at hseg
  refine⟨⟨hseg.weaken (by simp;omega),hbs,?_⟩,?_⟩
  ·obtain⟨arr,arr',r1,r2,r3,r4,r5⟩:=hgrew.rowed.row
   rw [heap_alloc_new]at r1
   simp only [Option.some.injEq,Obj.cells.injEq]at r1
   refine⟨arr',r2,?_,fun i hi=>r4 i (Nat.zero_le _) (by rw [hr];omega)⟩
   rw [r3,←r1.1];exact size_madeCells _ _
  ·exact(HB.out.alloc hbs _).grown hgrew.grown (by simp;omega) (fun q hq=>by simp at hq;omega)
 have HF:=Lib.hid hfin.1
 have HB2:=Lib.hid hfin.2
 clear hfin hgrew HB HC
 go_wp2
 go_ret2
 exact⟨w1.heap.size,nb,v,rfl,HF,HB2⟩
end Go.Proofs.YtkdomegcacgpnaaGreat
