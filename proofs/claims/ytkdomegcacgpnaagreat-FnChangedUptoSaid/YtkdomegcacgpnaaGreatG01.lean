/- Parts of a proof: PtrAll. -/
import Derived.Test.YtkdomegcacgpnaaGreatG00
import Derived.LaidEqlPtr
import Derived.BigGuardPart
set_option linter.unusedVariables false
set_option linter.unusedSimpArgs false
namespace Go.Proofs.YtkdomegcacgpnaaGreat
open Go.RowKit
theorem Tryz.infoPtr:(Tryz.prog.info? 75).map (fun i=>(i.zero,i.size,i.bytes))=some (some (.pointer none),1,8):=by kernel_rfl
def ptrV(b:Nat):Value:=.pointer (some ⟨b,0,none⟩)
def intV(n:Nat):Value:=.int .i64 (n:Int)
def ReadsAs(w:World)(v:Value)(vs:List Value):Prop:=∃a cap,v=.slice a vs.length cap∧vs.length≤cap∧cap≤maxLen∧Row w a vs.length vs
def OwnPtrs(w:World)(B:Nat)(v:Value)(l:List Nat):Prop:=w.ownsRow B 75 1 v l.length (l.map ptrV)
def PtrsOf(w:World)(v:Value)(l:List Nat):Prop:=ReadsAs w v (l.map ptrV)
theorem ReadsAs.below{w w':World}{v:Value}{l:List Value}(h:ReadsAs w v l)(hb:Below w.heap.size w w'):ReadsAs w' v l:=by
 obtain⟨a,cap,h1,h2,h3,h4⟩:=h
 exact⟨a,cap,h1,h2,h3,h4.below hb⟩
theorem owns_reads{w:World}{B:Nat}{v:Value}{t:TypeId}{l:List Value}(h:w.ownsRow B t 1 v l.length l):ReadsAs w v l:=by
 rcases h.2 with ⟨rfl,h0⟩ | ⟨g,cap,cur,rfl,hb,hg,hn,hm,hcs,ht⟩
 ·have :l=[]:=List.eq_nil_of_length_eq_zero h0
  subst this
  exact⟨none,0,rfl,Nat.le_refl _,Nat.zero_le _,rfl,Nat.zero_le _,fun h=>absurd h (Nat.lt_irrefl 0)⟩
 ·refine⟨_,cap,rfl,hn,hm,by simp,by omega,fun hl=>⟨g,0,rfl,fun i hi=>?_⟩⟩
  have :=h.cells (g:=g) rfl i (l.getD i undef) (by rw [List.getD_eq_getElem?_getD];simp [hi])
  have hadd:(⟨g,0,none⟩:Addr).add i=⟨g,0+i,none⟩:=by unfold Addr.add;split <;> simp_all
  rw [hadd]at this
  exact this
theorem OwnPtrs.ptrs{w:World}{B:Nat}{v:Value}{l:List Nat}(h:OwnPtrs w B v l):PtrsOf w v l:=by
 have :=owns_reads (l:=l.map ptrV) (by simpa [OwnPtrs]using h)
 exact this
theorem ownPtrs_snoc{w1:World}{B:Nat}{v':Value}{done:List Nat}{k:Nat}(h:w1.ownsRow B 75 1 v' (done.length+1) (List.map ptrV done++[ptrV k])):OwnPtrs w1 B v' (done++[k]):=by
 unfold OwnPtrs
 simpa using h
theorem ReadsAs.at{w:World}{v:Value}{vs:List Value}(h:ReadsAs w v vs)(h0:0<vs.length):∃b off cap,v=.slice (some ⟨b,off,none⟩) vs.length cap∧vs.length≤9223372036854775807∧∀i,i<vs.length→w.cell? ⟨b,off+i,none⟩=some (vs.getD i undef):=by
 obtain⟨a,cap,rfl,h2,h3,h4,h5,h6⟩:=h
 obtain⟨b,off,rfl,hc⟩:=h6 h0
 exact⟨b,off,cap,rfl,h5,hc⟩
theorem ReadsAs.nil{w:World}{v:Value}{vs:List Value}(h:ReadsAs w v vs):∃a cap,v=.slice a vs.length cap∧vs.length≤9223372036854775807:=by
 obtain⟨a,cap,rfl,h2,h3,h4,h5,h6⟩:=h
 exact⟨a,cap,rfl,h5⟩
theorem ptr_cells{l:List Nat}{w:World}{b off:Nat}(h:∀i,i<(l.map ptrV).length→w.cell? ⟨b,off+i,none⟩=some ((l.map ptrV).getD i undef)):∀i,i<l.length→w.cell? ⟨b,off+i,none⟩=some (.pointer (some ⟨l.getD i 0,0,none⟩)):=fun i hi=>by
 rw [h i (by simpa using hi)]
 simp [List.getD,hi,ptrV]
theorem int_cells{l:List Nat}{w:World}{b off:Nat}(h:∀i,i<(l.map intV).length→w.cell? ⟨b,off+i,none⟩=some ((l.map intV).getD i undef)):∀i,i<l.length→w.cell? ⟨b,off+i,none⟩=some (.int .i64 ((l.getD i 0:Nat):Int)):=fun i hi=>by
 rw [h i (by simpa using hi)]
 simp [List.getD,hi,intV]
def Alive(w:World)(b:Nat):Prop:=∃c t,w.heap[b]? =some (.cells c t (0,0))
theorem World.nodeAt.alive{w:World}{b:Nat}{r:NRec}(h:World.nodeAt w b r):Alive w b:=⟨_,_,h⟩
theorem Alive.lt{w:World}{b:Nat}(h:Alive w b):b<w.heap.size:=by obtain⟨c,t,h⟩:=h;exact(Array.getElem?_eq_some_iff.1 h).1
theorem Alive.below{w w':World}{b:Nat}(h:Alive w b)(hb:Below w.heap.size w w'):Alive w' b:=by
 have hl:=h.lt
 obtain⟨c,t,h⟩:=h
 exact⟨c,t,(hb.block b hl).trans h⟩
theorem Tryz.node_info:∃j,Tryz.prog.info? 117=some j∧j.size≠0:=by
 have h:(Tryz.prog.info? 117).map (fun i=>decide (i.size≠0))=some true:=by kernel_rfl
 obtain⟨i,hi,hz⟩:=Option.map_eq_some_iff.1 h
 exact⟨i,hi,of_decide_eq_true hz⟩
theorem eql_same(w:World)(b:Nat):(binOp .eql 75 (.pointer (some ⟨b,0,none⟩)) (.pointer (some ⟨b,0,none⟩))).run Tryz.prog w=.ok (.bool true) w:=by
 obtain⟨j,hj,_⟩:=Tryz.node_info
 exact run_eql_ptr_same w _ Tryz.underlying75 hj
theorem eql_other{w:World}{a b:Nat}(ha:Alive w a)(hb:Alive w b)(hne:a≠b):(binOp .eql 75 (.pointer (some ⟨a,0,none⟩)) (.pointer (some ⟨b,0,none⟩))).run Tryz.prog w=.ok (.bool false) w:=by
 obtain⟨j,hj,hz⟩:=Tryz.node_info
 obtain⟨ca,ta,ha⟩:=ha
 obtain⟨cb,tb,hb⟩:=hb
 exact run_eql_ptr_other w Tryz.underlying75 hj hz (by simp [hne]) ha hb
def findAt(l:List Nat)(b:Nat):Nat→Int
 | 0=> -1
 | f+1=>if l.getD (l.length-(f+1)) 0=b then((l.length-(f+1):Nat):Int)else findAt l b f
def findI(l:List Nat)(b:Nat):Int:=findAt l b l.length
theorem findAt_step{l:List Nat}{b k:Nat}(hk:k<l.length):findAt l b (l.length-k)=if l.getD k 0=b then(k:Int)else findAt l b (l.length-(k+1)):=by
 obtain⟨f,hf⟩:∃f,l.length-k=f+1:=⟨l.length-k-1,by omega⟩
 have h1:l.length-(f+1)=k:=by omega
 have h2:l.length-(k+1)=f:=by omega
 rw [hf,h2]
 simp only [findAt,h1]
theorem findAt_is{l:List Nat}{b:Nat}:∀f,f≤l.length→(findAt l b f= -1∧∀i,l.length-f≤i→i<l.length→l.getD i 0≠b)∨(∃k:Nat,findAt l b f=(k:Int)∧l.length-f≤k∧k<l.length∧l.getD k 0=b):=by
 intro f
 induction f with
 | zero=>intro _;exact .inl ⟨rfl,fun i a b=>by omega⟩
 | succ f ih=>
  intro hf
  simp only [findAt]
  split
  ·rename_i h
   exact .inr ⟨_,rfl,Nat.le_refl _,by omega,h⟩
  ·rename_i h
   rcases ih (by omega)with ⟨h1,h2⟩ | ⟨k,h1,h2,h3,h4⟩
   ·refine .inl ⟨h1,fun i a b=>?_⟩
    by_cases e:i=l.length-(f+1)
    ·subst e;exact h
    ·exact h2 i (by omega) b
   ·exact .inr ⟨k,h1,by omega,h3,h4⟩
theorem findI_none{l:List Nat}{b:Nat}(h:b∉l):findI l b= -1:=by
 rcases findAt_is (l:=l) (b:=b) l.length (Nat.le_refl _)with ⟨h1,_⟩ | ⟨k,_,_,h3,h4⟩
 ·exact h1
 ·exact absurd (h4▸getD_mem' h3) h
theorem findI_some{l:List Nat}{b k:Nat}(hk:k<l.length)(he:l.getD k 0=b)(hn:∀i,i<l.length→l.getD i 0=b→i=k):findI l b=(k:Int):=by
 rcases findAt_is (l:=l) (b:=b) l.length (Nat.le_refl _)with ⟨h1,h2⟩ | ⟨j,h1,_,h3,h4⟩
 ·exact absurd he (h2 k (by omega) hk)
 ·unfold findI;rw [h1,hn j h3 h4]
def IntPost(i:Int)(w:World)(e:Ending)(w':World):Prop:=e=.returned (.int .i64 i)∧w=w'
set_option maxRecDepth 100000 in
set_option maxHeartbeats 1000000 in
theorem index_any(v:Value)(l:List Nat)(p:Nat)(w:World)(h:PtrsOf w v l)(hal:∀i,i<l.length→Alive w (l.getD i 0))(hp:Alive w p):
  Calls Tryz.prog 119 #[v,.pointer (some ⟨p,0,none⟩)] w (IntPost (findI l p) w):=by
 obtain⟨a,cap,rfl,hm⟩:=h.nil
 have hl:(l.map ptrV).length=l.length:=by simp
 rw [hl]at hm h ⊢
 have hcell:∃b off,(0<l.length→a=some ⟨b,off,none⟩)∧∀i,i<l.length→w.cell? ⟨b,off+i,none⟩=some (.pointer (some ⟨l.getD i 0,0,none⟩)):=by
  by_cases h0:0<l.length
  ·obtain⟨b,off,cap',he,_,hc⟩:=h.at (by simpa using h0)
   simp at he
   exact⟨b,off,fun _=>he.1,ptr_cells hc⟩
  ·exact⟨0,0,fun h=>absurd h h0,fun i hi=>by omega⟩
 obtain⟨b,off,ha,hc⟩:=hcell
 have HA:=Lib.hid ha
 have HC:=Lib.hid hc
 have HAL:=Lib.hid hal
 have HP:=Lib.hid hp
 clear h hl ha hc hal hp
 go_enter Tryz.func119,Tryz.ntmps119
 go_wp2
 go_loop [11] (fun i=>∃k:Nat,k≤l.length∧i=.int .i64 (k:Int)∧findAt l p (l.length-k)=findI l p) (fun i=>l.length-(intOf i).toNat)
 case atStart=>exact⟨0,by omega,by go_num,rfl⟩
 case round=>
  obtain⟨k,hk,rfl,hf⟩:=hrel
  have HF:=Lib.hid hf
  clear hf
  by_cases hlt:k<l.length
  ·have hcur:=HC.out k hlt
   obtain rfl:=HA.out (by omega)
   by_cases he:l.getD k 0=p
   ·rw [he]at hcur
    have heq:=eql_same w p
    go_wp2
    go_ret
    have :=HF.out
    rw [findAt_step hlt,if_pos he]at this
    rw [←this]
    exact⟨rfl,rfl⟩
   ·obtain⟨x,hx⟩:∃x,l.getD k 0=x:=⟨_,rfl⟩
    rw [hx]at hcur he
    have heq:=eql_other (by rw [←hx];exact HAL.out k hlt) HP.out he
    have HX:=Lib.hid hx
    clear hx
    go_wp2
    go_round
    case rel=>exact⟨k+1,by omega,by go_num,by
      have :=HF.out
      rw [findAt_step hlt,HX.out,if_neg he]at this
      exact this⟩
    case measure=>simp [intOf];omega
  ·obtain rfl:k=l.length:=by omega
   have hf:=HF.out
   go_wp2
   go_ret
   simp only [Nat.sub_self,findAt]at hf
   rw [←hf]
   exact⟨rfl,rfl⟩
end Go.Proofs.YtkdomegcacgpnaaGreat
namespace Go.Proofs.YtkdomegcacgpnaaGreat
open Go.RowKit
theorem take_snoc{l:List Nat}{k:Nat}(h:k<l.length):l.take (k+1)=l.take k++[l.getD k 0]:=by
 rw [List.take_add_one,List.getD_eq_getElem?_getD,List.getElem?_eq_getElem h]
 rfl
def ThesePost(l:List Nat)(w:World)(e:Ending)(w':World):Prop:=∃v,e=.returned (.tuple #[v,.bool true])∧Hid (OwnPtrs w' w.heap.size v l)∧Hid (Below w.heap.size w w')
set_option maxRecDepth 100000 in
set_option maxHeartbeats 1000000 in
theorem these_any(bl len lcap:Nat)(nb:Nat→Nat)(v:Value)(l:List Nat)(w:World)(hrow:∀i,i<len→w.cell? ⟨bl,i,none⟩=some (.pointer (some ⟨nb i,0,none⟩)))(hlen:len≤200)(h:ReadsAs w v (l.map intV))(hin:∀i∈l,i<len)(hn:l.length≤200):
  Calls Tryz.prog 17 #[.slice (some ⟨bl,0,none⟩) len lcap,v] w (ThesePost (l.map nb) w):=by
 obtain⟨a,cap,rfl,hm⟩:=h.nil
 have hl:(l.map intV).length=l.length:=by simp
 rw [hl]at hm h ⊢
 have hcell:∃b off,(0<l.length→a=some ⟨b,off,none⟩)∧∀i,i<l.length→w.cell? ⟨b,off+i,none⟩=some (.int .i64 ((l.getD i 0:Nat):Int)):=by
  by_cases h0:0<l.length
  ·obtain⟨b,off,cap',he,_,hc⟩:=h.at (by simpa using h0)
   simp at he
   exact⟨b,off,fun _=>he.1,int_cells hc⟩
  ·exact⟨0,0,fun h=>absurd h h0,fun i hi=>by omega⟩
 obtain⟨b,off,ha,hc⟩:=hcell
 have HA:=Lib.hid ha
 have HC:=Lib.hid hc
 have HR:=Lib.hid hrow
 have HIN:=Lib.hid hin
 clear h hl ha hc hrow hin
 obtain⟨i0,hi,hz0,hz1,hz2⟩:=info_parts Tryz.infoPtr
 go_enter Tryz.func17,Tryz.ntmps17
 go_wp2
 go_loopw [6,11] (fun x i wr=>∃(k:Nat) (done:List Nat),i=.int .i64 k∧k≤l.length∧done.length=k∧(l.take k).map nb=done∧OwnPtrs wr w.heap.size x done∧Below w.heap.size w wr)
  (fun _ i _=>l.length-(intOf i).toNat)
 case atStart=>exact⟨0,[],by go_num,by omega,rfl,rfl,World.ownsRow_nil _ _ _ _,Below.refl _ _⟩
 case round=>
  obtain⟨k,done,rfl,hk,hdl,hdone,hown,hbel⟩:=hrel
  have HDONE:=Lib.hid hdone
  clear hdone
  have HOWN:=Lib.hid hown
  have HBEL:=Lib.hid hbel
  clear hown hbel
  by_cases hlt:k<l.length
  ·obtain rfl:=HA.out (by omega)
   have ck:=cell_below HBEL.out (HC.out k hlt)
   have hx:=HIN.out _ (getD_mem' (d:=0) hlt)
   have cx:=cell_below HBEL.out (HR.out _ hx)
   have htk:=take_snoc hlt
   obtain⟨x,hxx⟩:∃x,l.getD k 0=x:=⟨_,rfl⟩
   rw [hxx]at ck hx cx htk
   have g1:decide ((x:Int)<0)=false:=by simp
   have g2:decide ((len:Int)≤(x:Int))=false:=by simp [hx]
   have hxI:(x:Int)<(len:Int):=by omega
   have hown':wr.ownsRow w.heap.size 75 1 u6 done.length (done.map ptrV):=HOWN.out
   have HTK:=Lib.hid htk
   have HXX:=Lib.hid hxx
   clear htk hxx
   go_wp2_with (at_builtin;refine wpList_append_own _ rfl _ _ 48 rfl w.heap.size 75 i0 (.pointer none) 1 8 Tryz.underlying48 hi hz0 hz1 hz2 rfl (by decide) _ _ _ rfl (hown'.alloc _) ⟨wr.heap.size,0,none⟩ 1 1 [.pointer (some ⟨nb x,0,none⟩)] rfl rfl ?c1 ?c2 ?c3 ?c4 ?c5 ?_)
   case c2=>rfl
   case c3=>unfold maxLen;omega
   case c4=>omega
   case c5=>have :=HBEL.out.size;simp;omega
   intro v' w1 hown2 hgrow _
   have hbel2:Below w.heap.size w w1:=(HBEL.out.alloc HBEL.out.size _).grown hgrow (by have :=HBEL.out.size;simp;omega) (fun q hq=>(World.ownsRow.lt hown' q hq).1)
   rw [←hdl]at hown2
   have hsn:=ownPtrs_snoc (k:=nb x) hown2
   have H1:=Lib.hid (And.intro hsn hbel2)
   clear hown2 hgrow hbel2 hsn hown' ck cx
   go_wp2
   go_roundw
   case rel=>
    exact⟨k+1,done++[nb x],by go_num,by omega,by simp;omega,by rw [HTK.out,List.map_append,HDONE.out];rfl,H1.out.1,H1.out.2⟩
   case measure=>simp [intOf];omega
  ·obtain rfl:k=l.length:=by omega
   have hdone:=HDONE.out
   rw [List.take_length]at hdone
   have HO:Hid (OwnPtrs wr w.heap.size u6 (l.map nb)):=by rw [hdone];exact HOWN
   clear hdone hlt HDONE
   go_wp2
   go_ret2
   exact⟨_,rfl,HO,HBEL⟩
end Go.Proofs.YtkdomegcacgpnaaGreat
namespace Go.Proofs.YtkdomegcacgpnaaGreat
open Go.RowKit
def Once(l:List Nat):Prop:=∀i j,i<l.length→j<l.length→l.getD i 0=l.getD j 0→i=j
theorem Once.notin{l:List Nat}(h:Once l){k:Nat}(hk:k<l.length):l.getD k 0∉l.take k:=by
 intro hm
 obtain⟨i,hi,he⟩:=List.getElem_of_mem hm
 simp at hi
 have h2:l.getD i 0=l.getD k 0:=by
  rw [←he,List.getElem_take]
  rw [List.getD_eq_getElem?_getD,List.getElem?_eq_getElem (by omega)]
  rfl
 have :=h i k (by omega) hk h2
 omega
theorem ptrs_open{w:World}{v:Value}{l:List Nat}(h:PtrsOf w v l):∃a cap b off,v=.slice a l.length cap∧l.length≤9223372036854775807∧(0<l.length→a=some ⟨b,off,none⟩)∧∀i,i<l.length→w.cell? ⟨b,off+i,none⟩=some (.pointer (some ⟨l.getD i 0,0,none⟩)):=by
 obtain⟨a,cap,rfl,hm⟩:=h.nil
 have hl:(l.map ptrV).length=l.length:=by simp
 rw [hl]at hm h ⊢
 by_cases h0:0<l.length
 ·obtain⟨b,off,cap',he,_,hc⟩:=h.at (by simpa using h0)
  simp at he
  exact⟨a,cap,b,off,rfl,hm,fun _=>he.1,ptr_cells hc⟩
 ·exact⟨a,cap,0,0,rfl,hm,fun h=>absurd h h0,fun i hi=>by omega⟩
def BoolPost(b:Bool)(w:World)(e:Ending)(w':World):Prop:=e=.returned (.bool b)∧w=w'
theorem isIn_no(v:Value)(l:List Nat)(p:Nat)(w:World)(h:PtrsOf w v l)(hal:∀i,i<l.length→Alive w (l.getD i 0))(hp:Alive w p)(hn:p∉l):
  Calls Tryz.prog 70 #[v,.pointer (some ⟨p,0,none⟩)] w (BoolPost false w):=by
 have hi:=index_any v l p w h hal hp
 rw [findI_none hn]at hi
 have HI:=Lib.hid hi
 clear h hal hp hn hi
 go_enter Tryz.func70,Tryz.ntmps70
 go_wp2_with fail
 refine HI.out.mono ?_
 rintro e w1 ⟨rfl,rfl⟩
 go_wp2
 go_ret
 exact⟨rfl,rfl⟩
theorem map_nil_eql(w:World):(binOp .eql 108 (.map none) (.map none)).run Tryz.prog w=.ok (.bool true) w:=by
 have h:∀d:Nat,(Op.equalIn (d+1) 108 (.map none) (.map none)).run Tryz.prog w=.ok true w:=fun d=>by
  simp [Op.equalIn,run_underlying Tryz.underlying108]
 simp only [binOp]
 simp [Op.equal,Op.maxDepth,h 9999]
def OwnPtrsPost(l:List Nat)(w:World)(e:Ending)(w':World):Prop:=∃v,e=.returned v∧Hid (OwnPtrs w' w.heap.size v l)∧Hid (Below w.heap.size w w')
set_option maxRecDepth 100000 in
set_option maxHeartbeats 1000000 in
theorem noDup_any(v:Value)(l:List Nat)(w:World)(h:PtrsOf w v l)(hal:∀i,i<l.length→Alive w (l.getD i 0))(hon:Once l)(hn:l.length≤200):
  Calls Tryz.prog 34 #[.slice none 0 0,v,.map none] w (OwnPtrsPost l w):=by
 obtain⟨a,cap,b,off,rfl,hm,ha,hc⟩:=ptrs_open h
 have HA:=Lib.hid ha
 have HC:=Lib.hid hc
 have HAL:=Lib.hid hal
 have HON:=Lib.hid hon
 clear h ha hc hal hon
 have g0:decide ((l.length:Int)<1000)=true:=by simp;omega
 have g00:decide ((0:Int)+(l.length:Int)<1000)=true:=by simp;omega
 have hmap:=map_nil_eql w
 obtain⟨i0,hi,hz0,hz1,hz2⟩:=info_parts Tryz.infoPtr
 go_enter Tryz.func34,Tryz.ntmps34
 go_wp2
 go_loopw [0,25] (fun x i wr=>∃(k:Nat) (done:List Nat),i=.int .i64 k∧k≤l.length∧done.length=k∧l.take k=done∧OwnPtrs wr w.heap.size x done∧Below w.heap.size w wr)
  (fun _ i _=>l.length-(intOf i).toNat)
 case atStart=>exact⟨0,[],by go_num,by omega,rfl,rfl,World.ownsRow_nil _ _ _ _,Below.refl _ _⟩
 case round=>
  obtain⟨k,done,rfl,hk,hdl,hdone,hown,hbel⟩:=hrel
  have HDONE:=Lib.hid hdone
  have HOWN:=Lib.hid hown
  have HBEL:=Lib.hid hbel
  clear hdone hown hbel
  by_cases hlt:k<l.length
  ·obtain rfl:=HA.out (by omega)
   have ck:=cell_below HBEL.out (HC.out k hlt)
   have hni:=HON.out.notin hlt
   have hidx:=fun hq=>isIn_no u0 done (l.getD k 0) wr HOWN.out.ptrs (fun i hi=>by
    have hd:=HDONE.out
    have hg:done.getD i 0=l.getD i 0:=by
     rw [←hd,List.getD_eq_getElem?_getD,List.getD_eq_getElem?_getD,List.getElem?_take_of_lt (by omega)]
    rw [hg]
    exact(HAL.out i (by omega)).below HBEL.out) ((HAL.out k hlt).below HBEL.out) hq
   rw [HDONE.out]at hni
   have hidx:=hidx hni
   have htk:=take_snoc hlt
   obtain⟨x,hxx⟩:∃x,l.getD k 0=x:=⟨_,rfl⟩
   rw [hxx]at ck htk hidx
   have hown':wr.ownsRow w.heap.size 75 1 u0 done.length (done.map ptrV):=HOWN.out
   have HTK:=Lib.hid htk
   have HIDX:=Lib.hid hidx
   clear htk hxx hidx hni
   go_wp2_with fail
   refine HIDX.out.mono ?_
   rintro e w1 ⟨rfl,rfl⟩
   go_wp2_with (at_builtin;refine wpList_append_own _ rfl _ _ 48 rfl w.heap.size 75 i0 (.pointer none) 1 8 Tryz.underlying48 hi hz0 hz1 hz2 rfl (by decide) _ _ _ rfl (hown'.alloc _) ⟨wr.heap.size,0,none⟩ 1 1 [.pointer (some ⟨x,0,none⟩)] rfl rfl ?c1 ?c2 ?c3 ?c4 ?c5 ?_)
   case c1=>
    intro j u hj
    match j,hj with
    | 0,hj=>simp at hj;subst hj;simp [Addr.add]
   case c2=>intro u hu;simp at hu;subst hu;rfl
   case c3=>unfold maxLen;omega
   case c4=>omega
   case c5=>have :=HBEL.out.size;simp;omega
   intro v' w1 hown2 hgrow _
   have hbel2:Below w.heap.size w w1:=(HBEL.out.alloc HBEL.out.size _).grown hgrow (by have :=HBEL.out.size;simp;omega) (fun q hq=>(World.ownsRow.lt hown' q hq).1)
   rw [←hdl]at hown2
   have hsn:=ownPtrs_snoc (k:=x) hown2
   have H1:=Lib.hid (And.intro hsn hbel2)
   clear hown2 hgrow hbel2 hsn hown' ck HIDX
   go_wp2
   go_roundw
   case rel=>
    exact⟨k+1,done++[x],by go_num,by omega,by simp;omega,by rw [HTK.out,HDONE.out],H1.out.1,H1.out.2⟩
   case measure=>simp [intOf];omega
  ·obtain rfl:k=l.length:=by omega
   have hdone:=HDONE.out
   rw [List.take_length]at hdone
   have HO:Hid (OwnPtrs wr w.heap.size u0 l):=by rw [hdone];exact HOWN
   clear hdone hlt HDONE
   go_wp2
   go_ret
   exact⟨_,rfl,HO,HBEL⟩
end Go.Proofs.YtkdomegcacgpnaaGreat
