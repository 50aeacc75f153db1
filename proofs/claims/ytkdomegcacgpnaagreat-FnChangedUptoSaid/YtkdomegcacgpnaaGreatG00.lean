/- Parts of a proof: Base, Nodes, Sized, Tree, Kids, Dom. -/
import Derived.Test.YtkdomegcacgpnaaGreatRows
import Derived.WalkKit
import Derived.WalkSpells
import Derived.WalkLawsBesides
import Derived.ProofKit
import Derived.BigQuiet
import Derived.Deep.QuietTactic
import Derived.Lib.Hide
import Derived.BigGuardPart
set_option linter.unusedVariables false
set_option linter.unusedSimpArgs false
namespace Go.Proofs.YtkdomegcacgpnaaGreat
open Go.RowKit
def SomeBool(P:Bool→Prop)(w:World)(e:Ending)(w':World):Prop:=∃b:Bool,P b∧e=.returned (.bool b)∧w=w'
def SomeBoolB(P:Bool→Prop)(w:World)(e:Ending)(w':World):Prop:=∃b:Bool,P b∧e=.returned (.bool b)∧Below w.heap.size w w'
def Row(w:World)(a:Option Addr)(len:Nat)(vs:List Value):Prop:=
 vs.length=len∧len≤maxLen∧(0<len→∃b off,a=some ⟨b,off,none⟩∧∀i,i<len→w.cell? ⟨b,off+i,none⟩=some (vs.getD i undef))
theorem Row.below{w w':World}{a:Option Addr}{len:Nat}{vs:List Value}(h:Row w a len vs)(hb:Below w.heap.size w w'):Row w' a len vs:=by
 obtain⟨h1,h2,h3⟩:=h
 refine⟨h1,h2,fun hl=>?_⟩
 obtain⟨b,off,rfl,hc⟩:=h3 hl
 refine⟨b,off,rfl,fun i hi=>?_⟩
 have :=hc i hi
 exact(hb.cell (p:=⟨b,off+i,none⟩) (World.block_lt_of_cell? _ _ this)).trans this
def Strs(w:World)(a:Option Addr)(len:Nat)(ss:List ByteArray):Prop:=Row w a len (ss.map .string)
theorem Strs.below{w w':World}{a:Option Addr}{len:Nat}{ss:List ByteArray}(h:Strs w a len ss)(hb:Below w.heap.size w w'):Strs w' a len ss:=Row.below h hb
theorem Strs.len{w:World}{a:Option Addr}{len:Nat}{ss:List ByteArray}(h:Strs w a len ss):ss.length=len∧len≤9223372036854775807:=by
 obtain⟨h1,h2,_⟩:=h
 exact⟨by simpa using h1,h2⟩
theorem Strs.at{w:World}{a:Option Addr}{len:Nat}{ss:List ByteArray}(h:Strs w a len ss)(hl:0<len):
  ∃b off,a=some ⟨b,off,none⟩∧∀i,i<len→w.cell? ⟨b,off+i,none⟩=some (.string (ss.getD i ByteArray.empty)):=by
 obtain⟨h1,_,h3⟩:=h
 obtain⟨b,off,rfl,hc⟩:=h3 hl
 refine⟨b,off,rfl,fun i hi=>?_⟩
 rw [hc i hi]
 have h1':ss.length=len:=by simpa using h1
 have hi':i<ss.length:=by omega
 simp [List.getD,hi']
theorem getD_mem'{α:Type}{l:List α}{i:Nat}{d:α}(h:i<l.length):l.getD i d∈l:=by
 rw [List.getD_eq_getElem?_getD,List.getElem?_eq_getElem h]
 exact List.getElem_mem _
theorem cell_alloc_new'(w:World)(c:Array Value)(t:TypeId){k i:Nat}{x:Value}(hk:k=w.heap.size)(h:c[i]? =some x):(w.alloc (.cells c t)).cell? ⟨k,i,none⟩=some x:=by
 subst hk
 have :=heap_alloc_new w (.cells c t)
 simp only [World.cell?,this]
 exact h
theorem cell_alloc_old{w:World}{a:Addr}{x:Value}(h:w.cell? a=some x)(o:Obj):(w.alloc o).cell? a=some x:=by
 have hl:=World.block_lt_of_cell? _ _ h
 rw [World.cell?_of_block (w:=w) (Below.heap_alloc w o _ hl)]
 exact h
def YesB(w:World)(e:Ending)(w':World):Prop:=e=.returned (.bool true)∧Below w.heap.size w w'
structure NodeD where
 kind:Int
 tag:ByteArray
 text:ByteArray
 aa:Option Addr
 al:Nat
 ac:Nat
 attrs:List (ByteArray×ByteArray)
 size:Int
instance:Inhabited NodeD:=⟨⟨0,ByteArray.empty,ByteArray.empty,none,0,0,[],0⟩⟩
def AttrsAt(w:World)(a:Option Addr)(len:Nat)(l:List (ByteArray×ByteArray)):Prop:=
 l.length=len∧len≤maxLen∧(∀x∈l,x.1.size≤maxLen∧x.2.size≤maxLen)∧
 (0<len→∃b off,a=some ⟨b,off,none⟩∧∀i,i<len→w.cell? ⟨b,off+i*2,none⟩=some (.string (l.getD i default).1)∧w.cell? ⟨b,off+i*2+1,none⟩=some (.string (l.getD i default).2))
theorem AttrsAt.below{w w':World}{a:Option Addr}{len:Nat}{l:List (ByteArray×ByteArray)}(h:AttrsAt w a len l)(hb:Below w.heap.size w w'):AttrsAt w' a len l:=by
 obtain⟨h1,h2,h3,h4⟩:=h
 refine⟨h1,h2,h3,fun hl=>?_⟩
 obtain⟨b,off,rfl,hc⟩:=h4 hl
 refine⟨b,off,rfl,fun i hi=>?_⟩
 obtain⟨c1,c2⟩:=hc i hi
 exact⟨(hb.cell (p:=⟨b,_,none⟩) (World.block_lt_of_cell? _ _ c1)).trans c1,(hb.cell (p:=⟨b,_,none⟩) (World.block_lt_of_cell? _ _ c2)).trans c2⟩
structure NodeCells (w:World) (b o:Nat) (n:NodeD):Prop where
 kind:w.cell? ⟨b,o,none⟩=some (.int .i64 n.kind)
 tag:w.cell? ⟨b,o+1,none⟩=some (.string n.tag)
 text:w.cell? ⟨b,o+2,none⟩=some (.string n.text)
 attrs:w.cell? ⟨b,o+3,none⟩=some (.slice n.aa n.al n.ac)
 size:w.cell? ⟨b,o+4,none⟩=some (.int .i64 n.size)
 at_:AttrsAt w n.aa n.al n.attrs
 wk: -9223372036854775808≤n.kind∧n.kind≤9223372036854775807
 ws: -9223372036854775808≤n.size∧n.size≤9223372036854775807
 wt:n.tag.size≤maxLen∧n.text.size≤maxLen
theorem cell_below{w w':World}(hb:Below w.heap.size w w'){p:Addr}{v:Value}(h:w.cell? p=some v):w'.cell? p=some v:=
 (hb.cell (p:=p) (World.block_lt_of_cell? _ _ h)).trans h
theorem NodeCells.below{w w':World}{b o:Nat}{n:NodeD}(h:NodeCells w b o n)(hb:Below w.heap.size w w'):NodeCells w' b o n:=
 ⟨cell_below hb h.kind,cell_below hb h.tag,cell_below hb h.text,cell_below hb h.attrs,cell_below hb h.size,h.at_.below hb,h.wk,h.ws,h.wt⟩
def Nodes(w:World)(a:Option Addr)(len:Nat)(ts:List NodeD):Prop:=
 ts.length=len∧len≤maxLen∧(0<len→∃b off,a=some ⟨b,off,none⟩∧∀i,i<len→NodeCells w b (off+i*5) (ts.getD i default))
theorem Nodes.below{w w':World}{a:Option Addr}{len:Nat}{ts:List NodeD}(h:Nodes w a len ts)(hb:Below w.heap.size w w'):Nodes w' a len ts:=by
 obtain⟨h1,h2,h3⟩:=h
 refine⟨h1,h2,fun hl=>?_⟩
 obtain⟨b,off,rfl,hc⟩:=h3 hl
 exact⟨b,off,rfl,fun i hi=>(hc i hi).below hb⟩
theorem Nodes.later{w w':World}{B:Nat}{a:Option Addr}{len:Nat}{ts:List NodeD}(h:Nodes w a len ts)(hb:Below B w w')(hB:w.heap.size≤B):Nodes w' a len ts:=h.below (hb.mono hB)
theorem Nodes.len{w:World}{a:Option Addr}{len:Nat}{ts:List NodeD}(h:Nodes w a len ts):ts.length=len∧len≤9223372036854775807:=⟨h.1,h.2.1⟩
theorem Nodes.at{w:World}{a:Option Addr}{len:Nat}{ts:List NodeD}(h:Nodes w a len ts)(hl:0<len):
  ∃b off,a=some ⟨b,off,none⟩∧∀i,i<len→NodeCells w b (off+i*5) (ts.getD i default):=h.2.2 hl
def sz(ts:List NodeD)(i:Nat):Nat:=(ts.getD i default).size.toNat
def kd(ts:List NodeD)(i:Nat):Int:=(ts.getD i default).kind
def Sz(ts:List NodeD)(j:Nat):Prop:=
 1≤sz ts j∧(ts.getD j default).size=(sz ts j:Int)∧∀k,j≤k→k<j+sz ts j→k+sz ts k≤j+sz ts j
def SizedSays(ts:List NodeD)(at_ end_:Nat)(b:Bool):Prop:=
 b=true→1≤sz ts at_∧at_+sz ts at_≤end_∧∀j,at_≤j→j<at_+sz ts at_→Sz ts j
theorem sizedSays_false(ts:List NodeD)(at_ end_:Nat):SizedSays ts at_ end_ false:=by simp [SizedSays]
theorem sized_step{ts:List NodeD}{at_ s k:Nat}(hk:at_+1≤k)(hall:∀j,at_+1≤j→j<k→Sz ts j∧j+sz ts j≤k)
  (hsub:1≤sz ts k∧k+sz ts k≤at_+s∧∀j,k≤j→j<k+sz ts k→Sz ts j):∀j,at_+1≤j→j<k+sz ts k→Sz ts j∧j+sz ts j≤k+sz ts k:=by
 intro j h1 h2
 by_cases h:j<k
 ·have :=hall j h1 h
  exact⟨this.1,by omega⟩
 ·have hk1:=hsub.1
  have hK:=hsub.2.2 k (Nat.le_refl _) (by omega)
  exact⟨hsub.2.2 j (by omega) h2,hK.2.2 j (by omega) h2⟩
theorem sized_done{ts:List NodeD}{at_ s:Nat}(hs:(ts.getD at_ default).size=(s:Int))(h1:1≤s)(hall:∀j,at_+1≤j→j<at_+s→Sz ts j∧j+sz ts j≤at_+s):
  ∀j,at_≤j→j<at_+sz ts at_→Sz ts j:=by
 have e:sz ts at_=s:=by unfold sz;rw [hs];simp
 intro j h2 h3
 by_cases h:j=at_
 ·subst h
  refine⟨by omega,by rw [hs,e],fun k hk1 hk2=>?_⟩
  by_cases hkj:k=j
  ·subst hkj;exact Nat.le_refl _
  ·rw [e]at *
   exact(hall k (by omega) hk2).2
 ·exact(hall j (by omega) (by omega)).1
set_option maxHeartbeats 1000000 in
theorem sized_any(a:Option Addr)(len cap:Nat)(ts:List NodeD)(d:Nat):∀(at_ end_:Nat) (w:World),Nodes w a len ts→at_<len→end_≤len→at_≤end_→d≤40→
  Calls Tryz.prog 55 #[.slice a len cap,.int .i64 at_,.int .i64 end_,.int .i64 d] w (SomeBool (SizedSays ts at_ end_) w):=by
 induction d with
 | zero=>
  intro at_ end_ w h hat hend hae _
  have hm:=h.len.2
  obtain⟨b,off,rfl,hc⟩:=h.at (by omega)
  have c4:=(hc at_ hat).size
  clear hc
  go_enter Tryz.func55,Tryz.ntmps55
  go_wp2
  go_ret
  exact⟨_,sizedSays_false _ _ _,rfl,rfl⟩
 | succ d ih=>
  intro at_ end_ w h hat hend hae hd
  have hm:=h.len.2
  have HN:=Lib.hid h
  obtain⟨b,off,rfl,hc⟩:=h.at (by omega)
  have c4:=(hc at_ hat).size
  have g0:(((d:Int)+1)==0)=false:=by simp;omega
  rw [show(((d+1:Nat):Int))=(d:Int)+1 from by omega]
  have HC:=Lib.hid hc
  have IH:=Lib.hid ih
  clear h hc ih
  obtain⟨z,hz⟩:∃z,(ts.getD at_ default).size=z:=⟨_,rfl⟩
  rw [hz]at c4
  have HZ:=Lib.hid hz
  clear hz
  by_cases h1:z<1
  ·go_enter Tryz.func55,Tryz.ntmps55
   go_wp2
   go_ret
   exact⟨_,sizedSays_false _ _ _,rfl,rfl⟩
  by_cases h2:(end_:Int)-at_<z
  ·have h1':1≤z:=by omega
   have g1:decide (z<(1:Int))=false:=by simp;omega
   go_enter Tryz.func55,Tryz.ntmps55
   go_wp2
   all_goals (go_ret;exact⟨_,sizedSays_false _ _ _,rfl,rfl⟩)
  obtain⟨s,rfl⟩:=Int.eq_ofNat_of_zero_le (show 0≤z by omega)
  have h1':1≤s:=by omega
  have h2':at_+s≤end_:=by omega
  have g1:decide ((s:Int)<(1:Int))=false:=by simp;omega
  have g2:decide ((end_:Int)-(at_:Int)<(s:Int))=false:=by simp;omega
  clear h1 h2
  go_enter Tryz.func55,Tryz.ntmps55
  go_wp2
  go_loop [10] (fun i=>∃k:Nat,at_+1≤k∧k≤at_+s∧i=.int .i64 k∧∀j,at_+1≤j→j<k→Sz ts j∧j+sz ts j≤k) (fun i=>at_+s-(intOf i).toNat)
  case atStart=>exact⟨at_+1,by omega,by omega,by go_num,fun j h1 h2=>by omega⟩
  case round=>
   obtain⟨k,hk1,hk2,rfl,hall⟩:=hrel
   have HALL:=Lib.hid hall
   clear hall
   by_cases hlt:k<at_+s
   ·have c4k:=(HC.out k (by omega)).size
    obtain⟨y,hy⟩:∃y,(ts.getD k default).size=y:=⟨_,rfl⟩
    rw [hy]at c4k
    have HY:=Lib.hid hy
    clear hy
    go_wp2_with fail
    have hcall:=IH.out k (at_+s) w HN.out (by omega) (by omega) (by omega) (by omega)
    have ecast:(((at_+s:Nat):Int))=(at_:Int)+(s:Int):=by omega
    rw [ecast]at hcall
    refine hcall.mono ?_
    clear hcall ecast
    rintro e w' ⟨r,hr,rfl,rfl⟩
    cases r
    ·go_wp2
     go_ret
     exact⟨_,sizedSays_false _ _ _,rfl,rfl⟩
    ·have hsub:=hr rfl
     have hyk:y=(sz ts k:Int):=by rw [←HY.out];exact(hsub.2.2 k (Nat.le_refl _) (by omega)).2.1
     have hy1:=hsub.1
     have hy2:=hsub.2.1
     have hnext:=sized_step hk1 HALL.out hsub
     have HS:=Lib.hid hnext
     clear hnext hsub hr
     rw [hyk]at c4k
     clear hyk HY
     go_wp2
     go_round
     case rel=>exact⟨k+sz ts k,by omega,by omega,by go_num,HS.out⟩
     case measure=>simp [intOf];omega
   ·obtain rfl:k=at_+s:=by omega
    have hdone:=sized_done HZ.out h1' HALL.out
    have hs:sz ts at_=s:=by unfold sz;rw [HZ.out];simp
    have HD:=Lib.hid (And.intro hs hdone)
    clear hdone hs hlt
    go_wp2
    go_ret
    exact⟨true,fun _=>⟨by rw [HD.out.1];exact h1',by rw [HD.out.1];exact h2',HD.out.2⟩,rfl,rfl⟩
end Go.Proofs.YtkdomegcacgpnaaGreat
namespace Go.Proofs.YtkdomegcacgpnaaGreat
def kidsFrom(z:Nat→Nat)(e:Nat):Nat→Nat→List Nat
 | 0,_=>[]
 | f+1,k=>if k<e then k::kidsFrom z e f (k+z k)else []
def kids(z:Nat→Nat)(at_:Nat):List Nat:=kidsFrom z (at_+z at_) (z at_) (at_+1)
theorem kidsFrom_step{z:Nat→Nat}{e f k:Nat}(h:k<e)(hf:e-k≤f):∃g,f=g+1∧kidsFrom z e f k=k::kidsFrom z e g (k+z k):=by
 cases f with
 | zero=>omega
 | succ g=>exact⟨g,rfl,by simp [kidsFrom,h]⟩
theorem kidsFrom_end{z:Nat→Nat}{e f k:Nat}(h:e≤k):kidsFrom z e f k=[]:=by
 cases f with
 | zero=>rfl
 | succ g=>simp [kidsFrom,show ¬k<e by omega]
def parGo(z:Nat→Nat)(at_:Nat):Nat→Option Nat
 | 0=>none
 | i+1=>if at_<i+z i then some i else parGo z at_ i
def par(z:Nat→Nat)(at_:Nat):Option Nat:=parGo z at_ at_
theorem parGo_some{z:Nat→Nat}{at_ p:Nat}:∀{i},parGo z at_ i=some p→p<i∧at_<p+z p∧∀k,p<k→k<i→k+z k≤at_:=by
 intro i
 induction i with
 | zero=>intro h;simp [parGo]at h
 | succ i ih=>
  intro h
  simp only [parGo]at h
  split at h
  ·rename_i hlt
   simp at h
   subst h
   exact⟨by omega,hlt,fun k h1 h2=>by omega⟩
  ·rename_i hlt
   obtain⟨h1,h2,h3⟩:=ih h
   refine⟨by omega,h2,fun k hk1 hk2=>?_⟩
   by_cases hki:k=i
   ·subst hki;omega
   ·exact h3 k hk1 (by omega)
theorem parGo_none{z:Nat→Nat}{at_:Nat}:∀{i},parGo z at_ i=none→∀k,k<i→k+z k≤at_:=by
 intro i
 induction i with
 | zero=>intro _ k hk;omega
 | succ i ih=>
  intro h k hk
  simp only [parGo]at h
  split at h
  ·simp at h
  ·by_cases hki:k=i
   ·subst hki;omega
   ·exact ih h k (by omega)
theorem par_some{z:Nat→Nat}{at_ p:Nat}(h:par z at_=some p):p<at_∧at_<p+z p∧∀k,p<k→k<at_→k+z k≤at_:=parGo_some h
theorem par_none{z:Nat→Nat}{at_:Nat}(h:par z at_=none):∀k,k<at_→k+z k≤at_:=parGo_none h
theorem par_mk{z:Nat→Nat}{at_ p:Nat}(h1:p<at_)(h2:at_<p+z p)(h3:∀k,p<k→k<at_→k+z k≤at_):par z at_=some p:=by
 cases h:par z at_ with
 | none=>have :=par_none h p h1;omega
 | some q=>
  obtain⟨a,b,c⟩:=par_some h
  rcases Nat.lt_trichotomy p q with hpq | hpq | hpq
  ·have :=h3 q hpq a;omega
  ·rw [hpq]
  ·have :=c p hpq h1;omega
structure Nest (z:Nat→Nat) (n:Nat):Prop where
 pos:∀i,i<n→1≤z i
 lam:∀i j,i<n→i≤j→j<i+z i→j+z j≤i+z i
 fit:∀i,i<n→i+z i≤n
theorem nest_of{ts:List NodeD}{n:Nat}(h0:sz ts 0=n)(h:∀j,j<n→Sz ts j)(hn:0<n):Nest (sz ts) n:=
 ⟨fun i hi=>(h i hi).1,fun i j hi hij hj=>(h i hi).2.2 j hij hj,fun i hi=>by have :=(h 0 hn).2.2 i (Nat.zero_le _) (by omega);omega⟩
theorem par_is{z:Nat→Nat}{n:Nat}(h0:z 0=n){i:Nat}(hi:i<n)(hp:0<i):∃p,par z i=some p:=by
 cases h:par z i with
 | some p=>exact⟨p,rfl⟩
 | none=>have :=par_none h 0 hp;omega
theorem par_first{z:Nat→Nat}{n:Nat}{i:Nat}(hi:i<n)(h:1<z i):par z (i+1)=some i:=par_mk (by omega) (by omega) (fun k h1 h2=>by omega)
theorem par_next{z:Nat→Nat}{n:Nat}(hz:Nest z n){p k:Nat}(hp:par z k=some p)(hk:k<n)(h:k+z k<p+z p):par z (k+z k)=some p:=by
 obtain⟨h1,h2,h3⟩:=par_some hp
 have hk1:=hz.pos k hk
 refine par_mk (by omega) h (fun j hj1 hj2=>?_)
 rcases Nat.lt_trichotomy j k with hjk | rfl | hjk
 ·exact Nat.le_trans (h3 j hj1 hjk) (by omega)
 ·exact Nat.le_refl _
 ·exact hz.lam k j hk (by omega) hj2
end Go.Proofs.YtkdomegcacgpnaaGreat
namespace Go.Proofs.YtkdomegcacgpnaaGreat
open Go.RowKit
theorem Tryz.infoInt:(Tryz.prog.info? 3).map (fun i=>(i.zero,i.size,i.bytes))=some (some (.int .i64 0),1,8):=by kernel_rfl
def OwnInts(w:World)(B:Nat)(v:Value)(l:List Nat):Prop:=w.ownsRow B 3 1 v l.length (l.map fun(n:Nat)=>Value.int .i64 (n:Int))
def IntsOf(w:World)(v:Value)(l:List Nat):Prop:=∃a cap,v=.slice a l.length cap∧l.length≤cap∧cap≤maxLen∧Row w a l.length (l.map fun(n:Nat)=>Value.int .i64 (n:Int))
theorem OwnInts.ints{w:World}{B:Nat}{v:Value}{l:List Nat}(h:OwnInts w B v l):IntsOf w v l:=by
 rcases h.2 with ⟨rfl,h0⟩ | ⟨g,cap,cur,rfl,hb,hg,hn,hm,hcs,ht⟩
 ·have :l=[]:=List.eq_nil_of_length_eq_zero h0
  subst this
  exact⟨none,0,rfl,Nat.le_refl _,Nat.zero_le _,rfl,Nat.zero_le _,fun h=>absurd h (Nat.lt_irrefl 0)⟩
 ·refine⟨_,cap,rfl,hn,hm,by simp,by omega,fun hl=>⟨g,0,rfl,fun i hi=>?_⟩⟩
  have :=h.cells (g:=g) rfl i ((l.map fun(n:Nat)=>Value.int .i64 (n:Int)).getD i undef) (by rw [List.getD_eq_getElem?_getD];simp [hi])
  have hadd:(⟨g,0,none⟩:Addr).add i=⟨g,0+i,none⟩:=by unfold Addr.add;split <;> simp_all
  rw [hadd]at this
  exact this
theorem IntsOf.below{w w':World}{v:Value}{l:List Nat}(h:IntsOf w v l)(hb:Below w.heap.size w w'):IntsOf w' v l:=by
 obtain⟨a,cap,h1,h2,h3,h4⟩:=h
 exact⟨a,cap,h1,h2,h3,h4.below hb⟩
theorem ownInts_snoc{w1:World}{B:Nat}{v':Value}{done:List Nat}{k:Nat}(h:w1.ownsRow B 3 1 v' (done.length+1) (List.map (fun(n:Nat)=>Value.int .i64 (n:Int)) done++[.int .i64 (k:Int)])):
  OwnInts w1 B v' (done++[k]):=by
 unfold OwnInts
 simpa using h
def KidsPost(l:List Nat)(w:World)(e:Ending)(w':World):Prop:=∃v,e=.returned v∧OwnInts w' w.heap.size v l∧Below w.heap.size w w'
set_option maxRecDepth 100000 in
set_option maxHeartbeats 1000000 in
theorem kids_any(a:Option Addr)(len cap:Nat)(ts:List NodeD)(at_:Nat)(w:World)(h:Nodes w a len ts)(hsz:∀j,j<len→Sz ts j)(hfit:∀j,j<len→j+sz ts j≤len)(hat:at_<len)(hlen:len≤200):
  Calls Tryz.prog 136 #[.slice a len cap,.int .i64 at_] w (KidsPost (kids (sz ts) at_) w):=by
 have hm:=h.len.2
 obtain⟨b,off,rfl,hc⟩:=h.at (by omega)
 have hs:=(hc at_ hat).size
 have hbw:b<w.heap.size:=World.block_lt_of_cell? _ _ hs
 have hend:=hfit at_ hat
 have hpos:=(hsz at_ hat).1
 have hc4:∀j,j<len→w.cell? ⟨b,off+j*5+4,none⟩=some (.int .i64 (sz ts j:Int)):=fun j hj=>by rw [(hc j hj).size,(hsz j hj).2.1]
 have HC:=Lib.hid hc4
 have HF:=Lib.hid hfit
 have HS:=Lib.hid hsz
 clear hc hs h hc4 hfit hsz
 obtain⟨i0,hi,hz0,hz1,hz2⟩:=info_parts Tryz.infoInt
 go_enter Tryz.func136,Tryz.ntmps136
 go_wp2
 go_loopw [5,6] (fun v i wr=>∃(k f:Nat) (done:List Nat),i=.int .i64 k∧k≤at_+sz ts at_∧at_+1≤k∧done.length<k∧at_+sz ts at_-k≤f∧done++kidsFrom (sz ts) (at_+sz ts at_) f k=kids (sz ts) at_∧OwnInts wr w.heap.size v done∧Below w.heap.size w wr)
  (fun _ i _=>at_+sz ts at_-(intOf i).toNat)
 case atStart=>exact⟨at_+1,sz ts at_,[],by go_num,by omega,by omega,by simp,by omega,rfl,World.ownsRow_nil _ _ _ _,Below.refl _ _⟩
 case round=>
  obtain⟨k,f,done,rfl,hk1,hk2,hk4,hk3,hd,hown,hbel⟩:=hrel
  have c0:wr.cell? ⟨b,off+at_*5+4,none⟩=some (.int .i64 (sz ts at_:Int)):=(hbel.cell (p:=⟨b,off+at_*5+4,none⟩) hbw).trans (HC.out at_ hat)
  have HD:=Lib.hid hd
  have HOWN:=Lib.hid hown
  have HBEL:=Lib.hid hbel
  clear hd hown hbel
  by_cases hlt:k<at_+sz ts at_
  ·have ck:wr.cell? ⟨b,off+k*5+4,none⟩=some (.int .i64 (sz ts k:Int)):=(HBEL.out.cell (p:=⟨b,off+k*5+4,none⟩) hbw).trans (HC.out k (by omega))
   have hkp:=(HS.out k (by omega)).1
   have hkf:=HF.out k (by omega)
   have hkl:=(HS.out at_ hat).2.2 k (by omega) hlt
   have hown':wr.ownsRow w.heap.size 3 1 u5 done.length (done.map fun(n:Nat)=>Value.int .i64 (n:Int)):=HOWN.out
   go_wp2_with (at_builtin;refine wpList_append_own _ rfl _ _ 23 rfl w.heap.size 3 i0 (.int .i64 0) 1 8 Tryz.underlying23 hi hz0 hz1 hz2 rfl (by decide) _ _ _ rfl (hown'.alloc _) ⟨wr.heap.size,0,none⟩ 1 1 [.int .i64 (k:Int)] rfl rfl ?c1 ?c2 ?c3 ?c4 ?c5 ?_)
   case c1=>
    intro j u hj
    match j,hj with
    | 0,hj=>simp at hj;subst hj;simp [Addr.add]
   case c2=>intro u hu;simp at hu;subst hu;rfl
   case c3=>unfold maxLen;omega
   case c4=>omega
   case c5=>have :=HBEL.out.size;simp;omega
   intro v' w1 hown2 hgrow _
   have hbel2:Below w.heap.size w w1:=(HBEL.out.alloc HBEL.out.size _).grown hgrow (by have :=HBEL.out.size;simp;omega) (fun q hq=>(World.ownsRow.lt hown' q hq).1)
   have hsn:=ownInts_snoc hown2
   have c1k:w1.cell? ⟨b,off+k*5+4,none⟩=some (.int .i64 (sz ts k:Int)):=(hbel2.cell (p:=⟨b,off+k*5+4,none⟩) hbw).trans (HC.out k (by omega))
   obtain⟨g,hg1,hg2⟩:=kidsFrom_step (z:=sz ts) hlt hk3
   have hd:=HD.out
   rw [hg2]at hd
   have H1:=Lib.hid (And.intro hsn (And.intro hbel2 (And.intro hg1 hd)))
   clear hown2 hgrow hbel2 hsn hg1 hg2 hd hown' c0 ck
   go_wp2
   go_roundw
   case rel=>
    obtain⟨r1,r2,r3,r4⟩:=H1.out
    exact⟨k+sz ts k,g,done++[k],by go_num,by omega,by omega,by simp;omega,by omega,by rw [←r4];simp,r1,r2⟩
   case measure=>simp [intOf];omega
  ·obtain rfl:k=at_+sz ts at_:=by omega
   have hd:=HD.out
   rw [kidsFrom_end (Nat.le_refl _),List.append_nil]at hd
   have H1:=Lib.hid hd
   clear hd HD hlt
   go_wp2
   go_ret
   exact⟨_,rfl,by rw [←H1.out];exact HOWN.out,HBEL.out⟩
def parI:Option Nat→Int
 | none=> -1
 | some p=>(p:Int)
def ParPost(x:Option Nat)(w:World)(e:Ending)(w':World):Prop:=e=.returned (.int .i64 (parI x))∧w=w'
set_option maxRecDepth 100000 in
set_option maxHeartbeats 1000000 in
theorem parent_any(a:Option Addr)(len cap:Nat)(ts:List NodeD)(at_:Nat)(w:World)(h:Nodes w a len ts)(hsz:∀j,j<len→Sz ts j)(hfit:∀j,j<len→j+sz ts j≤len)(hat:at_<len):
  Calls Tryz.prog 101 #[.slice a len cap,.int .i64 at_] w (ParPost (par (sz ts) at_) w):=by
 have hm:=h.len.2
 obtain⟨b,off,rfl,hc⟩:=h.at (by omega)
 have hc4:∀j,j<len→w.cell? ⟨b,off+j*5+4,none⟩=some (.int .i64 (sz ts j:Int)):=fun j hj=>by rw [(hc j hj).size,(hsz j hj).2.1]
 have HC:=Lib.hid hc4
 have HF:=Lib.hid hfit
 clear hc h hc4 hfit hsz
 go_enter Tryz.func101,Tryz.ntmps101
 go_wp2
 go_loop [5] (fun i=>∃k:Nat,k≤at_∧i=.int .i64 ((k:Int)-1)∧parGo (sz ts) at_ k=par (sz ts) at_) (fun i=>(intOf i+1).toNat)
 case atStart=>exact⟨at_,by omega,by go_num,rfl⟩
 case round=>
  obtain⟨k,hk,rfl,hp⟩:=hrel
  have HP:=Lib.hid hp
  clear hp
  cases k with
  | zero=>
   go_wp2
   go_ret
   exact⟨by rw [←HP.out];rfl,rfl⟩
  | succ k=>
   have ck:=HC.out k (by omega)
   have hkf:=HF.out k (by omega)
   rw [show(((k+1:Nat):Int))-1=(k:Int) from by omega]
   by_cases hlt:at_<k+sz ts k
   ·have hd:par (sz ts) at_=some k:=by rw [←HP.out];simp [parGo,hlt]
    have HD:=Lib.hid hd
    clear hd
    go_wp2
    go_ret
    exact⟨by rw [HD.out];rfl,rfl⟩
   ·have hd:parGo (sz ts) at_ k=par (sz ts) at_:=by rw [←HP.out];simp [parGo,hlt]
    have HD:=Lib.hid hd
    have hle:k+sz ts k≤at_:=by omega
    clear hd hlt
    go_wp2
    go_round
    case rel=>exact⟨k,by omega,by go_num,HD.out⟩
    case measure=>simp [intOf]
structure NRec where
 par:Option Nat
 fst:Option Nat
 lst:Option Nat
 prv:Option Nat
 nxt:Option Nat
 ty:Int
 atom:Int
 data:ByteArray
 ns:ByteArray
 attr:Value
def lk:Option Nat→Value
 | none=>.pointer none
 | some b=>.pointer (some ⟨b,0,none⟩)
@[simp] theorem lk_none:lk none=.pointer none:=rfl
@[simp] theorem lk_some(b:Nat):lk (some b)=.pointer (some ⟨b,0,none⟩):=rfl
def NRec.cells(r:NRec):Array Value:=
 #[lk r.par,lk r.fst,lk r.lst,lk r.prv,lk r.nxt,.int .u32 r.ty,.int .u32 r.atom,.string r.data,.string r.ns,r.attr]
def NRec.obj(r:NRec):Obj:=.cells r.cells 117 (0,0)
def World.nodeAt(w:World)(b:Nat)(r:NRec):Prop:=w.heap[b]? =some r.obj
def World.putN(w:World)(b:Nat)(r:NRec):World:={w with heap:=w.heap.setIfInBounds b r.obj}
theorem World.nodeAt.lt{w:World}{b:Nat}{r:NRec}(h:World.nodeAt w b r):b<w.heap.size:=by
 rcases Nat.lt_or_ge b w.heap.size with h' | h'
 ·exact h'
 ·unfold World.nodeAt at h
  rw [Array.getElem?_eq_none h']at h
  simp at h
@[simp] theorem World.size_putN(w:World)(b:Nat)(r:NRec):(World.putN w b r).heap.size=w.heap.size:=by simp [World.putN]
theorem World.heap_putN_same{w:World}{b:Nat}(r:NRec)(h:b<w.heap.size):(World.putN w b r).heap[b]? =some r.obj:=by
 simp [World.putN,h]
theorem World.heap_putN_other{w:World}{b k:Nat}(r:NRec)(h:k≠b):(World.putN w b r).heap[k]? =w.heap[k]? :=by
 simp only [World.putN]
 rw [Array.getElem?_setIfInBounds_ne (by omega)]
theorem World.nodeAt.put{w:World}{b:Nat}{r:NRec}(h:World.nodeAt w b r)(r':NRec):World.nodeAt (World.putN w b r') b r':=
 World.heap_putN_same r' h.lt
theorem World.nodeAt.other{w:World}{b k:Nat}{r:NRec}(h:World.nodeAt w k r)(r':NRec)(hk:k≠b):World.nodeAt (World.putN w b r') k r:=by
 unfold World.nodeAt
 rw [World.heap_putN_other r' hk]
 exact h
theorem World.nodeAt.cell{w:World}{b:Nat}{r:NRec}(h:World.nodeAt w b r):
  w.cell? ⟨b,0,none⟩=some (lk r.par)∧w.cell? ⟨b,1,none⟩=some (lk r.fst)∧w.cell? ⟨b,2,none⟩=some (lk r.lst)∧
  w.cell? ⟨b,3,none⟩=some (lk r.prv)∧w.cell? ⟨b,4,none⟩=some (lk r.nxt)∧w.cell? ⟨b,5,none⟩=some (.int .u32 r.ty)∧
  w.cell? ⟨b,6,none⟩=some (.int .u32 r.atom)∧w.cell? ⟨b,7,none⟩=some (.string r.data)∧w.cell? ⟨b,8,none⟩=some (.string r.ns)∧
  w.cell? ⟨b,9,none⟩=some r.attr:=by
 unfold World.nodeAt at h
 simp [World.cell?,h,NRec.obj,NRec.cells]
theorem World.nodeAt.par{w:World}{b:Nat}{r:NRec}(h:World.nodeAt w b r):w.cell? ⟨b,0,none⟩=some (lk r.par):=h.cell.1
theorem World.nodeAt.fst{w:World}{b:Nat}{r:NRec}(h:World.nodeAt w b r):w.cell? ⟨b,1,none⟩=some (lk r.fst):=h.cell.2.1
theorem World.nodeAt.lst{w:World}{b:Nat}{r:NRec}(h:World.nodeAt w b r):w.cell? ⟨b,2,none⟩=some (lk r.lst):=h.cell.2.2.1
theorem World.nodeAt.prv{w:World}{b:Nat}{r:NRec}(h:World.nodeAt w b r):w.cell? ⟨b,3,none⟩=some (lk r.prv):=h.cell.2.2.2.1
theorem World.nodeAt.nxt{w:World}{b:Nat}{r:NRec}(h:World.nodeAt w b r):w.cell? ⟨b,4,none⟩=some (lk r.nxt):=h.cell.2.2.2.2.1
theorem World.nodeAt.ty{w:World}{b:Nat}{r:NRec}(h:World.nodeAt w b r):w.cell? ⟨b,5,none⟩=some (.int .u32 r.ty):=h.cell.2.2.2.2.2.1
theorem World.nodeAt.atom{w:World}{b:Nat}{r:NRec}(h:World.nodeAt w b r):w.cell? ⟨b,6,none⟩=some (.int .u32 r.atom):=h.cell.2.2.2.2.2.2.1
theorem World.nodeAt.data{w:World}{b:Nat}{r:NRec}(h:World.nodeAt w b r):w.cell? ⟨b,7,none⟩=some (.string r.data):=h.cell.2.2.2.2.2.2.2.1
theorem World.nodeAt.attr{w:World}{b:Nat}{r:NRec}(h:World.nodeAt w b r):w.cell? ⟨b,9,none⟩=some r.attr:=h.cell.2.2.2.2.2.2.2.2.2
theorem World.nodeAt.free{w:World}{b:Nat}{r:NRec}(h:World.nodeAt w b r)(o:Nat):w.frozen? ⟨b,o,none⟩=false:=by
 unfold World.nodeAt at h
 simp [World.frozen?,h,NRec.obj]
theorem setCell_node{w:World}{b:Nat}{r:NRec}(h:World.nodeAt w b r)(i:Nat)(v:Value)(r':NRec)(hr:r.cells.setIfInBounds i v=r'.cells):
  w.setCell ⟨b,i,none⟩ v=World.putN w b r':=by
 have hlt:=h.lt
 unfold World.nodeAt at h
 unfold World.setCell World.putN
 congr 1
 apply Array.ext_getElem?
 intro k
 simp only [Array.getElem?_modify]
 by_cases hk:b=k
 ·subst hk
  rw [if_pos rfl,h,Array.getElem?_setIfInBounds_self_of_lt hlt]
  simp [NRec.obj,hr]
 ·rw [Array.getElem?_setIfInBounds_ne hk,if_neg hk]
theorem setCell_par{w:World}{b:Nat}{r:NRec}(h:World.nodeAt w b r)(x:Option Nat):w.setCell ⟨b,0,none⟩ (lk x)=World.putN w b {r with par:=x}:=setCell_node h _ _ _ rfl
theorem setCell_fst{w:World}{b:Nat}{r:NRec}(h:World.nodeAt w b r)(x:Option Nat):w.setCell ⟨b,1,none⟩ (lk x)=World.putN w b {r with fst:=x}:=setCell_node h _ _ _ rfl
theorem setCell_lst{w:World}{b:Nat}{r:NRec}(h:World.nodeAt w b r)(x:Option Nat):w.setCell ⟨b,2,none⟩ (lk x)=World.putN w b {r with lst:=x}:=setCell_node h _ _ _ rfl
theorem setCell_prv{w:World}{b:Nat}{r:NRec}(h:World.nodeAt w b r)(x:Option Nat):w.setCell ⟨b,3,none⟩ (lk x)=World.putN w b {r with prv:=x}:=setCell_node h _ _ _ rfl
theorem setCell_nxt{w:World}{b:Nat}{r:NRec}(h:World.nodeAt w b r)(x:Option Nat):w.setCell ⟨b,4,none⟩ (lk x)=World.putN w b {r with nxt:=x}:=setCell_node h _ _ _ rfl
theorem setCell_attr{w:World}{b:Nat}{r:NRec}(h:World.nodeAt w b r)(v:Value):w.setCell ⟨b,9,none⟩ v=World.putN w b {r with attr:=v}:=setCell_node h _ _ _ rfl
theorem World.putN_putN(w:World)(b:Nat)(r r':NRec):World.putN (World.putN w b r) b r'=World.putN w b r':=by
 unfold World.putN
 congr 1
 apply Array.ext_getElem?
 intro k
 by_cases hk:b=k
 ·subst hk
  by_cases hlt:b<w.heap.size
  ·simp [hlt]
  ·simp [hlt]
 ·simp [Array.getElem?_setIfInBounds_ne hk]
theorem below_putN{B:Nat}{a w:World}(h:Below B a w){b:Nat}(hb:B≤b)(r:NRec):Below B a (World.putN w b r):=
 h.trans ⟨rfl,rfl,rfl,by simp,fun k hk=>World.heap_putN_other r (by omega)⟩
theorem nodeAt_alloc_new(w:World)(r:NRec):World.nodeAt (w.alloc r.obj) w.heap.size r:=by
 unfold World.nodeAt World.alloc
 simp
theorem World.nodeAt.alloc{w:World}{b:Nat}{r:NRec}(h:World.nodeAt w b r)(o:Obj):World.nodeAt (w.alloc o) b r:=by
 have :=h.lt
 unfold World.nodeAt
 rw [Below.heap_alloc w o b this]
 exact h
end Go.Proofs.YtkdomegcacgpnaaGreat
