/- Parts of a proof: RightAll. -/
import Derived.Test.YtkdomegcacgpnaaGreatG00
import Derived.Test.YtkdomegcacgpnaaGreatG02
import Derived.BigGuardPart
set_option linter.unusedVariables false
set_option linter.unusedSimpArgs false
namespace Go.Proofs.YtkdomegcacgpnaaGreat
open Go.RowKit
def Apart(l:List (ByteArray×ByteArray))(n:Nat):Prop:=∀i k,k<i→i<n→((l.getD k default).1.toList==(l.getD i default).1.toList)=false
def Short(l:List (ByteArray×ByteArray))(n:Nat):Prop:=∀j,j<n→(l.getD j default).1.size≤40
def AttrsSay(l:List (ByteArray×ByteArray))(b:Bool):Prop:=b=true→(l.length≤20∧Apart l l.length)∧Short l l.length
theorem attrsSay_false(l:List (ByteArray×ByteArray)):AttrsSay l false:=by simp [AttrsSay]
set_option maxRecDepth 100000 in
set_option maxHeartbeats 2000000 in
theorem rightAttrs_any(a:Option Addr)(len cap:Nat)(l:List (ByteArray×ByteArray))(w:World)(h:AttrsAt w a len l):
  Calls Tryz.prog 102 #[.slice a len cap] w (SomeBoolB (AttrsSay l) w):=by
 have hm:=h.2.1
 unfold maxLen at hm
 by_cases h20:20<len
 ·go_enter Tryz.func102,Tryz.ntmps102
  go_wp2
  go_ret
  exact⟨_,attrsSay_false _,rfl,Below.refl _ _⟩
 have h20':len≤20:=by omega
 have g20:decide ((20:Int)<(len:Int))=false:=by simp;omega
 have HA:=Lib.hid h
 clear h h20
 go_enter Tryz.func102,Tryz.ntmps102
 go_wp2
 go_loopw [3] (fun i wr=>∃(n d:Nat),n≤len∧i=.int .i64 n∧Apart l n∧Hid (Short l n)∧wr=w.drewN d) (fun i _=>len-(intOf i).toNat)
 case atStart=>exact⟨0,0,by omega,rfl,fun i k h1 h2=>by omega,Lib.hid (fun j hj=>by omega),rfl⟩
 case round=>
  obtain⟨n,d,hn,rfl,hap,HSHO,rfl⟩:=hrel
  have HAP:=Lib.hid hap
  clear hap
  by_cases hlt:n<len
  ·obtain⟨h1,h2,hsz,hcc⟩:=HA.out
   obtain⟨b,off,rfl,hc⟩:=hcc (by omega)
   have cn:=hc n hlt
   have hin:n<l.length:=by omega
   have hs1:(l.getD n default).1.size≤maxLen:=(hsz _ (by rw [List.getD_eq_getElem?_getD,List.getElem?_eq_getElem hin];exact List.getElem_mem _)).1
   have hs2:(l.getD n default).2.size≤maxLen:=(hsz _ (by rw [List.getD_eq_getElem?_getD,List.getElem?_eq_getElem hin];exact List.getElem_mem _)).2
   have HC:=Lib.hid hc
   obtain⟨key,hkey⟩:∃key,(l.getD n default).1=key:=⟨_,rfl⟩
   obtain⟨val,hval⟩:∃val,(l.getD n default).2=val:=⟨_,rfl⟩
   rw [hkey]at cn hs1
   rw [hval]at cn hs2
   have ck:=cn.1
   have cv:=cn.2
   have HK:=Lib.hid hkey
   have HS:=Lib.hid (And.intro hs1 hs2)
   clear h1 h2 hsz hcc hc cn hin hkey hval hs1 hs2
   go_wp2_with fail
   refine(name_any key _ HS.out.1).mono ?_
   rintro e w' ⟨c,hcn,rfl,hw⟩
   have HCN:=Lib.hid hcn
   rw [←hw]
   clear hw w' hcn
   cases c
   ·go_wp2
    go_ret
    exact⟨_,attrsSay_false _,rfl,below_drewN (Below.refl _ _) d⟩
   have HSH2:=Lib.hid (show Short l (n+1) from fun j hj=>by
    by_cases e:j=n
    ·subst e;rw [HK.out];exact HCN.out rfl
    ·exact HSHO.out j (by omega))
   clear HCN HSHO
   go_wp2_with fail
   refine(plain_any val _ HS.out.2).mono ?_
   rintro e w' ⟨c,_,rfl,hw⟩
   rw [←hw]
   clear hw w'
   cases c
   ·go_wp2
    go_ret
    exact⟨_,attrsSay_false _,rfl,below_drewN (Below.refl _ _) d⟩
   go_wp2
   go_loopw [4] (fun i wr=>∃(k d2:Nat),k≤n∧i=.int .i64 k∧(∀j,j<k→((l.getD j default).1.toList==(l.getD n default).1.toList)=false)∧wr=w.drewN d2) (fun i _=>n-(intOf i).toNat)
   case atStart=>exact⟨0,d,by omega,rfl,fun j hj=>by omega,rfl⟩
   case round=>
    obtain⟨k,d2,hkn,rfl,hne,rfl⟩:=hrel
    have HNE:=Lib.hid hne
    clear hne
    by_cases hlk:k<n
    ·have ck2:=(HC.out k (by omega)).1
     obtain⟨y,hy⟩:∃y,(l.getD k default).1=y:=⟨_,rfl⟩
     rw [hy]at ck2
     have HY:=Lib.hid hy
     clear hy
     by_cases heq:(y.toList==key.toList)=true
     ·go_wp2
      go_quiet (fail)
      go_wp2
      go_ret
      exact⟨_,attrsSay_false _,rfl,by first | exact below_drewN (Below.refl _ _) _ | exact below_drewN (below_drewN (Below.refl _ _) _) _⟩
     ·have heq':(y.toList==key.toList)=false:=by simpa using heq
      clear heq
      go_wp2
      go_quiet (fail)
      go_wp2
      go_roundw
      case rel=>
       refine⟨k+1,_,by omega,by go_num,fun j hj=>?_,rfl⟩
       by_cases hjk:j=k
       ·subst hjk;rw [HY.out,HK.out];exact heq'
       ·exact HNE.out j (by omega)
      case measure=>simp [intOf];omega
    ·have hap2:Apart l (n+1):=by
      intro i j hj hi
      by_cases hin:i=n
      ·subst hin;exact HNE.out j (by omega)
      ·exact HAP.out i j hj (by omega)
     have HAP2:=Lib.hid hap2
     clear hap2
     go_wp2
     go_roundw
     case rel=>exact⟨n+1,_,by omega,by go_num,HAP2.out,HSH2,rfl⟩
     case measure=>simp [intOf];omega
  ·obtain rfl:n=len:=by omega
   go_wp2
   go_ret
   exact⟨true,fun _=>⟨⟨by rw [HA.out.1];exact h20',by rw [HA.out.1];exact HAP.out⟩,by rw [HA.out.1];exact HSHO.out⟩,rfl,by first | exact below_drewN (Below.refl _ _) _ | exact below_drewN (below_drewN (Below.refl _ _) _) _⟩
end Go.Proofs.YtkdomegcacgpnaaGreat
namespace Go.Proofs.YtkdomegcacgpnaaGreat
open Go.RowKit
theorem kidsFrom_mem{z:Nat→Nat}{e:Nat}(hpos:∀i,i<e→1≤z i):∀{f k x},x∈kidsFrom z e f k→k≤x∧x<e:=by
 intro f
 induction f with
 | zero=>intro k x h;simp [kidsFrom]at h
 | succ f ih=>
  intro k x h
  simp only [kidsFrom]at h
  split at h
  ·rename_i hlt
   rcases List.mem_cons.1 h with rfl | h
   ·exact⟨Nat.le_refl _,hlt⟩
   ·have :=ih h
    have :=hpos k hlt
    omega
  ·simp at h
theorem kids_mem{z:Nat→Nat}{at_ x n:Nat}(hz:Nest z n)(hat:at_<n)(h:x∈kids z at_):at_<x∧x<at_+z at_∧x<n:=by
 have hf:=hz.fit at_ hat
 have :=kidsFrom_mem (z:=z) (e:=at_+z at_) (fun i hi=>hz.pos i (by omega)) h
 omega
theorem getD_mem{α:Type}{l:List α}{i:Nat}{d:α}(h:i<l.length):l.getD i d∈l:=by
 rw [List.getD_eq_getElem?_getD,List.getElem?_eq_getElem h]
 exact List.getElem_mem _
theorem Row.at{w:World}{a:Option Addr}{len:Nat}{vs:List Value}(h:Row w a len vs)(hl:0<len):∃b off,a=some ⟨b,off,none⟩∧∀i,i<len→w.cell? ⟨b,off+i,none⟩=some (vs.getD i undef):=h.2.2 hl
theorem ints_cell{w:World}{a:Option Addr}{l:List Nat}(h:Row w a l.length (l.map fun(n:Nat)=>Value.int .i64 (n:Int)))(hl:0<l.length):
  ∃b off,a=some ⟨b,off,none⟩∧∀i,i<l.length→w.cell? ⟨b,off+i,none⟩=some (.int .i64 ((l.getD i 0:Nat):Int)):=by
 obtain⟨b,off,rfl,hc⟩:=h.at hl
 refine⟨b,off,rfl,fun i hi=>?_⟩
 rw [hc i hi]
 simp [List.getD_eq_getElem?_getD,hi]
set_option maxRecDepth 100000 in
set_option maxHeartbeats 2000000 in
theorem rightRoot_any(a:Option Addr)(len cap:Nat)(ts:List NodeD)(w:World)(h:Nodes w a len ts)(hsz:∀j,j<len→Sz ts j)(h0:sz ts 0=len)(hlen:len≤200)(hpos:0<len):
  Calls Tryz.prog 99 #[.slice a len cap] w (SomeBoolB (fun _=>True) w):=by
 have hnest:=nest_of h0 hsz hpos
 have HN:=Lib.hid h
 have hmem:∀x,x∈kids (sz ts) 0→x<len:=fun x hx=>(kids_mem hnest hpos hx).2.2
 have HM:=Lib.hid hmem
 have hcall:=kids_any a len cap ts 0 w h hsz (fun j hj=>hnest.fit j hj) hpos hlen
 have HCALL:=Lib.hid hcall
 clear h hsz h0 hnest hmem hcall
 go_enter Tryz.func99,Tryz.ntmps99
 go_wp2_with fail
 refine HCALL.out.mono ?_
 rintro e w1 ⟨v,rfl,hown,hbel⟩
 obtain⟨al,cl,hv,hl1,hl2,hrow⟩:=hown.ints
 generalize kids (sz ts) 0=l at *
 rw [hv]
 clear hv hown HCALL
 unfold maxLen at hl2
 have HB:=Lib.hid hbel
 have HR:=Lib.hid hrow
 have HN1:=Lib.hid (HN.out.below hbel)
 clear hbel hrow HN
 go_wp2
 go_loop [4,5] (fun s i=>∃(b:Bool) (k:Nat),k≤l.length∧i=.int .i64 k∧s=.bool b) (fun _ i=>l.length-(intOf i).toNat)
 case atStart=>exact⟨false,0,by omega,rfl,rfl⟩
 case round=>
  obtain⟨b,k,hk,rfl,rfl⟩:=hrel
  by_cases hlt:k<l.length
  ·obtain⟨bl,ol,rfl,hc⟩:=ints_cell HR.out (by omega)
   have ck:=hc k hlt
   have hx:l.getD k 0<len:=HM.out _ (getD_mem hlt)
   generalize l.getD k 0=x at ck hx
   obtain⟨bt,ot,rfl,hct⟩:=HN1.out.at hpos
   have cx:=(hct x hx).kind
   obtain⟨q,hq⟩:∃q,(ts.getD x default).kind=q:=⟨_,rfl⟩
   rw [hq]at cx
   clear hc hct hq
   by_cases h4:q=4
   ·subst h4
    go_wp2
    all_goals (go_ret;exact⟨_,trivial,rfl,HB.out⟩)
   have g4:(q==4)=false:=by simp [h4]
   by_cases h2:q=2
   ·subst h2
    cases b
    ·go_wp2
     go_round
     case rel=>exact⟨true,k+1,by omega,by go_num,rfl⟩
     case measure=>simp [intOf];omega
    ·go_wp2
     go_ret
     exact⟨_,trivial,rfl,HB.out⟩
   have g2:(q==2)=false:=by simp [h2]
   by_cases h3:q=3
   ·subst h3
    cases b
    all_goals
     go_wp2
     go_round
     case rel=>exact⟨true,k+1,by omega,by go_num,rfl⟩
     case measure=>simp [intOf];omega
   have g3:(q==3)=false:=by simp [h3]
   go_wp2
   go_round
   case rel=>exact⟨b,k+1,by omega,by go_num,rfl⟩
   case measure=>simp [intOf];omega
  ·go_wp2
   go_ret
   exact⟨_,trivial,rfl,HB.out⟩
end Go.Proofs.YtkdomegcacgpnaaGreat
namespace Go.Proofs.YtkdomegcacgpnaaGreat
open Go.RowKit
structure NodeOk (n:NodeD) (z at_:Nat):Prop where
 kinds:(n.kind=1∧at_=0)∨(n.kind=2∧z=1)∨n.kind=3∨(n.kind=4∧z=1)∨(n.kind=5∧z=1)
 bare:n.kind≠3→n.tag.toList=[]∧n.attrs=[]
 attrs:n.kind=3→n.attrs.length≤20∧Apart n.attrs n.attrs.length
 txt:n.kind=3∨n.kind=1→n.text.toList=[]
 keys:n.kind=3→Short n.attrs n.attrs.length
def NodeSays(n:NodeD)(z at_:Nat)(b:Bool):Prop:=b=true→NodeOk n z at_
theorem nodeSays_false(n:NodeD)(z at_:Nat):NodeSays n z at_ false:=by simp [NodeSays]
set_option maxRecDepth 100000 in
set_option maxHeartbeats 4000000 in
theorem rightNode_any(a:Option Addr)(len cap:Nat)(ts:List NodeD)(at_:Nat)(w:World)(h:Nodes w a len ts)(hsz:∀j,j<len→Sz ts j)(h0:sz ts 0=len)(hlen:len≤200)(hat:at_<len):
  Calls Tryz.prog 56 #[.slice a len cap,.int .i64 at_] w (SomeBoolB (NodeSays (ts.getD at_ default) (sz ts at_) at_) w):=by
 have hnest:=nest_of h0 hsz (by omega)
 have hA:∀o,Nodes (w.alloc o) a len ts:=fun o=>h.below ((Below.refl _ _).alloc (Nat.le_refl _) o)
 obtain⟨b,off,rfl,hc⟩:=h.at (by omega)
 have c:=hc at_ hat
 have hsz1:=(hsz at_ hat).2.1
 have hbel:∀o,Below w.heap.size w (w.alloc o):=fun o=>(Below.refl _ _).alloc (Nat.le_refl _) o
 have hroot:=fun(o:Obj)=>rightRoot_any _ len cap ts (w.alloc o) (hA o) hsz h0 hlen (by omega)
 have hpar:=fun(w':World) (hb:Below w.heap.size w w')=>parent_any _ len cap ts at_ w' (h.below hb) hsz (fun j hj=>hnest.fit j hj) hat
 generalize ts.getD at_ default=n at *
 obtain⟨k,tag,text,aa,al,ac,attrs,size⟩:=n
 simp only at hsz1
 subst hsz1
 generalize sz ts at_=z at *
 have c0:=c.kind
 have c1:=c.tag
 have c2:=c.text
 have c3:=c.attrs
 have c4:=c.size
 have hat2:=c.at_
 have hwt:=c.wt
 simp only at c0 c1 c2 c3 c4 hat2 hwt
 have hattrs:=fun(o:Obj)=>rightAttrs_any aa al ac attrs (w.alloc o) (hat2.below (hbel o))
 have HROOT:=Lib.hid hroot
 have HPAR:=Lib.hid hpar
 have HATT:=Lib.hid hattrs
 have HBEL:=Lib.hid hbel
 have HAT:=Lib.hid hat2
 have HWT:=Lib.hid hwt
 clear hc c hnest h hA hbel hroot hpar hattrs hat2 hwt hsz h0
 by_cases h3:k=3
 ·subst h3
  go_enter Tryz.func56,Tryz.ntmps56
  go_wp2_with fail
  refine(plain_any text _ HWT.out.2).mono ?_
  rintro e w' ⟨q,_,rfl,hw⟩
  rw [←hw]
  clear hw w'
  cases q
  ·go_wp2
   go_ret
   exact⟨_,nodeSays_false _ _ _,rfl,HBEL.out _⟩
  cases hte:text.toList.isEmpty
  ·go_wp2
   go_ret
   exact⟨_,nodeSays_false _ _ _,rfl,HBEL.out _⟩
  have HTE:=Lib.hid (show text.toList=[] by simpa using hte)
  go_wp2_with fail
  refine(name_any tag _ HWT.out.1).mono ?_
  rintro e w' ⟨q,_,rfl,hw⟩
  rw [←hw]
  clear hw w'
  cases q
  ·go_wp2
   go_ret
   exact⟨_,nodeSays_false _ _ _,rfl,HBEL.out _⟩
  go_wp2_with fail
  refine(HATT.out _).mono ?_
  rintro e w' ⟨q,hq,rfl,hb⟩
  have HQ:=Lib.hid (And.intro hq hb)
  clear hq hb
  go_wp2
  go_ret
  exact⟨q,fun hqt=>⟨.inr (.inr (.inl rfl)),fun h=>absurd rfl h,fun _=>(HQ.out.1 hqt).1,fun _=>HTE.out,fun _=>(HQ.out.1 hqt).2⟩,rfl,(HBEL.out _).trans (HQ.out.2.mono (by simp))⟩
 have G3:=Lib.hid h3
 have g3:(!(k==3))=true:=by simp [h3]
 have g3':(k==3)=false:=by simp [h3]
 clear h3
 cases hta:tag.toList.isEmpty
 ·go_enter Tryz.func56,Tryz.ntmps56
  go_wp2
  go_ret
  exact⟨_,nodeSays_false _ _ _,rfl,HBEL.out _⟩
 by_cases hal:0<al
 ·go_enter Tryz.func56,Tryz.ntmps56
  go_wp2
  go_ret
  exact⟨_,nodeSays_false _ _ _,rfl,HBEL.out _⟩
 have hal0:attrs=[]:=List.eq_nil_of_length_eq_zero (by rw [HAT.out.1];omega)
 have htag:tag.toList=[]:=by simpa using hta
 have HALL:=Lib.hid (And.intro htag hal0)
 obtain rfl:al=0:=by omega
 clear hal hal0 htag
 go_enter Tryz.func56,Tryz.ntmps56
 go_wp2_with fail
 refine(plain_any text _ HWT.out.2).mono ?_
 rintro e w' ⟨q,_,rfl,hw⟩
 rw [←hw]
 clear hw w'
 cases q
 ·go_wp2
  go_ret
  exact⟨_,nodeSays_false _ _ _,rfl,HBEL.out _⟩
 by_cases h1:k=1
 ·subst h1
  by_cases ha:at_=0
  ·subst ha
   cases hte:text.toList.isEmpty
   ·go_wp2
    go_ret
    exact⟨_,nodeSays_false _ _ _,rfl,HBEL.out _⟩
   have HTE:=Lib.hid (show text.toList=[] by simpa using hte)
   go_wp2_with fail
   refine(HROOT.out _).mono ?_
   rintro e w' ⟨q,_,rfl,hb⟩
   have HB:=Lib.hid hb
   clear hb
   go_wp2
   go_ret
   exact⟨q,fun _=>⟨.inl ⟨rfl,rfl⟩,fun _=>HALL.out,(fun h=>by simp at h),fun _=>HTE.out,(fun h=>by simp at h)⟩,rfl,(HBEL.out _).trans (HB.out.mono (by simp))⟩
  ·have ga:((at_:Int)==0)=false:=by simp;omega
   go_wp2
   go_ret
   exact⟨_,nodeSays_false _ _ _,rfl,HBEL.out _⟩
 have g1:(k==1)=false:=by simp [h1]
 clear h1
 by_cases hz1:z=1
 ·subst hz1
  by_cases h2:k=2
  ·subst h2
   go_wp2_with fail
   refine(name_any text _ HWT.out.2).mono ?_
   rintro e w' ⟨q,_,rfl,hw⟩
   rw [←hw]
   clear hw w'
   cases q
   ·go_wp2
    go_ret
    exact⟨_,nodeSays_false _ _ _,rfl,HBEL.out _⟩
   go_wp2_with fail
   refine(HPAR.out _ (HBEL.out _)).mono ?_
   rintro e w' ⟨rfl,hw⟩
   rw [←hw]
   clear hw w'
   go_wp2
   go_ret
   exact⟨_,fun _=>⟨.inr (.inl ⟨rfl,rfl⟩),fun _=>HALL.out,(fun h=>by simp at h),(fun h=>by simp at h),(fun h=>by simp at h)⟩,rfl,HBEL.out _⟩
  have g2:(k==2)=false:=by simp [h2]
  clear h2
  by_cases h4:k=4
  ·subst h4
   go_wp2
   go_ret
   exact⟨_,fun _=>⟨.inr (.inr (.inr (.inl ⟨rfl,rfl⟩))),fun _=>HALL.out,(fun h=>by simp at h),(fun h=>by simp at h),(fun h=>by simp at h)⟩,rfl,HBEL.out _⟩
  have g4:(k==4)=false:=by simp [h4]
  clear h4
  by_cases h5:k=5
  ·subst h5
   go_wp2
   go_ret
   exact⟨_,fun _=>⟨.inr (.inr (.inr (.inr ⟨rfl,rfl⟩))),fun _=>HALL.out,(fun h=>by simp at h),(fun h=>by simp at h),(fun h=>by simp at h)⟩,rfl,HBEL.out _⟩
  have g5:(k==5)=false:=by simp [h5]
  clear h5
  go_wp2
  go_ret
  exact⟨_,nodeSays_false _ _ _,rfl,HBEL.out _⟩
 ·have gz:((z:Int)==1)=false:=by simp;omega
  clear hz1
  by_cases h2:k=2
  ·subst h2
   go_wp2
   go_ret
   exact⟨_,nodeSays_false _ _ _,rfl,HBEL.out _⟩
  have g2:(k==2)=false:=by simp [h2]
  clear h2
  by_cases h4:k=4
  ·subst h4
   go_wp2
   go_ret
   exact⟨_,nodeSays_false _ _ _,rfl,HBEL.out _⟩
  have g4:(k==4)=false:=by simp [h4]
  clear h4
  by_cases h5:k=5
  ·subst h5
   go_wp2
   go_ret
   exact⟨_,nodeSays_false _ _ _,rfl,HBEL.out _⟩
  have g5:(k==5)=false:=by simp [h5]
  clear h5
  go_wp2
  go_ret
  exact⟨_,nodeSays_false _ _ _,rfl,HBEL.out _⟩
end Go.Proofs.YtkdomegcacgpnaaGreat
namespace Go.Proofs.YtkdomegcacgpnaaGreat
open Go.RowKit
def tsum(ts:List NodeD):Nat→Nat
 | 0=>0
 | i+1=>tsum ts i+(ts.getD i default).text.size
structure RightT (ts:List NodeD) (len:Nat):Prop where
 pos:0<len
 le:len≤200
 root:sz ts 0=len
 kind:kd ts 0=1
 sizes:∀j,j<len→Sz ts j
 node:∀j,j<len→NodeOk (ts.getD j default) (sz ts j) j
 texts:tsum ts len≤4000
 vals:∀j,j<len→∀x∈(ts.getD j default).attrs,x.2.size≤4000
def RightSays(ts:List NodeD)(len:Nat)(b:Bool):Prop:=b=true→RightT ts len
theorem rightSays_false(ts:List NodeD)(len:Nat):RightSays ts len false:=by simp [RightSays]
theorem RightT.nest{ts:List NodeD}{len:Nat}(h:RightT ts len):Nest (sz ts) len:=nest_of h.root h.sizes h.pos
structure Upto (ts:List NodeD) (i:Nat):Prop where
 node:∀j,j<i→NodeOk (ts.getD j default) (sz ts j) j
 vals:∀j,j<i→∀x∈(ts.getD j default).attrs,x.2.size≤4000
theorem Upto.succ{ts:List NodeD}{i:Nat}(h:Upto ts i)(h1:NodeOk (ts.getD i default) (sz ts i) i)(h2:∀j,j<(ts.getD i default).attrs.length→((ts.getD i default).attrs.getD j default).2.size≤4000):Upto ts (i+1):=by
 refine⟨fun j hj=>?_,fun j hj x hx=>?_⟩
 ·by_cases e:j=i
  ·subst e;exact h1
  ·exact h.node j (by omega)
 ·by_cases e:j=i
  ·subst e
   obtain⟨m,hm,rfl⟩:=List.getElem_of_mem hx
   have :=h2 m hm
   rwa [List.getD_eq_getElem?_getD,List.getElem?_eq_getElem hm]at this
  ·exact h.vals j (by omega) x hx
def Inner(ts:List NodeD)(l:List (ByteArray×ByteArray))(n k:Nat)(v:Int):Prop:=v≤4000→(tsum ts (n+1):Int)≤v∧∀j,j<k→(l.getD j default).2.size≤4000
theorem inner_big(ts:List NodeD)(l:List (ByteArray×ByteArray))(n k:Nat){v:Int}(h:4000<v):Inner ts l n k v:=fun h'=>by omega
theorem inner_start{ts:List NodeD}{l:List (ByteArray×ByteArray)}{n s:Nat}{x:Int}(h:(tsum ts n:Int)≤x)(hs:(ts.getD n default).text.size=s):Inner ts l n 0 (x+s):=
 fun _=>⟨by simp only [tsum,hs];omega,fun j hj=>by omega⟩
theorem inner_step{ts:List NodeD}{l:List (ByteArray×ByteArray)}{n k s:Nat}{v:Int}(h:Inner ts l n k v)(hs:(l.getD k default).2.size=s):Inner ts l n (k+1) (v+s):=by
 intro h'
 obtain⟨h1,h2⟩:=h (by omega)
 refine⟨by omega,fun j hj=>?_⟩
 by_cases e:j=k
 ·subst e
  rw [hs]
  have :(0:Int)≤tsum ts (n+1):=by omega
  omega
 ·exact h2 j (by omega)
set_option maxRecDepth 100000 in
set_option maxHeartbeats 4000000 in
theorem right_any(a:Option Addr)(len cap:Nat)(ts:List NodeD)(w:World)(h:Nodes w a len ts):
  Calls Tryz.prog 25 #[.slice a len cap] w (SomeBoolB (RightSays ts len) w):=by
 have hm:=h.len.2
 by_cases h0:len=0
 ·subst h0
  go_enter Tryz.func25,Tryz.ntmps25
  go_wp2
  go_ret
  exact⟨_,rightSays_false _ _,rfl,Below.refl _ _⟩
 have g0:((len:Int)==0)=false:=by simp;omega
 have hpos:0<len:=by omega
 by_cases h200:200<len
 ·have g200:decide ((200:Int)<(len:Int))=true:=by simp;omega
  go_enter Tryz.func25,Tryz.ntmps25
  go_wp2
  go_ret
  exact⟨_,rightSays_false _ _,rfl,Below.refl _ _⟩
 have g200:decide ((200:Int)<(len:Int))=false:=by simp;omega
 have hlen:len≤200:=by omega
 clear h0 h200
 have HN:=Lib.hid h
 obtain⟨b,off,rfl,hc⟩:=h.at hpos
 have c0:=(hc 0 hpos).size
 have k0:=(hc 0 hpos).kind
 rw [Nat.zero_mul,Nat.add_zero]at c0 k0
 have HC:=Lib.hid hc
 have hsized:=sized_any (some ⟨b,off,none⟩) len cap ts 40 0 len w h hpos (Nat.le_refl _) (Nat.zero_le _) (Nat.le_refl _)
 have HSIZED:=Lib.hid hsized
 clear h hc hsized
 obtain⟨z,hz⟩:∃z,(ts.getD 0 default).size=z:=⟨_,rfl⟩
 obtain⟨q,hq⟩:∃q,(ts.getD 0 default).kind=q:=⟨_,rfl⟩
 rw [hz]at c0
 rw [hq]at k0
 have HZ:=Lib.hid hz
 have HQ:=Lib.hid hq
 clear hz hq
 by_cases hzl:z=len
 ·subst hzl
  have gz:((len:Int) !=(len:Int))=false:=by simp
  by_cases hq1:q=1
  ·subst hq1
   go_enter Tryz.func25,Tryz.ntmps25
   go_wp2_with fail
   refine HSIZED.out.mono ?_
   rintro e w' ⟨r,hr,rfl,hw⟩
   rw [←hw]
   clear hw w'
   cases r
   ·go_wp2
    go_ret
    exact⟨_,rightSays_false _ _,rfl,Below.refl _ _⟩
   have hroot:sz ts 0=len:=by unfold sz;rw [HZ.out];simp
   have hsz:∀j,j<len→Sz ts j:=fun j hj=>(hr rfl).2.2 j (Nat.zero_le _) (by omega)
   have HS:=Lib.hid (And.intro hroot hsz)
   clear hr hroot hsz
   go_wp2
   go_loopw [3,4,5] (fun y i k5 wr=>∃(n:Nat) (x:Int),n≤len∧i=.int .i64 n∧y=.int .i64 x∧0≤x∧x≤4000∧(tsum ts n:Int)≤x∧Upto ts n∧Below w.heap.size w wr) (fun _ i _ _=>len-(intOf i).toNat)
   case atStart=>exact⟨0,0,by omega,rfl,rfl,by omega,by omega,by simp [tsum],⟨fun j hj=>by omega,fun j hj=>by omega⟩,Below.refl _ _⟩
   case round=>
    obtain⟨n,x,hn,rfl,rfl,hx0,hx1,hsum,hup,hbel⟩:=hrel
    have HUP:=Lib.hid hup
    have HB:=Lib.hid hbel
    have HSUM:=Lib.hid hsum
    have hN1:=Lib.hid (HN.out.below hbel)
    clear hup hbel hsum
    by_cases hlt:n<len
    ·obtain⟨b',off',hbo,hcc⟩:=hN1.out.at hpos
     simp only [Option.some.injEq,Addr.mk.injEq]at hbo
     obtain⟨rfl,rfl,_⟩:=hbo
     have nc:=hcc n hlt
     have ct:=nc.text
     have ca:=nc.attrs
     have hat:=nc.at_
     have hwt:=nc.wt.2
     unfold maxLen at hwt
     obtain⟨text,ht⟩:∃y,(ts.getD n default).text=y:=⟨_,rfl⟩
     obtain⟨aa,haa⟩:∃y,(ts.getD n default).aa=y:=⟨_,rfl⟩
     obtain⟨al,hal⟩:∃y,(ts.getD n default).al=y:=⟨_,rfl⟩
     obtain⟨ac,hac⟩:∃y,(ts.getD n default).ac=y:=⟨_,rfl⟩
     obtain⟨at_,hatt⟩:∃y,(ts.getD n default).attrs=y:=⟨_,rfl⟩
     rw [ht]at ct hwt
     rw [haa,hal,hac]at ca
     rw [haa,hal,hatt]at hat
     have HT:=Lib.hid ht
     have HAT:=Lib.hid hat
     have HATT:=Lib.hid hatt
     clear ht haa hal hac hatt hat hcc nc
     have hnode:=rightNode_any (some ⟨b,off,none⟩) len cap ts n wr hN1.out HS.out.2 HS.out.1 hlen hlt
     have HNODE:=Lib.hid hnode
     clear hnode
     go_wp2
     all_goals
      go_loop [3,5] (fun y i5=>∃(k:Nat) (v:Int),k≤al∧i5=.int .i64 k∧y=.int .i64 v∧0≤v∧v≤16002∧Inner ts at_ n k v) (fun _ i5=>al-(intOf i5).toNat)
     case atStart=>exact⟨0,_,Nat.zero_le _,rfl,rfl,by omega,by omega,inner_big _ _ _ _ (by omega)⟩
     case atStart=>exact⟨0,_,Nat.zero_le _,rfl,rfl,by omega,by omega,inner_start HSUM.out (by rw [HT.out])⟩
     all_goals
      obtain⟨k,v,hk,rfl,rfl,hv0,hv1,hin⟩:=hrel
      have HIN:=Lib.hid hin
      have halm:al≤9223372036854775807:=HAT.out.2.1
      clear hin
      by_cases hv4:v≤4000
      ·have gv:decide ((4000:Int)<v)=false:=by simp;omega
       by_cases hka:k<al
       ·obtain⟨q1,q2,q3,q4⟩:=HAT.out
        obtain⟨ba,oa,rfl,hca⟩:=q4 (by omega)
        have cv:=(hca k hka).2
        have hsv:(at_.getD k default).2.size≤maxLen:=(q3 _ (getD_mem (by omega))).2
        obtain⟨val,hval⟩:∃y,(at_.getD k default).2=y:=⟨_,rfl⟩
        rw [hval]at cv hsv
        unfold maxLen at hsv
        have HVAL:=Lib.hid hval
        clear q1 q2 q3 q4 hca hval
        by_cases hvs:4001<val.size
        ·go_wp2
         go_round
         case rel=>exact⟨k+1,_,by omega,by go_num,rfl,by omega,by omega,inner_big _ _ _ _ (by omega)⟩
         case measure=>simp [intOf];omega
        ·go_wp2
         go_round
         case rel=>exact⟨k+1,_,by omega,by go_num,rfl,by omega,by omega,inner_step HIN.out (by rw [HVAL.out])⟩
         case measure=>simp [intOf];omega
       ·obtain rfl:k=al:=by omega
        go_wp2_with fail
        refine HNODE.out.mono ?_
        rintro e w2 ⟨r,hr,rfl,hb2⟩
        have HB2:=Lib.hid hb2
        clear hb2
        cases r
        ·go_wp2
         go_ret
         exact⟨_,rightSays_false _ _,rfl,HB.out.trans (HB2.out.mono HB.out.size)⟩
        have hup2:Upto ts (n+1):=HUP.out.succ (hr rfl) (by rw [HATT.out];intro j hj;exact(HIN.out hv4).2 j (by have :=HAT.out.1;omega))
        have HUP2:=Lib.hid hup2
        clear hup2 hr
        go_wp2
        go_roundw
        case rel=>exact⟨n+1,v,by omega,by go_num,rfl,hv0,hv4,(HIN.out hv4).1,HUP2.out,HB.out.trans (HB2.out.mono HB.out.size)⟩
        case measure=>simp [intOf];omega
      ·have gv:decide ((4000:Int)<v)=true:=by simp;omega
       have gv2:decide (v≤(4000:Int))=false:=by simp;omega
       by_cases hka:k<al
       ·go_wp2
        go_ret
        exact⟨_,rightSays_false _ _,rfl,HB.out⟩
       ·go_wp2
        go_ret
        exact⟨_,rightSays_false _ _,rfl,HB.out⟩
    ·obtain rfl:n=len:=by omega
     go_wp2
     go_ret
     exact⟨true,fun _=>⟨hpos,hlen,HS.out.1,HQ.out,HS.out.2,HUP.out.node,by have :=HSUM.out;omega,HUP.out.vals⟩,rfl,HB.out⟩
  ·have gq:(q==1)=false:=by simp [hq1]
   go_enter Tryz.func25,Tryz.ntmps25
   go_wp2
   go_ret
   exact⟨_,rightSays_false _ _,rfl,Below.refl _ _⟩
 ·have gz:(z==(len:Int))=false:=by simp [hzl]
  go_enter Tryz.func25,Tryz.ntmps25
  go_wp2
  go_ret
  exact⟨_,rightSays_false _ _,rfl,Below.refl _ _⟩
end Go.Proofs.YtkdomegcacgpnaaGreat
