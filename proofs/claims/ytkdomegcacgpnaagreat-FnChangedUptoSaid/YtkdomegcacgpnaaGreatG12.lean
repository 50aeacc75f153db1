/- Parts of a proof: ApartK, PutK. -/
import Derived.Test.YtkdomegcacgpnaaGreatG11
import Derived.Test.YtkdomegcacgpnaaGreatG08
import Derived.Deep.LoopGhost
set_option linter.unusedVariables false
set_option linter.unusedSimpArgs false
namespace Go.Proofs.YtkdomegcacgpnaaGreat
open Go.RowKit
theorem Knots.drewN{B:Nat}{w:World}{n:Nat}{kn:Nat→Nat}{kv av:Nat→Value}{pl:Nat→Int}{lab:Nat→NodeD}{F:Wd}(h:Knots B w n kn kv av pl lab F)(q:Nat):Knots B (w.drewN q) n kn kv av pl lab F:=h.below (below_drewN (Below.refl _ _) q)
def KRow(w:World)(a:Option Addr)(g:Nat)(kn:Nat→Nat)(l:List Nat):Prop:=(0<l.length→a=some ⟨g,0,none⟩)∧∀i,i<l.length→w.cell? ⟨g,i,none⟩=some (.pointer (some ⟨kn (l.getD i 0),0,none⟩))
theorem KRow.below{w w':World}{a:Option Addr}{g:Nat}{kn:Nat→Nat}{l:List Nat}(h:KRow w a g kn l)(hb:Below w.heap.size w w'):KRow w' a g kn l:=⟨h.1,fun i hi=>cell_below hb (h.2 i hi)⟩
theorem krow_of{w:World}{B:Nat}{e:TypeId}{v:Value}{l:List Nat}{kn:Nat→Nat}(h:w.ownsRow B e 1 v l.length (l.map fun y=>ptrV (kn y))):∃a cap g,v=.slice a l.length cap∧KRow w a g kn l:=by
 obtain⟨a,cap,g,hv,_,_,h1,h2,_,_⟩:=own_open h
 exact⟨a,cap,g,hv,h1,h2⟩
def SayPost(X:Prop)(w:World)(e:Ending)(w':World):Prop:=∃b,e=.returned (.bool b)∧(b=true→X)∧w=w'
def SayPostB(X:Prop)(w:World)(e:Ending)(w':World):Prop:=∃b,e=.returned (.bool b)∧(b=true→X)∧Hid (Below w.heap.size w w')
def SameBool(b:Bool)(w:World)(e:Ending)(w':World):Prop:=e=.returned (.bool b)∧w'=w
set_option maxRecDepth 100000 in
set_option maxHeartbeats 1000000 in
theorem holdsK_any{B:Nat}{w:World}{n:Nat}{kn:Nat→Nat}{kv av:Nat→Value}{pl:Nat→Int}{lab:Nat→NodeD}{F:Wd}(h:Knots B w n kn kv av pl lab F)(hF:WOk n F){k x:Nat}(hk:k<n)(hx:x<n)(b:Bool)(hb:b=true↔Anc F k x):
  Calls Tryz.prog 110 #[.pointer (some ⟨kn k,0,none⟩),.pointer (some ⟨kn x,0,none⟩)] w (SameBool b w):=by
 obtain⟨d,M,_,hd⟩:=hF.deep
 have H:=Lib.hid h
 have HF:=Lib.hid hF
 have HD:=Lib.hid hd
 have HBB:=Lib.hid hb
 clear h hF hd hb
 go_enter Tryz.func110,Tryz.ntmps110
 go_wp2
 go_loopg [1] (d x+1) (fun gk xv wr=>Hid (wr=w)∧((∃y,y<n∧gk=d y+1∧xv=.pointer (some ⟨kn y,0,none⟩)∧Hid (Anc F k x↔Anc F k y))∨(gk=0∧xv=.pointer none∧Hid (¬Anc F k x))))
 case atStart=>exact⟨Lib.hid rfl,.inl ⟨x,hx,rfl,rfl,Lib.hid Iff.rfl⟩⟩
 case round=>
  obtain⟨HE,hcase⟩:=hrel
  have he:=HE.out
  subst he
  rcases hcase with ⟨y,hy,rfl,rfl,HI⟩ | ⟨rfl,rfl,HN⟩
  ·have c6:=(H.out.cells hy).2.1
   by_cases e:y=k
   ·subst e
    have heq:=eqlK_same wr (kn y)
    have hbt:b=true:=HBB.out.2 (HI.out.2 .refl)
    subst hbt
    clear c6
    go_wp2
    go_ret
    exact⟨rfl,rfl⟩
   ·have heq:=eqlK_other (H.out.alive hy) (H.out.alive hk) (H.out.ne hy hk e)
    have HE2:=Lib.hid e
    clear e
    cases hu:F.up y with
    | none=>
     rw [hu]at c6
     simp only [Option.map_none,lk_none]at c6
     have hno:¬Anc F k x:=fun ha=>by
      rcases(HI.out.1 ha).inv with e | ⟨p,hp,_⟩
      ·exact HE2.out e.symm
      ·rw [hu]at hp;cases hp
     have HNO:=Lib.hid hno
     clear hu hno
     go_wp2
     go_roundg 0
     case measure=>omega
     case rel=>exact⟨Lib.hid rfl,.inr ⟨rfl,rfl,HNO⟩⟩
    | some p=>
     rw [hu]at c6
     simp only [Option.map_some,lk_some]at c6
     have hpn:=(HF.out.lt p y ((HF.out.iff p y).2 hu)).1
     have hdd:=HD.out p y hu
     have hiff:Anc F k x↔Anc F k p:=by
      rw [HI.out]
      constructor
      ·intro ha
       rcases ha.inv with e | ⟨q,hq,hqa⟩
       ·exact absurd e.symm HE2.out
       ·rw [hu]at hq;cases hq;exact hqa
      ·intro ha
       exact .step hu ha
     have HIF:=Lib.hid hiff
     clear hu hiff
     go_wp2
     go_roundg (d p+1)
     case measure=>omega
     case rel=>exact⟨Lib.hid rfl,.inl ⟨p,hpn,rfl,rfl,HIF⟩⟩
  ·have hbf:b=false:=by
    cases b
    ·rfl
    ·exact absurd (HBB.out.1 rfl) HN.out
   subst hbf
   go_wp2
   go_ret
   exact⟨rfl,rfl⟩
structure ApartW (F:Wd) (l on:List Nat):Prop where
 each:∀i j,i<l.length→j<l.length→j≠i→¬Anc F (l.getD i 0) (l.getD j 0)
 on:∀i j,i<l.length→j<on.length→¬Anc F (l.getD i 0) (on.getD j 0)
set_option maxRecDepth 100000 in
set_option maxHeartbeats 4000000 in
theorem apartK_any{B:Nat}{w:World}{n:Nat}{kn:Nat→Nat}{kv av:Nat→Value}{pl:Nat→Int}{lab:Nat→NodeD}{F:Wd}(h:Knots B w n kn kv av pl lab F)(hF:WOk n F)(a1:Option Addr)(g1 c1:Nat)(l1:List Nat)(a2:Option Addr)(g2 c2:Nat)(l2:List Nat)(h1:KRow w a1 g1 kn l1)(h2:KRow w a2 g2 kn l2)(hl1:∀i∈l1,i<n)(hl2:∀i∈l2,i<n)(hm1:l1.length≤200)(hm2:l2.length≤200):
  Calls Tryz.prog 103 #[.slice a1 l1.length c1,.slice a2 l2.length c2] w (SayPostB (ApartW F l1 l2) w):=by
 classical
 have H:=Lib.hid h
 have HF:=Lib.hid hF
 have H1:=Lib.hid h1
 have H2:=Lib.hid h2
 have HL:=Lib.hid (And.intro hl1 hl2)
 have hhold:∀(wr:World),Below w.heap.size w wr→∀x y,x<n→y<n→∀q,Calls Tryz.prog 110 #[.pointer (some ⟨kn x,0,none⟩),.pointer (some ⟨kn y,0,none⟩)] (wr.drewN q) (fun e w'=>e=.returned (.bool (decide (Anc F x y)))∧w'=wr.drewN q):=fun wr hb x y hx hy q=>
  holdsK_any ((H.out.below hb).drewN q) HF.out hx hy _ (by simp)
 have HH:=Lib.hid hhold
 clear h hF h1 h2 hl1 hl2 hhold
 go_enter Tryz.func103,Tryz.ntmps103
 go_wp2
 go_loopw [5] (fun iv wr=>∃i:Nat,i≤l1.length∧iv=.int .i64 (i:Int)∧Hid (Below w.heap.size w wr)∧Hid (∀i',i'<i→(∀j,j<l1.length→j≠i'→¬Anc F (l1.getD i' 0) (l1.getD j 0))∧∀j,j<l2.length→¬Anc F (l1.getD i' 0) (l2.getD j 0))) (fun iv _=>l1.length-(intOf iv).toNat)
 case atStart=>exact⟨0,by omega,by go_num,Lib.hid (Below.refl _ _),Lib.hid (fun i hi=>by omega)⟩
 case round=>
  obtain⟨i,hi,rfl,HB,HA⟩:=hrel
  by_cases hlt:i<l1.length
  ·obtain rfl:=H1.out.1 (by omega)
   have hiI:(i:Int)<(l1.length:Int):=by omega
   have hxn:=HL.out.1 _ (getD_mem' (d:=0) hlt)
   obtain⟨x,hx⟩:∃x,l1.getD i 0=x:=⟨_,rfl⟩
   rw [hx]at hxn
   have HX:=Lib.hid hx
   clear hx
   go_wp2
   go_loopw [6] (fun jv w1=>∃j:Nat,j≤l1.length∧jv=.int .i64 (j:Int)∧Hid (Below w.heap.size w w1)∧Hid (∀j',j'<j→j'≠i→¬Anc F x (l1.getD j' 0))) (fun jv _=>l1.length-(intOf jv).toNat)
   case atStart=>exact⟨0,by omega,by go_num,HB,Lib.hid (fun j hj=>by omega)⟩
   case round=>
    obtain⟨j,hj,rfl,HB1,HJ⟩:=hrel
    by_cases hjl:j<l1.length
    ·have hjI:(j:Int)<(l1.length:Int):=by omega
     have ci:=cell_below HB1.out (H1.out.2 i hlt)
     have cj:=cell_below HB1.out (H1.out.2 j hjl)
     rw [HX.out]at ci
     have hyn:=HL.out.1 _ (getD_mem' (d:=0) hjl)
     obtain⟨y,hy⟩:∃y,l1.getD j 0=y:=⟨_,rfl⟩
     rw [hy]at cj hyn
     have HY:=Lib.hid hy
     clear hy
     by_cases e:j=i
     ·have ge:((j:Int) !=(i:Int))=false:=by simp [e]
      have HE:=Lib.hid e
      clear e
      go_wp2
      go_quiet (fail)
      go_wp2
      refine⟨?rel,?measure⟩
      case rel=>exact⟨j+1,by omega,by go_num,Lib.hid (below_drewN HB1.out _),Lib.hid (fun j' hj' hne=>HJ.out j' (by have :=HE.out;omega) hne)⟩
      case measure=>simp [intOf];omega
     ·have ge:((j:Int) !=(i:Int))=true:=by simp;omega
      have HC:=Lib.hid (HH.out wr HB1.out x y hxn hyn)
      obtain⟨b,hb⟩:∃b,decide (Anc F x y)=b:=⟨_,rfl⟩
      rw [hb]at HC
      have HBD:=Lib.hid hb
      clear hb e
      cases b
      ·go_wp2
       go_quiet (exact Calls.quiet_of_same (HC.out _))
       go_wp2
       refine⟨?rel,?measure⟩
       case rel=>
        refine⟨j+1,by omega,by go_num,Lib.hid (below_drewN HB1.out _),Lib.hid (fun j' hj' hne=>?_)⟩
        by_cases e2:j'=j
        ·subst e2
         rw [HY.out]
         exact of_decide_eq_false HBD.out
        ·exact HJ.out j' (by omega) hne
       case measure=>simp [intOf];omega
      ·go_wp2
       go_quiet (exact Calls.quiet_of_same (HC.out _))
       go_wp2
       go_ret
       exact⟨false,rfl,by simp,Lib.hid (below_drewN HB1.out _)⟩
    ·obtain rfl:j=l1.length:=by omega
     go_wp2
     go_loopw [7] (fun jv w1=>∃j:Nat,j≤l2.length∧jv=.int .i64 (j:Int)∧Hid (Below w.heap.size w w1)∧Hid (∀j',j'<j→¬Anc F x (l2.getD j' 0))) (fun jv _=>l2.length-(intOf jv).toNat)
     case atStart=>exact⟨0,by omega,by go_num,HB1,Lib.hid (fun j hj=>by omega)⟩
     case round=>
      obtain⟨m,hm,rfl,HB2,HM⟩:=hrel
      by_cases hml:m<l2.length
      ·obtain rfl:=H2.out.1 (by omega)
       have hmI:(m:Int)<(l2.length:Int):=by omega
       have ci:=cell_below HB2.out (H1.out.2 i hlt)
       have cm:=cell_below HB2.out (H2.out.2 m hml)
       rw [HX.out]at ci
       have hyn:=HL.out.2 _ (getD_mem' (d:=0) hml)
       obtain⟨y,hy⟩:∃y,l2.getD m 0=y:=⟨_,rfl⟩
       rw [hy]at cm hyn
       have HY:=Lib.hid hy
       clear hy
       have HC:=Lib.hid (HH.out wr HB2.out x y hxn hyn)
       obtain⟨b,hb⟩:∃b,decide (Anc F x y)=b:=⟨_,rfl⟩
       rw [hb]at HC
       have HBD:=Lib.hid hb
       clear hb
       cases b
       ·go_wp2
        go_quiet (exact Calls.quiet_of_same (HC.out _))
        go_wp2
        refine⟨?rel,?measure⟩
        case rel=>
         refine⟨m+1,by omega,by go_num,Lib.hid (below_drewN HB2.out _),Lib.hid (fun j' hj'=>?_)⟩
         by_cases e2:j'=m
         ·subst e2
          rw [HY.out]
          exact of_decide_eq_false HBD.out
         ·exact HM.out j' (by omega)
        case measure=>simp [intOf];omega
       ·go_wp2
        go_quiet (exact Calls.quiet_of_same (HC.out _))
        go_wp2
        go_ret
        exact⟨false,rfl,by simp,Lib.hid (below_drewN HB2.out _)⟩
      ·obtain rfl:m=l2.length:=by omega
       go_wp2
       refine⟨?rel,?measure⟩
       case rel=>
        refine⟨i+1,by omega,by go_num,HB2,Lib.hid (fun i' hi'=>?_)⟩
        by_cases e2:i'=i
        ·subst e2
         rw [HX.out]
         exact⟨HJ.out,HM.out⟩
        ·exact HA.out i' (by omega)
       case measure=>simp [intOf];omega
  ·obtain rfl:i=l1.length:=by omega
   go_wp2
   go_ret
   exact⟨true,rfl,fun _=>⟨fun i j hi hj hne=>(HA.out i hi).1 j hj hne,fun i j hi hj=>(HA.out i hi).2 j hj⟩,HB⟩
set_option maxRecDepth 100000 in
set_option maxHeartbeats 1000000 in
theorem areK_any{B:Nat}{w:World}{n:Nat}{kn:Nat→Nat}{kv av:Nat→Value}{pl:Nat→Int}{lab:Nat→NodeD}{F:Wd}(h:Knots B w n kn kv av pl lab F)(a:Option Addr)(g c:Nat)(l:List Nat)(hr:KRow w a g kn l)(hl:∀i∈l,i<n)(hm:l.length≤200):
  Calls Tryz.prog 60 #[.slice a l.length c] w (SayPost (∀i,i<l.length→(lab (l.getD i 0)).kind=3) w):=by
 have H:=Lib.hid h
 have HR:=Lib.hid hr
 have HL:=Lib.hid hl
 clear h hr hl
 go_enter Tryz.func60,Tryz.ntmps60
 go_wp2
 go_loop [3] (fun iv=>∃i:Nat,i≤l.length∧iv=.int .i64 (i:Int)∧Hid (∀j,j<i→(lab (l.getD j 0)).kind=3)) (fun iv=>l.length-(intOf iv).toNat)
 case atStart=>exact⟨0,by omega,by go_num,Lib.hid (fun j hj=>by omega)⟩
 case round=>
  obtain⟨i,hi,rfl,HA⟩:=hrel
  by_cases hlt:i<l.length
  ·obtain rfl:=HR.out.1 (by omega)
   have hiI:(i:Int)<(l.length:Int):=by omega
   have ci:=HR.out.2 i hlt
   have hx:=HL.out _ (getD_mem' (d:=0) hlt)
   obtain⟨x,hxx⟩:∃x,l.getD i 0=x:=⟨_,rfl⟩
   rw [hxx]at ci hx
   have c1:=(H.out.node x hx).cell (i:=1) (v:=.int .i64 (lab x).kind) rfl
   obtain⟨q,hq⟩:∃q,(lab x).kind=q:=⟨_,rfl⟩
   rw [hq]at c1
   have HQ:=Lib.hid (And.intro hxx hq)
   clear hxx hq
   by_cases e:q=3
   ·have ge:(q !=3)=false:=by simp [e]
    have HE:=Lib.hid e
    clear e
    go_wp2
    go_round
    case rel=>
     refine⟨i+1,by omega,by go_num,Lib.hid (fun j hj=>?_)⟩
     by_cases e:j=i
     ·subst e;rw [HQ.out.1,HQ.out.2];exact HE.out
     ·exact HA.out j (by omega)
    case measure=>simp [intOf];omega
   ·have ge:(q !=3)=true:=by simp [e]
    clear e
    go_wp2
    go_ret
    exact⟨false,rfl,by simp,rfl⟩
  ·obtain rfl:i=l.length:=by omega
   go_wp2
   go_ret
   exact⟨true,rfl,fun _=>HA.out,rfl⟩
set_option maxRecDepth 100000 in
set_option maxHeartbeats 1000000 in
theorem standK_any{B:Nat}{w:World}{n:Nat}{kn:Nat→Nat}{kv av:Nat→Value}{pl:Nat→Int}{lab:Nat→NodeD}{F:Wd}(h:Knots B w n kn kv av pl lab F)(a:Option Addr)(g c:Nat)(l:List Nat)(hr:KRow w a g kn l)(hl:∀i∈l,i<n)(hm:l.length≤200):
  Calls Tryz.prog 104 #[.slice a l.length c] w (SayPost (∀i,i<l.length→∃p,F.up (l.getD i 0)=some p) w):=by
 have H:=Lib.hid h
 have HR:=Lib.hid hr
 have HL:=Lib.hid hl
 clear h hr hl
 go_enter Tryz.func104,Tryz.ntmps104
 go_wp2
 go_loop [3] (fun iv=>∃i:Nat,i≤l.length∧iv=.int .i64 (i:Int)∧Hid (∀j,j<i→∃p,F.up (l.getD j 0)=some p)) (fun iv=>l.length-(intOf iv).toNat)
 case atStart=>exact⟨0,by omega,by go_num,Lib.hid (fun j hj=>by omega)⟩
 case round=>
  obtain⟨i,hi,rfl,HA⟩:=hrel
  by_cases hlt:i<l.length
  ·obtain rfl:=HR.out.1 (by omega)
   have hiI:(i:Int)<(l.length:Int):=by omega
   have ci:=HR.out.2 i hlt
   have hx:=HL.out _ (getD_mem' (d:=0) hlt)
   obtain⟨x,hxx⟩:∃x,l.getD i 0=x:=⟨_,rfl⟩
   rw [hxx]at ci hx
   have c6:=(H.out.cells hx).2.1
   have HQ:=Lib.hid hxx
   clear hxx
   cases hu:F.up x with
   | none=>
    rw [hu]at c6
    simp only [Option.map_none,lk_none]at c6
    clear hu
    go_wp2
    go_ret
    exact⟨false,rfl,by simp,rfl⟩
   | some p=>
    rw [hu]at c6
    simp only [Option.map_some,lk_some]at c6
    have HU:=Lib.hid hu
    clear hu
    go_wp2
    go_round
    case rel=>
     refine⟨i+1,by omega,by go_num,Lib.hid (fun j hj=>?_)⟩
     by_cases e:j=i
     ·subst e;rw [HQ.out];exact⟨p,HU.out⟩
     ·exact HA.out j (by omega)
    case measure=>simp [intOf];omega
  ·obtain rfl:i=l.length:=by omega
   go_wp2
   go_ret
   exact⟨true,rfl,fun _=>HA.out,rfl⟩
theorem slice_nilK(w:World):
  ((Instr.sliceAt 66 (.slice none 0 0) none (some (.int .i64 0)) none).run Tryz.prog w=.ok (.slice none 0 0) w∧
  (Instr.slice 66 (.slice none 0 0) none (some (.int .i64 0)) none).run Tryz.prog w=.ok (.slice none 0 0) w)∧
  (Instr.sliceAt 66 (.slice none 0 0) (some (.int .i64 0)) none none).run Tryz.prog w=.ok (.slice none 0 0) w∧
  (Instr.slice 66 (.slice none 0 0) (some (.int .i64 0)) none none).run Tryz.prog w=.ok (.slice none 0 0) w:=by
 obtain⟨i0,hi,hz0,hz1,hz2⟩:=info_parts Tryz.infoKnotP
 have h1:(Instr.slice 66 (.slice none 0 0) none (some (.int .i64 0)) none).run Tryz.prog w=.ok (.slice none 0 0) w:=by
  simp [Instr.slice,run_underlying Tryz.underlying66,Instr.sliceBounds,run_sliceBound,sizeOf,typeInfo,hi,Result.andThen,Addr.add]
 have h2:(Instr.slice 66 (.slice none 0 0) (some (.int .i64 0)) none none).run Tryz.prog w=.ok (.slice none 0 0) w:=by
  simp [Instr.slice,run_underlying Tryz.underlying66,Instr.sliceBounds,run_sliceBound,sizeOf,typeInfo,hi,Result.andThen,Addr.add]
 exact⟨⟨by simp [Instr.sliceAt,run_underlying Tryz.underlying66,h1],h1⟩,by simp [Instr.sliceAt,run_underlying Tryz.underlying66,h2],h2⟩
theorem putK_end{B:Nat}{w w4:World}{n:Nat}{kn:Nat→Nat}{kv av:Nat→Value}{pl:Nat→Int}{lab:Nat→NodeD}{F:Wd}(h:Knots B w n kn kv av pl lab F){x p:Nat}(hp:p<n)(hx:x<n){a b:List Nat}(hl:F.kids p=a++b)
  (hb:Below w.heap.size w w4) {v:Value} {N:Nat} {xs:List Value} (ho:w4.ownsRow w.heap.size 69 1 v N xs) (hN:N=(a++x::b).length) (hxs:xs=(a++x::b).map fun y=>ptrV (kn y)):
  Knots B ((w4.setCell ⟨kn p,7,none⟩ v).setCell ⟨kn x,6,none⟩ (.pointer (some ⟨kn p,0,none⟩))) n kn (updV kv p v) av pl lab (F.put p a.length x)∧OnlyK n kn w ((w4.setCell ⟨kn p,7,none⟩ v).setCell ⟨kn x,6,none⟩ (.pointer (some ⟨kn p,0,none⟩))):=by
 subst hN hxs
 have hBw:B≤w.heap.size:=Nat.le_trans (h.base p hp) (Nat.le_of_lt (h.node p hp).lt)
 have h3:=h.below hb
 have h4:=h3.set7 hp (ownsRow_base ho hBw)
 have h5:=h4.set6 hx (some p)
 have o3:OnlyK n kn w w4:=OnlyK.of_below hb
 have o4:=o3.set hp (h3.node p hp) 7 v
 have o5:=o4.set hx (h4.node x hx) 6 (.pointer (some ⟨kn p,0,none⟩))
 simp only [Option.map_some,lk_some]at h5
 refine⟨h5.congr (fun i hi=>?_) (fun i hi=>rfl),o5⟩
 simp only [Wd.put]
 by_cases e:i=p
 ·subst e
  rw [if_pos rfl,if_pos rfl,hl]
  simp
 ·rw [if_neg e,if_neg e]
set_option maxRecDepth 100000 in
set_option maxHeartbeats 4000000 in
theorem putK_core{B:Nat}{w:World}{n:Nat}{kn:Nat→Nat}{kv av:Nat→Value}{pl:Nat→Int}{lab:Nat→NodeD}{F:Wd}(h:Knots B w n kn kv av pl lab F){x p:Nat}(hp:p<n)(hx:x<n)(hxp:x≠p)(hu:F.up x=none)(a b:List Nat)(hl:F.kids p=a++b)
  (s0 sA sB:Option Addr) (m L cap capA capB:Nat) (c7:w.cell? ⟨kn p,7,none⟩=some (.slice s0 L cap)) (hm:a.length=m) (hr:b.length=L-m) (hL:L≤1000000) (hmL:m≤L)
  (hs1:∀w,(Instr.sliceAt 66 (.slice s0 L cap) none (some (.int .i64 (m:Int))) none).run Tryz.prog w=.ok (.slice sA m capA) w∧(Instr.slice 66 (.slice s0 L cap) none (some (.int .i64 (m:Int))) none).run Tryz.prog w=.ok (.slice sA m capA) w)
  (hs2:∀w,(Instr.sliceAt 66 (.slice s0 L cap) (some (.int .i64 (m:Int))) none none).run Tryz.prog w=.ok (.slice sB (L-m) capB) w∧(Instr.slice 66 (.slice s0 L cap) (some (.int .i64 (m:Int))) none none).run Tryz.prog w=.ok (.slice sB (L-m) capB) w)
  (hra:Row w sA m (a.map fun y=>ptrV (kn y))) (hrb:Row w sB (L-m) (b.map fun y=>ptrV (kn y))):
  Calls Tryz.prog 108 #[.pointer (some ⟨kn p,0,none⟩),.int .i64 (m:Int),.pointer (some ⟨kn x,0,none⟩)] w (TurnKPost B n kn av pl lab (F.put p m x) w):=by
 obtain⟨i0,hi,hz0,hz1,hz2⟩:=info_parts Tryz.infoKnotP
 have hcn:=cut_none h hx hu
 have HCN:=Lib.hid hcn
 have H:=Lib.hid h
 have HX:=Lib.hid (And.intro hp (And.intro hx hxp))
 have HL:=Lib.hid (And.intro hl (And.intro hm hr))
 have HRA:=Lib.hid hra
 have HRB:=Lib.hid hrb
 have t1:=fun w=>(hs1 w).1
 have t1':=fun w=>(hs1 w).2
 have t2:=fun w=>(hs2 w).1
 have t2':=fun w=>(hs2 w).2
 have lp:=World.block_lt_of_cell? w _ c7
 clear hcn h hp hx hxp hl hm hr hra hrb hu hs1 hs2
 go_enter Tryz.func108,Tryz.ntmps108
 go_wp2_with fail
 refine HCN.out.mono ?_
 rintro e w1 ⟨rfl,rfl⟩
 have c7a:(w.alloc (.cells #[] 69)).cell? ⟨kn p,7,none⟩=some (.slice s0 L cap):=cell_alloc_old c7 _
 clear HCN
 go_wp2_with (at_builtin;refine wpList_append_reads rfl _ _ 66 rfl w.heap.size 69 i0 (.pointer none) 8 Tryz.underlying66 hi hz0 hz1 hz2 rfl (some ⟨w.heap.size,0,none⟩) 0 0 [] rfl (owns_empty w w.heap.size (Nat.le_refl _) _) sA m capA (a.map fun y=>ptrV (kn y)) rfl (HRA.out.below ((Below.refl _ _).alloc (Nat.le_refl _) _)) ptrK_one (by unfold maxLen;omega) (by omega) (by simp) ?_)
 intro b2 c2 w2 hown2 hgrow2
 (try rw [Nat.zero_add,List.nil_append]at hown2)
 (try rw [Nat.zero_add])
 have hbel2:Below w.heap.size w w2:=((Below.refl _ _).alloc (Nat.le_refl _) _).grown hgrow2 (by simp) (fun q hq=>by simp [Value.ownBlock]at hq;omega)
 have hs2z:=hbel2.size
 have hownA:=World.ownsRow.alloc hown2 (.cells #[.pointer (some ⟨kn x,0,none⟩)] 69)
 have hnews:∀j u,[Value.pointer (some ⟨kn x,0,none⟩)][j]? =some u→(w2.alloc (.cells #[.pointer (some ⟨kn x,0,none⟩)] 69)).cell? ((⟨w2.heap.size,0,none⟩:Addr).add j)=some u:=
  World.news_of_block (cs:= #[.pointer (some ⟨kn x,0,none⟩)]) (t:=69) (fr:=(0,0)) (heap_alloc_new w2 _)
 have HOA:=Lib.hid hownA
 have HNEWS:=Lib.hid hnews
 have HB2:=Lib.hid (And.intro hbel2 hown2)
 clear hownA hnews hbel2 hown2 hgrow2 c7a
 go_wp2_with (at_builtin;refine wpList_append_lies _ rfl _ _ 66 rfl w.heap.size 69 i0 (.pointer none) 1 8 Tryz.underlying66 hi hz0 hz1 hz2 rfl (by decide) (.slice b2 m c2) m (a.map fun y=>ptrV (kn y)) rfl HOA.out ⟨w2.heap.size,0,none⟩ 1 1 [.pointer (some ⟨kn x,0,none⟩)] rfl rfl HNEWS.out (by simp [Value.oneCell']) (by omega) (by unfold maxLen;omega) (by omega) (by simp;omega) _ rfl ?_)
 intro g3 c3 w3 hown3 hgrow3 hat3 hlt3
 have hbel3:Below w.heap.size w w3:=(HB2.out.1.alloc hs2z _).grown hgrow3 (by simp;omega) (fun q hq=>(World.ownsRow.lt HOA.out q hq).1)
 have hs3z:=hbel3.size
 have c7b:=cell_below hbel3 c7
 have hrb3:=HRB.out.below hbel3
 have HO3:=Lib.hid (And.intro hown3 (And.intro hbel3 hrb3))
 clear hown3 hgrow3 hat3 hlt3 hbel3 hrb3 HOA HNEWS HB2 HRA HRB
 go_wp2_with (at_builtin;refine wpList_append_reads rfl _ _ 66 rfl w.heap.size 69 i0 (.pointer none) 8 Tryz.underlying66 hi hz0 hz1 hz2 rfl (some ⟨g3,0,none⟩) (m+1) c3 _ rfl HO3.out.1 sB (L-m) capB (b.map fun y=>ptrV (kn y)) rfl HO3.out.2.2 ptrK_one (by unfold maxLen;omega) (by omega) hs3z ?_)
 intro b4 c4 w4 hown4 hgrow4
 have hbel4:Below w.heap.size w w4:=HO3.out.2.1.grown hgrow4 hs3z (fun q hq=>(World.ownsRow.lt HO3.out.1 q hq).1)
 have hl:=HL.out
 have hE:=putK_end H.out HX.out.1 HX.out.2.1 hl.1 hbel4 hown4 (by rw [List.length_append,List.length_cons,hl.2.1,hl.2.2];omega) (by simp [ptrV])
 rw [hl.2.1]at hE
 have h4:=H.out.below hbel4
 have k7:=(h4.node p HX.out.1).free 7
 have k7c:=(h4.cells HX.out.1).2.2
 have hop:=h4.node p HX.out.1
 have hne:=H.out.ne HX.out.2.1 HX.out.1 HX.out.2.2
 have k6c:∀u,(w4.setCell ⟨kn p,7,none⟩ u).cell? ⟨kn x,6,none⟩=w4.cell? ⟨kn x,6,none⟩:=fun u=>cell_setCell_far hop 7 u hne
 have k6c':=fun u=>(k6c u).trans (h4.cells HX.out.2.1).2.1
 have k6:∀u,(w4.setCell ⟨kn p,7,none⟩ u).frozen? ⟨kn x,6,none⟩=false:=fun u=>by
  have h5:=h4.node x HX.out.2.1
  have h6:World.objAt (w4.setCell ⟨kn p,7,none⟩ u) (kn x) (knotCells (pl x) (lab x) (av x) ((F.up x).map kn) (kv x)) 97:=by
   unfold World.objAt at h5 ⊢
   rw [setCell_block hop 7 u hne]
   exact h5
  exact h6.free 6
 have HE:=Lib.hid hE
 clear hE hbel4 hown4 hgrow4 hl h4 hop hne k6c
 go_wp2
 go_end0
 exact⟨_,rfl,Lib.hid HE.out.1,Lib.hid HE.out.2⟩
theorem putK_any{B:Nat}{w:World}{n:Nat}{kn:Nat→Nat}{kv av:Nat→Value}{pl:Nat→Int}{lab:Nat→NodeD}{F:Wd}(h:Knots B w n kn kv av pl lab F){x p:Nat}(hp:p<n)(hx:x<n)(hxp:x≠p)(hu:F.up x=none)(a b:List Nat)(hl:F.kids p=a++b)(hlen:(F.kids p).length≤1000000):
  Calls Tryz.prog 108 #[.pointer (some ⟨kn p,0,none⟩),.int .i64 (a.length:Int),.pointer (some ⟨kn x,0,none⟩)] w (TurnKPost B n kn av pl lab (F.put p a.length x) w):=by
 have hrow:=h.row p hp
 obtain⟨s,cap,g,hv,hcap,hcm,hs,hc,hsg,hs0⟩:=own_open hrow
 have c7:=(h.cells hp).2.2
 rw [hv]at c7
 have hL:(F.kids p).length=a.length+b.length:=by rw [hl];simp
 have hr1:∀A,(0<a.length→A=some ⟨g,0,none⟩)→Row w A a.length (a.map fun y=>ptrV (kn y)):=fun A hA=>by
  refine⟨by simp,by unfold maxLen;omega,fun h0=>⟨g,0,hA h0,fun i hi=>?_⟩⟩
  rw [Nat.zero_add,hc i (by omega),hl]
  simp [List.getD,hi,List.getElem?_append_left hi,ptrV]
 have hr2:∀A,(0<b.length→A=some ⟨g,a.length,none⟩)→Row w A ((F.kids p).length- a.length) (b.map fun y=>ptrV (kn y)):=fun A hA=>by
  have e:(F.kids p).length- a.length=b.length:=by omega
  rw [e]
  refine⟨by simp,by unfold maxLen;omega,fun h0=>⟨g,a.length,hA h0,fun i hi=>?_⟩⟩
  rw [hc (a.length+i) (by omega),hl]
  have :(a++b).getD (a.length+i) 0=b.getD i 0:=by
   rw [List.getD_eq_getElem?_getD,List.getElem?_append_right (by omega),show a.length+i-a.length=i by omega,List.getD_eq_getElem?_getD]
  rw [this]
  simp [List.getD,hi,ptrV]
 rcases hsg with rfl | rfl
 ·have h0:=hs0 rfl
  have ha:a.length=0:=by omega
  have hb:b.length=0:=by omega
  obtain rfl:a=[]:=List.eq_nil_of_length_eq_zero ha
  obtain rfl:b=[]:=List.eq_nil_of_length_eq_zero hb
  have e0:(F.kids p).length=0:=by omega
  subst h0
  rw [e0]at c7
  exact putK_core h hp hx hxp hu [] [] hl none none none 0 0 0 0 0 c7 rfl rfl (by omega) (by omega) (fun w=>(slice_nilK w).1) (fun w=>(slice_nilK w).2) ⟨rfl,Nat.zero_le _,fun h=>by omega⟩ ⟨rfl,Nat.zero_le _,fun h=>by omega⟩
 ·obtain⟨A,hA1,hA2⟩:=slice_lo (g:=g) (L:=(F.kids p).length) (cap:=cap) (m:=a.length) (by omega) (a.length:Int) rfl
  exact putK_core h hp hx hxp hu a b hl (some ⟨g,0,none⟩) (some ⟨g,0,none⟩) A a.length (F.kids p).length cap cap (cap-a.length) c7 rfl (by omega) hlen (by omega) (fun w=>slice_hi (by omega) w) hA1 (hr1 _ (fun _=>rfl)) (hr2 _ (fun h0=>by
   rcases hA2 with h | ⟨h,_⟩
   ·exact h
   ·omega))
end Go.Proofs.YtkdomegcacgpnaaGreat
