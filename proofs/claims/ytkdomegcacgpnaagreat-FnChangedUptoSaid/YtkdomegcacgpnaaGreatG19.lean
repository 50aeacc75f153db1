/- Parts of a proof: CloneAll. -/
import Derived.Test.YtkdomegcacgpnaaGreatG18
import Derived.Laws.CopyRow
import Derived.Laws.CopyOwn
import Derived.Laws.MakeOwn
import Derived.Deep.RegionLaw
import Derived.Test.YtkdomegcacgpnaaGreatG14
import Derived.Test.YtkdomegcacgpnaaGreatG09
import Derived.BigRegion
import Derived.RegionTactic
set_option linter.unusedVariables false
set_option linter.unusedSimpArgs false
namespace Go.Proofs.YtkdomegcacgpnaaGreat
open Go.RowKit
def blankAttrs(n:Nat):Array Value:=madeCells #[.string ByteArray.empty,.string ByteArray.empty,.string ByteArray.empty] (n*3)
theorem Tryz.infoAttrT:(Tryz.prog.info? 119).map (fun i=>(i.zero,i.size,i.bytes))=some (some (.agg #[.string ByteArray.empty,.string ByteArray.empty,.string ByteArray.empty]),3,48):=by kernel_rfl
theorem attr_make(n:Nat)(hn:n≤100)(w:World):(Instr.makeSlice 112 (.int .i64 (n:Int)) (.int .i64 (n:Int))).run Tryz.prog w=.ok (.slice (some ⟨w.heap.size,0,none⟩) n n) (w.alloc (.cells (blankAttrs n) 119)):=by
 obtain⟨i0,hi,hz0,hz1,hz2⟩:=info_parts Tryz.infoAttrT
 have h:=run_make (P:=Tryz.prog) w 112 119 i0 _ Tryz.underlying112 hi hz0 .i64 .i64 (n:Int) (n:Int) (by omega) (Int.le_refl _) (by rw [hz2];omega) (by omega)
 simp only [Int.toNat_natCast,hz1]at h
 exact h
theorem run_copy_attr{P:Program}(w:World)(dT sT ty elem:TypeId)(g dCap:Nat)(sp:Option Addr)(n sCap:Nat)(cur:Array Value)(t:TypeId)(cs:List Value)
  (hu:P.underlying dT=some (.slice elem)) (hs:(P.info? elem).map (·.size)=some 3)
  (hg:w.heap[g]? =some (.cells cur t (0,0))) (hn:cs.length=n*3) (hc:cur.size=n*3)
  (hsrc:0<n→∃b,sp=some b∧∀j v,cs[j]? =some v→w.cell? (b.add j)=some v) (h1:∀v∈cs,v.oneCell'=true):
  (Builtin.copy_ #[dT,sT] ty #[.slice (some ⟨g,0,none⟩) n dCap,.slice sp n sCap]).run P w=.ok (goInt n) (w.setRow g cs.toArray):=by
 cases hq:P.info? elem with
 | none=>simp [hq]at hs
 | some i=>
  have hi:i.size=3:=by simpa [hq]using hs
  have hst:=run_storeCells_at P g 0 t cs 0 cur w hg (by rw [hc,hn];omega) h1
  have e1:(cur.toList.take (0+0)++cs++cur.toList.drop (0+0+cs.length))=cs:=by
   rw [Nat.zero_add,List.take_zero,List.nil_append,List.drop_of_length_le (by rw [Array.length_toList,hc,hn];omega),List.append_nil]
  rw [e1]at hst
  by_cases h0:n=0
  ·subst h0
   obtain rfl:cs=[]:=List.eq_nil_of_length_eq_zero (by omega)
   have hl:∀(x:Addr),(loadCells x 0).run P w=.ok #[] w:=fun x=>by simpa using run_loadCells_list (P:=P) w x [] (by simp)
   cases sp <;> simp [Builtin.copy_,run_underlying hu,Builtin.lenOf,Builtin.firstCells,sizeOf,typeInfo,hq,hi,hst,hl]
  ·obtain⟨b,rfl,hc2⟩:=hsrc (by omega)
   have hl:=run_loadCells_list (P:=P) w b cs hc2
   rw [hn]at hl
   simp [Builtin.copy_,run_underlying hu,Builtin.lenOf,Builtin.firstCells,sizeOf,typeInfo,hq,hi,hl,hst]
theorem step_copy_attr{P:Program}{ops:Array Oper}{o:Oper}{a:Act}{w:World}{K:Act→World→Prop}{Q:Exit→Act→World→Prop}{E:Prop}(hgd:o.guard=none)(d s:Operand)(dT sT:TypeId)
  (ho:o.op=.call {callee:=.builtin .copy,args:= #[d,s],argTypes:= #[dT,sT]}) (elem:TypeId) (hu:P.underlying dT=some (.slice elem)) (hsz:(P.info? elem).map (·.size)=some 3)
  (g dCap:Nat) (sp:Option Addr) (n sCap:Nat) (hd:a.eval d=.slice (some ⟨g,0,none⟩) n dCap) (hs:a.eval s=.slice sp n sCap)
  (cur:Array Value) (t:TypeId) (hg:w.heap[g]? =some (.cells cur t (0,0))) (cs:List Value) (hn:cs.length=n*3) (hc:cur.size=n*3)
  (hsrc:0<n→∃b,sp=some b∧∀j v,cs[j]? =some v→w.cell? (b.add j)=some v) (h1:∀v∈cs,v.oneCell'=true)
  (h:∀w',w.setRow g cs.toArray=w'→K (a.put o.dst (goInt n)) w'):
  if Region.wanted o (yielded ops a.tmps)=true then Oper.wp P o a w K Q else E:=by
 have hw:Region.wanted o (yielded ops a.tmps)=true:=by simp [Region.wanted,hgd]
 rw [if_pos hw]
 have hrun:=run_copy_attr (P:=P) w dT sT o.type elem g dCap sp n sCap cur t cs hu hsz hg hn hc hsrc h1
 unfold Oper.wp
 simp [execOp,ho,resolve,invoke,builtin,hd,hs,hrun,Result.andThen]
 exact h _ rfl
theorem attrCells_len:∀(l:List (ByteArray×ByteArray)),(attrCells l).length=l.length*3
 | []=>rfl
 | a::r=>by
  rw [show attrCells (a::r)=[Value.string ByteArray.empty,.string a.1,.string a.2]++attrCells r from rfl,List.length_append,attrCells_len r]
  simp
  omega
theorem attrCells_one:∀(l:List (ByteArray×ByteArray)),∀v∈attrCells l,v.oneCell'=true:=by
 intro l v hv
 obtain⟨y,_,hy⟩:=List.mem_flatMap.1 hv
 simp at hy
 rcases hy with rfl | rfl | rfl <;> rfl
theorem attr_src{w:World}{B:Nat}{sp:Option Addr}{n cap:Nat}{l:List (ByteArray×ByteArray)}(h:w.ownsRow B 119 3 (.slice sp n cap) n (attrCells l)):
  0<n→∃b,sp=some b∧∀j v,(attrCells l)[j]? =some v→w.cell? (b.add j)=some v:=by
 intro h0
 rcases h.2 with ⟨hv,hz⟩ | ⟨g,cap',cur,hv,hb,hg,hn,hm,hcs,ht⟩
 ·omega
 ·simp only [Value.slice.injEq]at hv
  obtain⟨rfl,_⟩:=hv
  exact⟨_,rfl,fun j v hj=>h.cells (g:=g) rfl j v hj⟩
end Go.Proofs.YtkdomegcacgpnaaGreat
namespace Go.Proofs.YtkdomegcacgpnaaGreat
open Go.RowKit
def NewPost(H B n:Nat)(nb:Nat→Nat)(v:Nat→Value)(lab:Nat→NodeD)(F:Wd)(w:World)(e:Ending)(w':World):Prop:=TurnPost B n nb v lab F w e w'∧Hid (Below H w w')
set_option maxRecDepth 100000 in
set_option maxHeartbeats 1000000 in
theorem apn_nn{B n:Nat}(H:Nat){w:World}{nb:Nat→Nat}{v:Nat→Value}{lab:Nat→NodeD}{F:Wd}(h:DomAt B w n nb v lab F)(hF:WOk n F){x p:Nat}(hp:p<n)(hx:x<n)(hxp:x≠p)(hu:F.up x=none)(hHp:H≤nb p)(hHx:H≤nb x)(hHk:∀q∈F.kids p,H≤nb q)(hl:F.kids p=[]++[]):
  Calls Tryz.prog 82 #[.pointer (some ⟨nb p,0,none⟩),.pointer (some ⟨nb x,0,none⟩)] w (NewPost H B n nb v lab (F.put p ([]:List Nat).length x) w):=by
 have hxk:∀g,x∉F.kids g:=fun g hm=>by rw [hF.iff,hu]at hm;cases hm
 have hnd:(([]:List Nat)++x::([]:List Nat)).Nodup:=by
  have :=nodup_put (hF.nd p) ([]:List Nat).length (x:=x) (hxk p)
  rw [hl,take_len,drop_len]at this
  exact this
 obtain⟨n1,n2,n3,n4,n5,n6⟩:=nd_parts hnd
 have e0:(linkR F nb (lab x) (v x) x).par=none:=by unfold linkR;rw [hu];rfl
 have e3:(linkR F nb (lab x) (v x) x).prv=none:=by unfold linkR;rw [hu];rfl
 have e4:(linkR F nb (lab x) (v x) x).nxt=none:=by unfold linkR;rw [hu];rfl
 have e5:(linkR F nb (lab p) (v p) p).lst=([]:List Nat).getLast?.map nb:=by
  show(F.kids p).getLast?.map nb=_
  rw [hl,List.append_nil]
 refine(appendChild_nn (nb p) (nb x) _ _ w (h.node p hp) (h.node x hx) (h.ne hp hx (Ne.symm hxp)) e0 e3 e4 e5).mono ?_
 rintro e w' ⟨he,w1,hw0,hw1⟩
 have hon:OnlyN n nb w w':=(only_put (only_put (OnlyN.refl n nb w) hp hw0) hx hw1)
 have hbl:Below H w w':=by rw [←hw1,←hw0];exact below_putN (below_putN (Below.refl _ _) hHp _) hHx _
 refine⟨⟨he,Lib.hid (h.turn hon (fun i hi=>?_)),Lib.hid hon⟩,Lib.hid hbl⟩
 by_cases ep:i=p
 ·rw [ep]
  rw [put_rec (a:=([]:List Nat)) (b:=([]:List Nat)) hF hu hl (Ne.symm hxp)]
  have hh:=(at_other (at_same (h.node p hp) hw0) (h.ne hp hx (Ne.symm hxp)) hw1)
  first
   | simpa [List.getLast?_concat,List.head?_cons,List.getLast?_nil,List.head?_nil]using hh
   | (refine Eq.mp (congrArg _ ?_) hh;simp [List.getLast?_concat,List.head?_cons,List.getLast?_nil,List.head?_nil,linkR,hl])
 by_cases ex:i=x
 ·rw [ex]
  rw [put_self (a:=([]:List Nat)) (b:=([]:List Nat)) hF hxp hu hl]
  have hh:=(at_same (at_other (h.node x hx) (h.ne hp hx (Ne.symm hxp)).symm hw0) hw1)
  simpa using hh
 rw [put_rec (a:=([]:List Nat)) (b:=([]:List Nat)) hF hu hl ex]
 have hh:=(at_other (at_other (h.node i hi) (h.ne hi hp ep) hw0) (h.ne hi hx ex) hw1)
 simpa [List.getLast?_concat,List.head?_cons,List.getLast?_nil,List.head?_nil,ep]using hh
set_option maxRecDepth 100000 in
set_option maxHeartbeats 1000000 in
theorem apn_sn{B n:Nat}(H:Nat){w:World}{nb:Nat→Nat}{v:Nat→Value}{lab:Nat→NodeD}{F:Wd}(h:DomAt B w n nb v lab F)(hF:WOk n F){x p:Nat}(hp:p<n)(hx:x<n)(hxp:x≠p)(hu:F.up x=none)(hHp:H≤nb p)(hHx:H≤nb x)(hHk:∀q∈F.kids p,H≤nb q)(a':List Nat)(q:Nat)(hl:F.kids p=(a'++[q])++[]):
  Calls Tryz.prog 82 #[.pointer (some ⟨nb p,0,none⟩),.pointer (some ⟨nb x,0,none⟩)] w (NewPost H B n nb v lab (F.put p (a'++[q]).length x) w):=by
 have hxk:∀g,x∉F.kids g:=fun g hm=>by rw [hF.iff,hu]at hm;cases hm
 have hnd:((a'++[q])++x::([]:List Nat)).Nodup:=by
  have :=nodup_put (hF.nd p) (a'++[q]).length (x:=x) (hxk p)
  rw [hl,take_len,drop_len]at this
  exact this
 obtain⟨n1,n2,n3,n4,n5,n6⟩:=nd_parts hnd
 have huq:F.up q=some p:=(hF.iff p q).1 (by rw [hl];simp)
 have hq:=(hF.ltUp huq).1
 have hqp:q≠p:=hF.irr huq
 have hqx:q≠x:=fun e=>n1 (by rw [←e];simp)
 have e0:(linkR F nb (lab x) (v x) x).par=none:=by unfold linkR;rw [hu];rfl
 have e3:(linkR F nb (lab x) (v x) x).prv=none:=by unfold linkR;rw [hu];rfl
 have e4:(linkR F nb (lab x) (v x) x).nxt=none:=by unfold linkR;rw [hu];rfl
 have e5:(linkR F nb (lab p) (v p) p).lst=(a'++[q]).getLast?.map nb:=by
  show(F.kids p).getLast?.map nb=_
  rw [hl,List.append_nil]
 rw [List.getLast?_concat]at e5
 refine(appendChild_sn (nb p) (nb x) (nb q) _ _ _ w (h.node p hp) (h.node x hx) (h.node q hq) (h.ne hp hx (Ne.symm hxp)) (h.ne hp hq (Ne.symm hqp)) (h.ne hx hq (Ne.symm hqx)) e0 e3 e4 e5).mono ?_
 rintro e w' ⟨he,w1,hw0,w2,hw1,hw2⟩
 have hon:OnlyN n nb w w':=(only_put (only_put (only_put (OnlyN.refl n nb w) hq hw0) hp hw1) hx hw2)
 have hbl:Below H w w':=by rw [←hw2,←hw1,←hw0];exact below_putN (below_putN (below_putN (Below.refl _ _) (hHk q (by rw [hl];simp)) _) hHp _) hHx _
 refine⟨⟨he,Lib.hid (h.turn hon (fun i hi=>?_)),Lib.hid hon⟩,Lib.hid hbl⟩
 by_cases ep:i=p
 ·rw [ep]
  rw [put_rec (a:=(a'++[q])) (b:=([]:List Nat)) hF hu hl (Ne.symm hxp)]
  have hh:=(at_other (at_same (at_other (h.node p hp) (h.ne hp hq (Ne.symm hqp)) hw0) hw1) (h.ne hp hx (Ne.symm hxp)) hw2)
  first
   | simpa [List.getLast?_concat,List.head?_cons,List.getLast?_nil,List.head?_nil,hqp]using hh
   | (refine Eq.mp (congrArg _ ?_) hh;simp [List.getLast?_concat,List.head?_cons,List.getLast?_nil,List.head?_nil,hqp,linkR,hl])
 by_cases ex:i=x
 ·rw [ex]
  rw [put_self (a:=(a'++[q])) (b:=([]:List Nat)) hF hxp hu hl]
  have hh:=(at_same (at_other (at_other (h.node x hx) (h.ne hx hq (Ne.symm hqx)) hw0) (h.ne hp hx (Ne.symm hxp)).symm hw1) hw2)
  simpa using hh
 by_cases eq:i=q
 ·rw [eq]
  rw [put_rec (a:=(a'++[q])) (b:=([]:List Nat)) hF hu hl hqx]
  have hh:=(at_other (at_other (at_same (h.node q hq) hw0) (h.ne hp hq (Ne.symm hqp)).symm hw1) (h.ne hx hq (Ne.symm hqx)).symm hw2)
  first
   | simpa [List.getLast?_concat,List.head?_cons,List.getLast?_nil,List.head?_nil,hqp]using hh
   | (refine Eq.mp (congrArg _ ?_) hh;simp [List.getLast?_concat,List.head?_cons,List.getLast?_nil,List.head?_nil,hqp,linkR,hl])
 rw [put_rec (a:=(a'++[q])) (b:=([]:List Nat)) hF hu hl ex]
 have hh:=(at_other (at_other (at_other (h.node i hi) (h.ne hi hq eq) hw0) (h.ne hi hp ep) hw1) (h.ne hi hx ex) hw2)
 simpa [List.getLast?_concat,List.head?_cons,List.getLast?_nil,List.head?_nil,ep,Ne.symm eq,eq]using hh
theorem appendNew_any{B n:Nat}(H:Nat){w:World}{nb:Nat→Nat}{v:Nat→Value}{lab:Nat→NodeD}{F:Wd}(h:DomAt B w n nb v lab F)(hF:WOk n F){x p:Nat}(hp:p<n)(hx:x<n)(hxp:x≠p)(hu:F.up x=none)(hHp:H≤nb p)(hHx:H≤nb x)(hHk:∀q∈F.kids p,H≤nb q):
  Calls Tryz.prog 82 #[.pointer (some ⟨nb p,0,none⟩),.pointer (some ⟨nb x,0,none⟩)] w (NewPost H B n nb v lab (F.put p (F.kids p).length x) w):=by
 rcases nil_or_snoc (F.kids p)with h0 | ⟨a',q,h0⟩
 ·have :=apn_nn H h hF hp hx hxp hu hHp hHx hHk (by rw [h0];rfl)
  rwa [h0]
 ·have :=apn_sn H h hF hp hx hxp hu hHp hHx hHk a' q (by rw [h0,List.append_nil])
  rwa [h0]
end Go.Proofs.YtkdomegcacgpnaaGreat
namespace Go.Proofs.YtkdomegcacgpnaaGreat
open Go.RowKit
theorem prvIn_mem{x y:Nat}:∀l:List Nat,prvIn l x=some y→y∈l
 | a::b::r,h=>by
  simp only [prvIn]at h
  split at h
  ·simp at h;simp [h]
  ·exact List.mem_cons_of_mem _ (prvIn_mem (b::r) h)
theorem nxtIn_mem{x y:Nat}:∀l:List Nat,nxtIn l x=some y→y∈l
 | a::b::r,h=>by
  simp only [nxtIn]at h
  split at h
  ·simp at h;simp [h]
  ·exact List.mem_cons_of_mem _ (nxtIn_mem (b::r) h)
theorem map_agree{n:Nat}{f g:Nat→Nat}(h:∀j,j<n→f j=g j){o:Option Nat}(ho:∀y,o=some y→y<n):o.map f=o.map g:=by
 cases o with
 | none=>rfl
 | some y=>simp [h y (ho y rfl)]
theorem linkR_congr{n:Nat}{F:Wd}(hF:WOk n F){nb nb':Nat→Nat}(h:∀j,j<n→nb j=nb' j)(m:NodeD)(v:Value)(i:Nat):linkR F nb m v i=linkR F nb' m v i:=by
 unfold linkR
 have hk:∀p y,y∈F.kids p→y<n:=fun p y hy=>(hF.lt p y hy).2
 rw [map_agree h (fun y hy=>(hF.lt y i ((hF.iff y i).2 hy)).1),map_agree h (fun y hy=>hk i y (List.mem_of_mem_head? hy)),map_agree h (fun y hy=>hk i y (List.mem_of_getLast? hy)),
  map_agree h (o:=(F.up i).bind fun p=>prvIn (F.kids p) i) (fun y hy=>by
   obtain⟨p,_,hp⟩:=Option.bind_eq_some_iff.1 hy
   exact hk p y (prvIn_mem _ hp)),
  map_agree h (o:=(F.up i).bind fun p=>nxtIn (F.kids p) i) (fun y hy=>by
   obtain⟨p,_,hp⟩:=Option.bind_eq_some_iff.1 hy
   exact hk p y (nxtIn_mem _ hp))]
def soloR(m:NodeD)(u:Value):NRec:={par:=none,fst:=none,lst:=none,prv:=none,nxt:=none,ty:=tyOf m.kind,atom:=0,data:=dataOf m,ns:=ByteArray.empty,attr:=u}
theorem DomAt.more{B:Nat}{w:World}{n:Nat}{nb:Nat→Nat}{v:Nat→Value}{lab:Nat→NodeD}{F:Wd}(h:DomAt B w n nb v lab F)(hF:WOk n F){b:Nat}{m:NodeD}{u:Value}(hn:World.nodeAt w b (soloR m u))(ho:w.ownsRow B 119 3 u m.attrs.length (attrCells m.attrs))(hb:B≤b)(hne:∀i,i<n→nb i≠b)
  (hsep:∀i,i<n→∀c,(v i).ownBlock=some c→u.ownBlock≠some c):DomAt B w (n+1) (upd nb n b) (updV v n u) (upd lab n m) F:=by
 obtain⟨l1,l2⟩:=hF.lone (Nat.le_refl n)
 refine⟨fun i hi=>?_,fun i hi=>?_,fun i hi=>?_,fun i j hi hj he=>?_,fun i j hi hj hij c hc=>?_⟩
 ·by_cases e:i=n
  ·subst e
   have :linkR F (upd nb i b) (upd lab i m i) (updV v i u i) i=soloR m u:=by
    unfold linkR soloR
    rw [l1,l2,upd_same]
    simp [updV]
   rw [this,upd_same]
   exact hn
  ·have hi2:i<n:=by omega
   rw [←linkR_congr hF (fun j hj=>(upd_other nb b (by omega)).symm),upd_other _ _ e,upd_other _ _ e]
   simp only [updV,if_neg e]
   exact h.node i hi2
 ·by_cases e:i=n
  ·subst e
   rw [upd_same]
   simp only [updV,if_true]
   exact ho
  ·rw [upd_other _ _ e]
   simp only [updV,if_neg e]
   exact h.own i (by omega)
 ·by_cases e:i=n
  ·subst e;rw [upd_same];exact hb
  ·rw [upd_other _ _ e];exact h.base i (by omega)
 ·by_cases e:i=n
  ·by_cases e2:j=n
   ·rw [e,e2]
   ·subst e
    rw [upd_same,upd_other _ _ e2]at he
    exact absurd he.symm (hne j (by omega))
  ·by_cases e2:j=n
   ·subst e2
    rw [upd_same,upd_other _ _ e]at he
    exact absurd he (hne i (by omega))
   ·rw [upd_other _ _ e,upd_other _ _ e2]at he
    exact h.inj i j (by omega) (by omega) he
 ·unfold updV at hc ⊢
  by_cases e:i=n
  ·rw [if_pos e]at hc
   rw [if_neg (by omega)]
   intro h9
   exact hsep j (by omega) c h9 hc
  ·rw [if_neg e]at hc
   by_cases e2:j=n
   ·rw [if_pos e2]
    exact hsep i (by omega) c hc
   ·rw [if_neg e2]
    exact h.sep i j (by omega) (by omega) hij c hc
structure ClonedW (H n:Nat) (nb:Nat→Nat) (v:Nat→Value) (lab:Nat→NodeD) (F:Wd) (L:List Nat) (nb':Nat→Nat) (v':Nat→Value) (lab':Nat→NodeD):Prop where
 old:∀i,i<n→nb' i=nb i∧v' i=v i∧lab' i=lab i
 new:∀i,n≤i→i<n+L.length→H≤nb' i
 lab:∀i,i<L.length→lab' (n+i)=lab (L.getD i 0)
def ClonedPost(B n:Nat)(nb:Nat→Nat)(v:Nat→Value)(lab:Nat→NodeD)(F:Wd)(x:Nat)(L:List Nat)(w:World)(e:Ending)(w':World):Prop:=
 ∃nb' v' lab',e=.returned (.pointer (some ⟨nb' n,0,none⟩))∧Hid (ClonedW w.heap.size n nb v lab F L nb' v' lab')∧Hid (DomAt B w' (n+L.length) nb' v' lab' (cpW F n L [x]))∧Hid (Below w.heap.size w w')
structure CloningW (H n:Nat) (nb:Nat→Nat) (v:Nat→Value) (lab:Nat→NodeD) (x:Nat) (L1:List Nat) (nb':Nat→Nat) (v':Nat→Value) (lab':Nat→NodeD):Prop where
 old:∀i,i<n→nb' i=nb i∧v' i=v i∧lab' i=lab i
 new:∀i,n≤i→i<n+1+L1.length→H≤nb' i
 root:nb' n=H+1
 labx:lab' n=lab x
 lab:∀i,i<L1.length→lab' (n+1+i)=lab (L1.getD i 0)
theorem cg_old{F:Wd}{n i:Nat}{L ys:List Nat}(hi:i<n):(cgW F n L ys).kids i=F.kids i∧(cgW F n L ys).up i=F.up i:=by
 obtain⟨h1,h2⟩:=cp_old (F:=F) (n:=n+1) (q:=i) L ys (by omega)
 simp only [cgW,Wd.ins]
 rw [if_neg (by omega),if_neg (fun hm=>by
  obtain⟨z,_,e⟩:=List.mem_map.1 hm
  omega)]
 exact⟨h1,h2⟩
theorem cg_root{F:Wd}{n:Nat}(hF:WOk n F){L ys:List Nat}:(cgW F n L ys).kids n=ys.map (fun y=>n+1+ix L y)∧(cgW F n L ys).up n=none:=by
 obtain⟨h1,h2⟩:=cp_old (F:=F) (n:=n+1) (q:=n) L ys (by omega)
 simp only [cgW,Wd.ins,if_true,List.nil_append,List.append_nil]
 rw [if_neg (fun hm=>by
  obtain⟨z,_,e⟩:=List.mem_map.1 hm
  omega)]
 exact⟨trivial,h2.trans (hF.lone (Nat.le_refl n)).2⟩
theorem CloningW.step{H H2 n:Nat}{nb:Nat→Nat}{v:Nat→Value}{lab:Nat→NodeD}{G:Wd}{x:Nat}{L1 L2:List Nat}{nb' nb2:Nat→Nat}{v' v2:Nat→Value}{lab' lab2:Nat→NodeD}(h:CloningW H n nb v lab x L1 nb' v' lab')(hH:H≤H2)(h2n:∀z∈L2,z<n)
  (h2:ClonedW H2 (n+1+L1.length) nb' v' lab' G L2 nb2 v2 lab2):CloningW H n nb v lab x (L1++L2) nb2 v2 lab2:=by
 refine⟨fun i hi=>?_,fun i h1 h3=>?_,?_,?_,fun i hi=>?_⟩
 ·obtain⟨a1,a2,a3⟩:=h.old i hi
  obtain⟨b1,b2,b3⟩:=h2.old i (by omega)
  exact⟨b1.trans a1,b2.trans a2,b3.trans a3⟩
 ·rw [List.length_append]at h3
  by_cases e:i<n+1+L1.length
  ·rw [(h2.old i e).1];exact h.new i h1 e
  ·exact Nat.le_trans hH (h2.new i (by omega) (by omega))
 ·rw [(h2.old n (by omega)).1];exact h.root
 ·rw [(h2.old n (by omega)).2.2];exact h.labx
 ·rw [List.length_append]at hi
  by_cases e:i<L1.length
  ·rw [getD_app_left e,(h2.old _ (by omega)).2.2];exact h.lab i e
  ·have h5:=h2.lab (i-L1.length) (by omega)
   have h6:L2.getD (i-L1.length) 0∈L2:=getD_mem' (by omega)
   rw [(h.old _ (h2n _ h6)).2.2]at h5
   rw [getD_app_right (by omega),←h5]
   congr 1
   omega
theorem CloningW.done{H n:Nat}{nb:Nat→Nat}{v:Nat→Value}{lab:Nat→NodeD}{F:Wd}{x:Nat}{L1:List Nat}{nb':Nat→Nat}{v':Nat→Value}{lab':Nat→NodeD}(h:CloningW H n nb v lab x L1 nb' v' lab'):ClonedW H n nb v lab F (x::L1) nb' v' lab':=by
 refine⟨h.old,fun i h1 h2=>h.new i h1 (by rw [List.length_cons]at h2;omega),fun i hi=>?_⟩
 cases i with
 | zero=>exact h.labx
 | succ i=>
  rw [List.length_cons]at hi
  rw [List.getD_cons_succ,←h.lab i (by omega)]
  congr 1
  omega
theorem cg_step{n:Nat}{F:Wd}(hF:WOk n F){x y:Nat}{A L1 L2:List Nat}(hA:∀z∈A++[y],z∈F.kids x)(hAnd:(A++[y]).Nodup)(hL1:Fl F.kids A L1)(hL2:Fl F.kids [y] L2)(hG:WOk (n+1+L1.length) (cgW F n L1 A)):
  (∀z∈L2,z<n)∧CpOk (n+1+L1.length) (cgW F n L1 A) L2 [y]∧WOk (n+1+L1.length+L2.length) (cpW (cgW F n L1 A) (n+1+L1.length) L2 [y])∧
   (cpW (cgW F n L1 A) (n+1+L1.length) L2 [y]).up (n+1+L1.length)=none∧(cpW (cgW F n L1 A) (n+1+L1.length) L2 [y]).kids n=A.map (fun z=>n+1+ix L1 z)∧
   (cpW (cgW F n L1 A) (n+1+L1.length) L2 [y]).put n A.length (n+1+L1.length)=cgW F n (L1++L2) (A++[y])∧WOk (n+1+(L1++L2).length) (cgW F n (L1++L2) (A++[y])):=by
 have hyx:y∈F.kids x:=hA y (by simp)
 have hyn:=(hF.lt x y hyx).2
 have hloneA:Lone F A:=⟨(List.nodup_append.1 hAnd).1,fun a ha b hb hab=>(hF.lone_kids x).2 a (hA a (List.mem_append_left _ ha)) b (hA b (List.mem_append_left _ hb)) hab⟩
 have hAn:∀z∈A,z<n:=fun z hz=>(hF.lt x z (hA z (List.mem_append_left _ hz))).2
 have hc1:=cpOk_of hF hL1 hloneA hAn
 have hc2:=cpOk_of hF hL2 (lone_one F y) (fun z hz=>by simp at hz;omega)
 have hc3:CpOk (n+1+L1.length) (cgW F n L1 A) L2 [y]:=(hc2.congr (fun i hi=>cg_old hi)).mono (by omega)
 have hdis:∀z∈L1,z∉L2:=fun z h1z h2z=>by
  obtain⟨q,hq,hqa⟩:=(hL1.anc hF z).1 h1z
  obtain⟨r,hr,hra⟩:=(hL2.anc hF z).1 h2z
  simp at hr
  subst hr
  have hqy:q≠r:=fun e=>(List.nodup_append.1 hAnd).2.2 q hq r (by simp) e
  rcases hqa.cmp hra with h5 | h5
  ·exact hqy ((hF.lone_kids x).2 q (hA q (List.mem_append_left _ hq)) r hyx h5)
  ·exact hqy ((hF.lone_kids x).2 r hyx q (hA q (List.mem_append_left _ hq)) h5).symm
 have hok:=cp_ok hG hc3
 have hy0:ix L2 y=0:=by
  have :=hL2.head
  cases L2 with
  | nil=>cases this
  | cons a r=>simp at this;simp [ix,this]
 have hroot:=cp_root (F:=cgW F n L1 A) (n:=n+1+L1.length) (L:=L2) (ws:=[y]) (x:=y) (by simp) (hc2.ws y (by simp))
 rw [hy0,Nat.add_zero]at hroot
 have hk:=(cp_old (F:=cgW F n L1 A) (n:=n+1+L1.length) (q:=n) L2 [y] (by omega))
 rw [(cg_root hF).1,(cg_root hF).2]at hk
 have hs:=cg_snoc hF (hc1.mono (Nat.le_succ n)) (hc2.mono (Nat.le_succ n)) hdis (fun hm2=>by have :=hc2.lt n hm2;omega) hL2.head
 have hL2p:0<L2.length:=by
  have :=hL2.head
  cases L2 with
  | nil=>cases this
  | cons a r=>simp
 refine⟨hc2.lt,hc3,hok,hroot,hk.1,hs,?_⟩
 rw [←hs,List.length_append,←Nat.add_assoc]
 refine hok.put _ (by omega) (by omega) hroot (fun ha=>?_)
 rcases ha.inv with e | ⟨p,hp,_⟩
 ·omega
 ·rw [hk.2]at hp;cases hp
set_option maxRecDepth 100000 in
set_option maxHeartbeats 4000000 in
theorem cloneNode_any:∀(d B:Nat) (w:World) (n:Nat) (nb:Nat→Nat) (v:Nat→Value) (lab:Nat→NodeD) (F:Wd) (x:Nat) (L:List Nat) (hD:DomAt B w n nb v lab F) (hF:WOk n F) (hx:x<n) (hL:Fl F.kids [x] L) (hd:L.length≤d) (hfit:∀y∈L,(lab y).attrs.length≤100) (hB:B≤w.heap.size),
  Calls Tryz.prog 128 #[.pointer (some ⟨nb x,0,none⟩)] w (ClonedPost B n nb v lab F x L w):=by
 intro d
 induction d with
 | zero=>
  intro B w n nb v lab F x L hD hF hx hL hd hfit hB
  obtain⟨L',rfl,_⟩:=hL.one_inv
  simp at hd
 | succ d ih=>
  intro B w n nb v lab F x L hD hF hx hL hd hfit hB
  obtain⟨L',rfl,hL'⟩:=hL.one_inv
  have hfit0:=hfit x (List.mem_cons_self ..)
  have hfit1:∀y∈L',(lab y).attrs.length≤100:=fun y hy=>hfit y (List.mem_cons_of_mem _ hy)
  rw [List.length_cons]at hd
  have hnode:=hD.node x hx
  have hown:=hD.own x hx
  obtain⟨lb,hlb⟩:∃lb,lab x=lb:=⟨_,rfl⟩
  rw [hlb]at hnode hown hfit0
  obtain⟨al,hal⟩:∃al,lb.attrs.length=al:=⟨_,rfl⟩
  rw [hal]at hown hfit0
  obtain⟨ta,tc,hav⟩:=ownsRow_slice hown
  rw [hav]at hown hnode
  have c1:=hnode.fst
  have c5:=hnode.ty
  have c6:=hnode.atom
  have c7:=hnode.data
  have c9:=hnode.attr
  obtain⟨ty,hty⟩:∃ty,tyOf lb.kind=ty:=⟨_,rfl⟩
  obtain⟨da,hda⟩:∃da,dataOf lb=da:=⟨_,rfl⟩
  have e1:(linkR F nb lb (.slice ta al tc) x).fst=(F.kids x).head?.map nb:=rfl
  have e5:(linkR F nb lb (.slice ta al tc) x).ty=ty:=hty
  have e6:(linkR F nb lb (.slice ta al tc) x).atom=0:=rfl
  have e7:(linkR F nb lb (.slice ta al tc) x).data=da:=hda
  have e9:(linkR F nb lb (.slice ta al tc) x).attr=.slice ta al tc:=rfl
  rw [e1]at c1
  rw [e5]at c5
  rw [e6]at c6
  rw [e7]at c7
  rw [e9]at c9
  have hmk:=fun w=>attr_make al hfit0 w
  have HLB:=Lib.hid (And.intro hlb (And.intro hal (And.intro hav (And.intro hty hda))))
  have HD:=Lib.hid (And.intro hD (And.intro hnode hown))
  have HF:=Lib.hid hF
  have HL:=Lib.hid (And.intro hL' (And.intro hfit0 (And.intro hfit1 hd)))
  have HX:=Lib.hid (And.intro hx hB)
  have HIH:=Lib.hid ih
  clear hnode hown hlb hal hav hty hda hD hF hL hL' hd hfit hfit0 hfit1 ih hx hB e1 e5 e6 e7 e9
  go_enter Tryz.func128,Tryz.ntmps128
  have o5:=cell_alloc_old c5 (.cells (blankAttrs al) 119)
  have o6:=cell_alloc_old c6 (.cells (blankAttrs al) 119)
  have o7:=cell_alloc_old c7 (.cells (blankAttrs al) 119)
  have o9:=cell_alloc_old c9 (.cells (blankAttrs al) 119)
  go_wp2
  go_region
  go_wp2
  obtain⟨wz,hwz⟩:∃wz,((w.alloc (.cells (blankAttrs al) 119)).alloc (.cells #[.pointer none,.pointer none,.pointer none,.pointer none,.pointer none,.int .u32 ty,.int .u32 0,.string da,.string {data:= #[]},.slice (some ⟨w.heap.size,0,none⟩) al al] 117)).drew=wz:=⟨_,rfl⟩
  rw [hwz]
  have hbz:Below w.heap.size w wz:=by rw [←hwz];exact(((Below.refl _ _).alloc (Nat.le_refl _) _).alloc (by simp) _).drew
  have hrow:wz.heap[w.heap.size]? =some (.cells (blankAttrs al) 119 (0,0)):=by
   rw [←hwz]
   show((w.alloc _).alloc _).heap[w.heap.size]? =_
   rw [Below.heap_alloc _ _ _ (by simp)]
   exact heap_alloc_new w _
  have hnew:World.nodeAt wz (w.heap.size+1) (soloR lb (.slice (some ⟨w.heap.size,0,none⟩) al al)):=by
   rw [←hwz]
   have h1:=heap_alloc_new (w.alloc (.cells (blankAttrs al) 119)) (.cells #[.pointer none,.pointer none,.pointer none,.pointer none,.pointer none,.int .u32 ty,.int .u32 0,.string da,.string {data:= #[]},.slice (some ⟨w.heap.size,0,none⟩) al al] 117)
   rw [World.size_alloc]at h1
   unfold World.nodeAt soloR NRec.obj NRec.cells
   rw [HLB.out.2.2.2.1,HLB.out.2.2.2.2]
   exact h1
  have z9:wz.cell? ⟨w.heap.size+1,9,none⟩=some (.slice (some ⟨w.heap.size,0,none⟩) al al):=hnew.attr
  have y9:=cell_below hbz c9
  have y1:=cell_below hbz c1
  have hrowd:wz.drew.heap[w.heap.size]? =some (.cells (blankAttrs al) 119 (0,0)):=hrow
  have hsrc:0<al→∃b,ta=some b∧∀j v,(attrCells lb.attrs)[j]? =some v→wz.drew.cell? (b.add j)=some v:=by
   have h1:=ownsRow_kept HD.out.2.2 (fun k hk=>hbz.drew.block k (World.ownsRow.lt HD.out.2.2 k hk).2)
   exact attr_src h1
  have hal100:=HL.out.2.1
  obtain⟨i0,hi,hz0,hz1,hz2⟩:=info_parts Tryz.infoAttrT
  have hsz:(Tryz.prog.info? 119).map (·.size)=some 3:=by rw [hi];simp [hz1]
  have HROW:=Lib.hid hrowd
  have HSRC:=Lib.hid hsrc
  have HNEW:=Lib.hid hnew
  have HBZ:=Lib.hid hbz
  have HNC:Hid ((attrCells lb.attrs).length=al*3):=Lib.hid (by rw [attrCells_len,HLB.out.2.1])
  clear hwz hrow hnew hbz hrowd hsrc c1 c5 c6 c7 c9 o5 o6 o7 o9 hmk
  go_region_law (refine step_copy_attr rfl (.tmp 28) (.tmp 32) 112 112 rfl 119 Tryz.underlying112 hsz w.heap.size al ta al tc (by simp [Act.eval,Act.put]) (by simp [Act.eval,Act.put]) (blankAttrs al) 119 HROW.out (attrCells lb.attrs) HNC.out (by unfold blankAttrs;rw [size_madeCells]) HSRC.out (attrCells_one _) ?_;intro w3 hw3)
  all_goals
   have hb3:Below w.heap.size w w3:=by rw [←hw3];exact below_setRow HBZ.out.drew (Nat.le_refl _) _
   have hnew3:World.nodeAt w3 (w.heap.size+1) (soloR lb (.slice (some ⟨w.heap.size,0,none⟩) al al)):=by
    have h1:=HNEW.out
    rw [←hw3]
    unfold World.nodeAt at h1 ⊢
    rw [setRow_other _ _ _ _ (by omega)]
    exact h1
   have hown3:w3.ownsRow w.heap.size 119 3 (.slice (some ⟨w.heap.size,0,none⟩) al al) lb.attrs.length (attrCells lb.attrs):=by
    rw [HLB.out.2.1]
    refine⟨HNC.out,.inr ⟨w.heap.size,al,(attrCells lb.attrs).toArray,rfl,Nat.le_refl _,?_,Nat.le_refl _,by unfold maxLen;omega,by simp [HNC.out],by rw [List.take_of_length_le (by simp [HNC.out])]⟩⟩
    rw [←hw3]
    exact setRow_heap _ _ _ _ _ _ HROW.out
   have y1':w3.cell? ⟨nb x,1,none⟩=some (lk ((F.kids x).head?.map nb)):=cell_below hb3 HD.out.2.1.fst
   have hdom:=(HD.out.1.below hb3).more HF.out hnew3 (ownsRow_base hown3 HX.out.2) (by have :=HX.out.2;omega) (fun i hi=>by have :=World.nodeAt.lt (HD.out.1.node i hi);omega) (fun i hi c hc=>by
    have :=(World.ownsRow.lt (HD.out.1.own i hi) c hc).2
    simp only [Value.ownBlock,ne_eq,Option.some.injEq]
    omega)
   have hst:CloningW w.heap.size n nb v lab x [] (upd nb n (w.heap.size+1)) (updV v n (.slice (some ⟨w.heap.size,0,none⟩) al al)) (upd lab n lb):=by
    refine⟨fun i hi=>⟨upd_other _ _ (by omega),if_neg (by omega),upd_other _ _ (by omega)⟩,fun i h1 h2=>?_,upd_same _ _ _,by rw [upd_same];exact HLB.out.1.symm,fun i hi=>absurd hi (Nat.not_lt_zero i)⟩
    obtain rfl:i=n:=by simp at h2;omega
    rw [upd_same];omega
   have HDOM:=Lib.hid hdom
   have HST:=Lib.hid hst
   have HB3:=Lib.hid hb3
   clear hdom hst hb3 hnew3 hown3 hw3 y1 y9 z9 HROW HSRC HNEW HBZ HNC
   go_wp2
   go_loopg [4] (F.kids x).length (fun gk cv wr=>∃(A rest L1 R:List Nat) (nb':Nat→Nat) (v':Nat→Value) (lab':Nat→NodeD),gk=rest.length∧cv=lk (rest.head?.map nb)∧Hid (F.kids x=A++rest∧Fl F.kids A L1∧Fl F.kids rest R∧L'=L1++R)∧Hid (CloningW w.heap.size n nb v lab x L1 nb' v' lab')∧Hid (DomAt B wr (n+1+L1.length) nb' v' lab' (cgW F n L1 A))∧Hid (WOk (n+1+L1.length) (cgW F n L1 A))∧Hid (Below w.heap.size w wr))
   case atStart=>exact⟨[],F.kids x,[],L',_,_,_,rfl,rfl,Lib.hid ⟨rfl,.nil,HL.out.1,rfl⟩,HST,Lib.hid (by rw [cg_nil HF.out];exact HDOM.out),Lib.hid (by rw [cg_nil HF.out];exact HF.out.more (by simp)),HB3⟩
   case round=>
    obtain⟨A,rest,L1,R,nb',v',lab',rfl,rfl,HA,HC,HDr,HWr,HBr⟩:=hrel
    cases rest with
    | nil=>
     have hfin:L'=L1∧F.kids x=A:=by
      obtain⟨h1,h2,h3,h4⟩:=HA.out
      cases h3
      rw [List.append_nil]at h1 h4
      exact⟨h4,h1⟩
     have hlast:DomAt B wr (n+(x::L').length) nb' v' lab' (cpW F n (x::L') [x]):=by
      obtain⟨h1,h2⟩:=hfin
      have hnd:=(Fl.one HL.out.1).nodup HF.out (lone_one F x)
      rw [List.nodup_cons]at hnd
      have h3:=cg_all HF.out HX.out.1 (cpOk_of HF.out HL.out.1 (HF.out.lone_kids x) (fun y hy=>(HF.out.lt x y hy).2)) hnd.1
      rw [←h3,List.length_cons,h2,h1,show n+(L1.length+1)=n+1+L1.length by omega]
      exact HDr.out
     have hcw:ClonedW w.heap.size n nb v lab F (x::L') nb' v' lab':=by rw [hfin.1];exact HC.out.done
     have HLAST:=Lib.hid hlast
     have HCW:=Lib.hid hcw
     have HRT:=Lib.hid HC.out.root
     clear hlast hcw hfin
     simp only [List.head?_nil,Option.map_none,lk_none]
     go_wp2
     go_ret
     exact⟨nb',v',lab',by rw [HRT.out];rfl,HCW,HLAST,HBr⟩
    | cons y rest'=>
     simp only [List.head?_cons,Option.map_some,lk_some]
     obtain⟨L2,R',hR2,hL2,hR'⟩:=HA.out.2.2.1.split
     have hyx:y∈F.kids x:=by rw [HA.out.1];simp
     have hyn:=(HF.out.lt x y hyx).2
     have hxs:F.kids x=(A++[y])++rest':=by rw [HA.out.1];simp
     have hnd:=HF.out.nd x
     rw [hxs]at hnd
     obtain⟨g1,g2,g3,g4,g5,g6,g7⟩:=cg_step HF.out (x:=x) (y:=y) (A:=A) (fun z hz=>by rw [hxs];exact List.mem_append_left _ hz) (List.nodup_append.1 hnd).1 HA.out.2.1 hL2 HWr.out
     have hLL:=HA.out.2.2.2
     rw [hR2]at hLL
     have hlen:L'.length=L1.length+(L2.length+R'.length):=by rw [hLL];simp
     have hcall:=HIH.out B wr (n+1+L1.length) nb' v' lab' (cgW F n L1 A) y L2 HDr.out HWr.out (by omega) (hL2.congr (fun z hz=>(cg_old (g1 z hz)).1)) (by have :=HL.out.2.2.2;omega) (fun z hz=>by rw [(HC.out.old z (g1 z hz)).2.2];exact HL.out.2.2.1 z (by rw [hLL];simp [hz])) (Nat.le_trans HX.out.2 HBr.out.size)
     rw [(HC.out.old y hyn).1]at hcall
     have hnx:(linkR (cgW F n L1 A) nb' (lab' y) (v' y) y).nxt=rest'.head?.map nb:=by
      have h1:(cgW F n L1 A).up y=some x:=(cg_old hyn).2.trans ((HF.out.iff x y).1 hyx)
      show(((cgW F n L1 A).up y).bind fun p=>nxtIn ((cgW F n L1 A).kids p) y).map nb'=_
      rw [h1]
      show(nxtIn ((cgW F n L1 A).kids x) y).map nb'=_
      rw [(cg_old HX.out.1).1,HA.out.1,nxtIn_app A (fun hm=>by
       have h2:=HF.out.nd x
       rw [HA.out.1]at h2
       exact(nd_parts h2).1 hm)]
      exact map_agree (n:=n) (fun j hj=>(HC.out.old j hj).1) (fun z hz=>(HF.out.lt x z (by rw [HA.out.1];simp [List.mem_of_mem_head? hz])).2)
     have c4:=(HDr.out.node y (by omega)).nxt
     rw [hnx,(HC.out.old y hyn).1]at c4
     have HCALL:=Lib.hid hcall
     have HG:=Lib.hid (And.intro g1 (And.intro g2 (And.intro g3 (And.intro g4 (And.intro g5 (And.intro g6 g7))))))
     have HY:=Lib.hid (And.intro hyx (And.intro hyn (And.intro hxs (And.intro hL2 (And.intro hR' (And.intro hLL hR2))))))
     clear hcall hyx hyn hxs hL2 hR' hLL hR2 hnx hnd g1 g2 g3 g4 g5 g6 g7 hlen
     go_wp2_with fail
     refine HCALL.out.mono ?_
     rintro e w4 ⟨nb2,v2,lab2,rfl,HC2,HD2,HB2⟩
     have hr2:nb2 n=w.heap.size+1:=by rw [(HC2.out.old n (by omega)).1];exact HC.out.root
     have hL2p:0<L2.length:=by
      have :=HY.out.2.2.2.1.head
      cases L2 with
      | nil=>cases this
      | cons a r=>simp
     have hbs:=HBr.out.size
     have happ:=appendNew_any w.heap.size HD2.out HG.out.2.2.1 (p:=n) (x:=n+1+L1.length) (by omega) (by omega) (by omega) HG.out.2.2.2.1 (by omega) (by have :=HC2.out.new (n+1+L1.length) (Nat.le_refl _) (by omega);omega) (fun q hq=>by
      rw [HG.out.2.2.2.2.1]at hq
      obtain⟨z,hz,rfl⟩:=List.mem_map.1 hq
      have hzL:z∈L1:=(HA.out.2.1.anc HF.out z).2 ⟨z,hz,.refl⟩
      have h1:=ix_lt hzL
      rw [(HC2.out.old _ (by omega)).1]
      exact HC.out.new _ (by omega) (by omega))
     rw [HG.out.2.2.2.2.1,List.length_map,HG.out.2.2.2.2.2.1,hr2]at happ
     have HAPP:=Lib.hid happ
     have c4:=cell_below HB2.out c4
     clear happ HCALL hr2
     go_wp2_with fail
     refine HAPP.out.mono ?_
     rintro e w5 ⟨⟨rfl,HD5,HO5⟩,HB5⟩
     have c4':w5.cell? ⟨nb y,4,none⟩=some (lk (rest'.head?.map nb)):=(World.cell?_of_block (HB5.out.block _ (by have :=World.nodeAt.lt (HD.out.1.node y HY.out.2.1);omega))).trans c4
     have hcs:=HC.out.step (Nat.le_trans (Nat.le_refl _) hbs) HG.out.1 HC2.out
     have hd5:DomAt B w5 (n+1+(L1++L2).length) nb2 v2 lab2 (cgW F n (L1++L2) (A++[y])):=by
      rw [List.length_append,←Nat.add_assoc]
      exact HD5.out
     have hb5:Below w.heap.size w w5:=(HBr.out.trans (HB2.out.mono hbs)).trans HB5.out
     have HCS:=Lib.hid hcs
     have HD5':=Lib.hid hd5
     have HB5':=Lib.hid hb5
     have HF2:=Lib.hid (Fl.append HA.out.2.1 HY.out.2.2.2.1)
     clear hcs hd5 hb5 HD5 HO5 HB5 HAPP c4
     go_wp2
     go_roundg rest'.length
     case rel=>exact⟨A++[y],rest',L1++L2,R',nb2,v2,lab2,rfl,rfl,Lib.hid ⟨HY.out.2.2.1,HF2.out,HY.out.2.2.2.2.1,HY.out.2.2.2.2.2.1.trans (List.append_assoc ..).symm⟩,HCS,HD5',Lib.hid HG.out.2.2.2.2.2.2,HB5'⟩
     case measure=>simp
end Go.Proofs.YtkdomegcacgpnaaGreat
namespace Go.Proofs.YtkdomegcacgpnaaGreat
open Go.RowKit
structure OnlyG (n:Nat) (nb:Nat→Nat) (w w':World):Prop where
 size:w.heap.size≤w'.heap.size
 block:∀k,k<w.heap.size→(∀i,i<n→k≠nb i)→w'.heap[k]? =w.heap[k]?
 below:∀B,B≤w.heap.size→(∀i,i<n→B≤nb i)→Below B w w'
theorem OnlyG.refl(n:Nat)(nb:Nat→Nat)(w:World):OnlyG n nb w w:=⟨Nat.le_refl _,fun _ _ _=>rfl,fun _ _ _=>Below.refl _ _⟩
theorem OnlyG.trans{n:Nat}{nb:Nat→Nat}{a b c:World}(h:OnlyG n nb a b)(h':OnlyG n nb b c):OnlyG n nb a c:=
 ⟨Nat.le_trans h.size h'.size,fun k hk hn=>(h'.block k (Nat.lt_of_lt_of_le hk h.size) hn).trans (h.block k hk hn),fun B hB hn=>(h.below B hB hn).trans (h'.below B (Nat.le_trans hB h.size) hn)⟩
theorem OnlyG.of_below{n:Nat}{nb:Nat→Nat}{a w w':World}(h:OnlyG n nb a w)(hb:Below w.heap.size w w'):OnlyG n nb a w':=
 h.trans ⟨hb.size,fun k hk _=>hb.block k hk,fun B hB _=>hb.mono hB⟩
theorem OnlyG.turn{n m:Nat}{nb nb':Nat→Nat}{a w w':World}(h:OnlyG n nb a w)(ho:OnlyN m nb' w w')(hold:∀i,i<n→nb' i=nb i)(hnew:∀i,n≤i→i<m→a.heap.size≤nb' i):OnlyG n nb a w':=by
 have hne:∀k,k<a.heap.size→(∀i,i<n→k≠nb i)→∀i,i<m→k≠nb' i:=fun k hk hn i hi e=>by
  by_cases h1:i<n
  ·rw [hold i h1]at e;exact hn i h1 e
  ·have :=hnew i (by omega) hi;omega
 refine⟨by rw [ho.size];exact h.size,fun k hk hn=>(ho.block k (hne k hk hn)).trans (h.block k hk hn),fun B hB hn=>(h.below B hB hn).trans (ho.below B (fun i hi=>?_))⟩
 by_cases h1:i<n
 ·rw [hold i h1];exact hn i h1
 ·exact Nat.le_trans hB (hnew i (by omega) hi)
theorem prvIn_map{t:Nat→Nat}{y:Nat}:∀(l:List Nat),(∀a∈l,t a=t y→a=y)→prvIn (l.map t) (t y)=(prvIn l y).map t
 | [],_=>rfl
 | [a],_=>rfl
 | a::b::r,h=>by
  simp only [List.map_cons,prvIn]
  by_cases e:b=y
  ·subst e;simp
  ·rw [if_neg (fun e2=>e (h b (by simp) e2)),if_neg e]
   exact prvIn_map (b::r) (fun c hc=>h c (List.mem_cons_of_mem _ hc))
theorem nxtIn_map{t:Nat→Nat}{y:Nat}:∀(l:List Nat),(∀a∈l,t a=t y→a=y)→nxtIn (l.map t) (t y)=(nxtIn l y).map t
 | [],_=>rfl
 | [a],_=>rfl
 | a::b::r,h=>by
  simp only [List.map_cons,nxtIn]
  by_cases e:a=y
  ·subst e;simp
  ·rw [if_neg (fun e2=>e (h a (by simp) e2)),if_neg e]
   exact nxtIn_map (b::r) (fun c hc=>h c (List.mem_cons_of_mem _ hc))
theorem DomAt.perm{B:Nat}{w:World}{n:Nat}{nb:Nat→Nat}{v:Nat→Value}{lab:Nat→NodeD}{F F':Wd}(h:DomAt B w n nb v lab F)(hF:WOk n F)(s t:Nat→Nat)(hs:∀i,i<n→s i<n∧t (s i)=i)(ht:∀i,i<n→t i<n∧s (t i)=i)
  (hk:∀i,i<n→F'.kids i=(F.kids (s i)).map t) (hu:∀i,i<n→F'.up i=(F.up (s i)).map t):DomAt B w n (fun i=>nb (s i)) (fun i=>v (s i)) (fun i=>lab (s i)) F':=by
 have hmap:∀o:Option Nat,(∀y,o=some y→y<n)→(o.map t).map (fun i=>nb (s i))=o.map nb:=fun o ho=>by
  cases o with
  | none=>rfl
  | some y=>simp [(ht y (ho y rfl)).2]
 have hlink:∀i,i<n→linkR F' (fun i=>nb (s i)) (lab (s i)) (v (s i)) i=linkR F nb (lab (s i)) (v (s i)) (s i):=fun i hi=>by
  obtain⟨h1,h2⟩:=hs i hi
  unfold linkR
  have e1:(F'.up i).map (fun i=>nb (s i))=(F.up (s i)).map nb:=by
   rw [hu i hi]
   exact hmap _ (fun y hy=>(hF.lt y _ ((hF.iff y _).2 hy)).1)
  have e2:(F'.kids i).head?.map (fun i=>nb (s i))=(F.kids (s i)).head?.map nb:=by
   rw [hk i hi,List.head?_map]
   exact hmap _ (fun y hy=>(hF.lt _ y (List.mem_of_mem_head? hy)).2)
  have e3:(F'.kids i).getLast?.map (fun i=>nb (s i))=(F.kids (s i)).getLast?.map nb:=by
   rw [hk i hi,List.getLast?_map]
   exact hmap _ (fun y hy=>(hF.lt _ y (List.mem_of_getLast? hy)).2)
  have e4:((F'.up i).bind fun p=>prvIn (F'.kids p) i).map (fun i=>nb (s i))=((F.up (s i)).bind fun p=>prvIn (F.kids p) (s i)).map nb:=by
   rw [hu i hi]
   cases hp:F.up (s i)with
   | none=>rfl
   | some p=>
    have hpn:=(hF.lt p _ ((hF.iff p _).2 hp)).1
    simp only [Option.map_some,Option.bind_some]
    rw [hk _ (ht p hpn).1,(ht p hpn).2]
    have :=prvIn_map (t:=t) (y:=s i) (F.kids p) (fun a ha e=>by
     have han:=(hF.lt p a ha).2
     rw [←(ht a han).2,e,(ht _ h1).2])
    rw [h2]at this
    rw [this]
    exact hmap _ (fun y hy=>(hF.lt p y (prvIn_mem _ hy)).2)
  have e5:((F'.up i).bind fun p=>nxtIn (F'.kids p) i).map (fun i=>nb (s i))=((F.up (s i)).bind fun p=>nxtIn (F.kids p) (s i)).map nb:=by
   rw [hu i hi]
   cases hp:F.up (s i)with
   | none=>rfl
   | some p=>
    have hpn:=(hF.lt p _ ((hF.iff p _).2 hp)).1
    simp only [Option.map_some,Option.bind_some]
    rw [hk _ (ht p hpn).1,(ht p hpn).2]
    have :=nxtIn_map (t:=t) (y:=s i) (F.kids p) (fun a ha e=>by
     have han:=(hF.lt p a ha).2
     rw [←(ht a han).2,e,(ht _ h1).2])
    rw [h2]at this
    rw [this]
    exact hmap _ (fun y hy=>(hF.lt p y (nxtIn_mem _ hy)).2)
  rw [e1,e2,e3,e4,e5]
 have hsi:∀i j,i<n→j<n→s i=s j→i=j:=fun i j hi hj e=>by rw [←(hs i hi).2,e,(hs j hj).2]
 exact⟨fun i hi=>by rw [hlink i hi];exact h.node _ (hs i hi).1,fun i hi=>h.own _ (hs i hi).1,fun i hi=>h.base _ (hs i hi).1,fun i j hi hj e=>hsi i j hi hj (h.inj _ _ (hs i hi).1 (hs j hj).1 e),
  fun i j hi hj hij=>h.sep _ _ (hs i hi).1 (hs j hj).1 (fun e=>hij (hsi i j hi hj e))⟩
theorem DomAt.relab{B:Nat}{w:World}{n:Nat}{nb:Nat→Nat}{v:Nat→Value}{lab lab':Nat→NodeD}{F:Wd}(h:DomAt B w n nb v lab F)(hl:∀i,i<n→lab' i=lab i):DomAt B w n nb v lab' F:=
 ⟨fun i hi=>by rw [hl i hi];exact h.node i hi,fun i hi=>by rw [hl i hi];exact h.own i hi,h.base,h.inj,h.sep⟩
theorem cp_ins{H:Wd}{p M:Nat}{A rs B Ly ws:List Nat}(hp:p<M)(hpL:p∉Ly)(hr:∀r∈rs,r<M∧r∉Ly):cpW (H.ins p A rs B) M Ly ws=(cpW H M Ly ws).ins p A rs B:=by
 show Wd.mk _ _=Wd.mk _ _
 rw [Wd.mk.injEq]
 refine⟨funext fun q=>?_,funext fun q=>?_⟩
 ·by_cases a:M≤q∧q<M+Ly.length
  ·have hj:q-M<Ly.length:=by omega
   have hm:=getD_mem' (d:=0) hj
   rw [if_pos a,if_neg (by omega)]
   simp only [Wd.ins,cpW]
   rw [if_neg (fun e:Ly.getD (q-M) 0=p=>hpL (e▸hm)),if_pos a]
  ·rw [if_neg a]
   simp only [Wd.ins,cpW]
   rw [if_neg a]
 ·by_cases a:M≤q∧q<M+Ly.length
  ·have hj:q-M<Ly.length:=by omega
   have hm:=getD_mem' (d:=0) hj
   rw [if_pos a,if_neg (show q∉rs from fun h=>by have :=(hr q h).1;omega)]
   simp only [Wd.ins]
   rw [if_neg (fun h=>(hr _ h).2 hm)]
   simp only [cpW]
   rw [if_pos a]
  ·rw [if_neg a]
   simp only [Wd.ins]
   by_cases hm:q∈rs
   ·rw [if_pos hm,if_pos hm]
   ·rw [if_neg hm,if_neg hm]
    simp only [cpW]
    rw [if_neg a]
def cpA(G:Wd)(m:Nat)(L T:List Nat)(p:Nat)(A B:List Nat):Wd:=(cpW G m L T).ins p A ((T.map fun v=>m+ix L v).reverse) B
def cpB(G:Wd)(m:Nat)(L T:List Nat)(p:Nat)(A B:List Nat):Wd:=(cpW G m L T).ins p A (T.map fun v=>m+ix L v) B
theorem cpA_nil{G:Wd}{m p:Nat}{A B:List Nat}(h:G.kids p=A++B):cpA G m [] [] p A B=G:=by
 unfold cpA
 rw [cp_nil]
 exact ins_nil h
theorem cpB_nil{G:Wd}{m p:Nat}{A B:List Nat}(h:G.kids p=A++B):cpB G m [] [] p A B=G:=by
 unfold cpB
 rw [cp_nil]
 exact ins_nil h
theorem cpU_step{n:Nat}{F:Wd}{L:List Nat}{m:Nat}{G:Wd}(hF:WOk n F)(hM:MidW n F L m G){T Lk Ly U:List Nat}{y p:Nat}{A B:List Nat}(hl:Lone F (T++[y]))(hLk:Fl F.kids T Lk)(hLy:Fl F.kids [y] Ly)(hsub:∀z,z∈Lk∨z∈Ly→z∈L)(hTn:∀v∈T++[y],v<n)(hp:p<n)(hpL:p∉L)(hk:G.kids p=A++B)
  (hU:∀r∈U,m≤r∧r<m+Lk.length) (hW:WOk (m+Lk.length) ((cpW G m Lk T).ins p A U B)):
  CpOk (m+Lk.length) ((cpW G m Lk T).ins p A U B) Ly [y]∧WOk (m+Lk.length+Ly.length) (cpW ((cpW G m Lk T).ins p A U B) (m+Lk.length) Ly [y])∧
   (cpW ((cpW G m Lk T).ins p A U B) (m+Lk.length) Ly [y]).up (m+Lk.length)=none∧cpW ((cpW G m Lk T).ins p A U B) (m+Lk.length) Ly [y]=(cpW G m (Lk++Ly) (T++[y])).ins p A U B∧
   (T++[y]).map (fun v=>m+ix (Lk++Ly) v)=T.map (fun v=>m+ix Lk v)++[m+Lk.length]∧0<Ly.length∧(∀z∈Ly,((cpW G m Lk T).ins p A U B).kids z=F.kids z∧z<n)∧
   ∀i,WOk (m+Lk.length+Ly.length) (((cpW G m (Lk++Ly) (T++[y])).ins p A U B).put p i (m+Lk.length)):=by
 have hnm:=hM.le
 have hdis:∀z∈Lk,z∉Ly:=fun z h1z h2z=>by
  obtain⟨q,hq,hqa⟩:=(hLk.anc hF z).1 h1z
  obtain⟨r,hr,hra⟩:=(hLy.anc hF z).1 h2z
  simp at hr
  subst hr
  have hqy:q≠r:=fun e=>(List.nodup_append.1 hl.1).2.2 q hq r (by simp) e
  rcases hqa.cmp hra with h5 | h5
  ·exact hqy (hl.2 q (List.mem_append_left _ hq) r (by simp) h5)
  ·exact hqy (hl.2 r (by simp) q (List.mem_append_left _ hq) h5).symm
 have hloneT:Lone F T:=⟨(List.nodup_append.1 hl.1).1,fun x hx z hz=>hl.2 x (List.mem_append_left _ hx) z (List.mem_append_left _ hz)⟩
 have hc1:=cpOk_of hF hLk hloneT (fun v hv=>hTn v (List.mem_append_left _ hv))
 have hc2:=cpOk_of hF hLy (lone_one F y) (fun z hz=>by simp at hz;subst hz;exact hTn z (by simp))
 have hcong:∀{Q ws:List Nat},CpOk n F Q ws→(∀z∈Q,z∈L)→CpOk m G Q ws:=fun{Q ws} h hs=>⟨h.nd,fun z hz=>by have :=h.lt z hz;omega,fun q hq z hz=>h.sub q hq z (by rwa [hM.tree q (hs q hq)]at hz),fun z hz hn=>by rw [hM.up z (h.lt z hz)];exact h.up z hz hn,h.ws⟩
 have hg1:=hcong hc1 (fun z hz=>hsub z (.inl hz))
 have hg2:=hcong hc2 (fun z hz=>hsub z (.inr hz))
 have hkold:∀z∈Ly,((cpW G m Lk T).ins p A U B).kids z=F.kids z∧((cpW G m Lk T).ins p A U B).up z=F.up z:=fun z hz=>by
  have hzn:=hc2.lt z hz
  have hzL:=hsub z (.inr hz)
  simp only [Wd.ins]
  rw [if_neg (fun e:z=p=>hpL (e▸hzL)),if_neg (fun h=>by have :=(hU z h).1;omega),(cp_old Lk T (by omega)).1,(cp_old Lk T (by omega)).2]
  exact⟨hM.tree z hzL,hM.up z hzn⟩
 have hc3:CpOk (m+Lk.length) ((cpW G m Lk T).ins p A U B) Ly [y]:=⟨hc2.nd,fun z hz=>by have :=hc2.lt z hz;omega,fun q hq z hz=>hc2.sub q hq z (by rwa [(hkold q hq).1]at hz),fun z hz hn=>by rw [(hkold z hz).2];exact hc2.up z hz hn,hc2.ws⟩
 have hLp:0<Ly.length:=by
  have :=hLy.one_inv
  obtain⟨A',rfl,_⟩:=this
  simp
 have hhead:Ly.head?=some y:=by
  obtain⟨A',rfl,_⟩:=hLy.one_inv
  rfl
 have hy0:ix Ly y=0:=by
  cases Ly with
  | nil=>cases hhead
  | cons a r=>simp at hhead;simp [ix,hhead]
 have hyL:y∈Ly:=hc2.ws y (by simp)
 have hcom:=cp_ins (H:=cpW G m Lk T) (p:=p) (M:=m+Lk.length) (A:=A) (rs:=U) (B:=B) (Ly:=Ly) (ws:=[y]) (by omega) (fun h=>hpL (hsub p (.inr h))) (fun r hr=>⟨(hU r hr).2,fun h=>by have :=hc2.lt r h;have :=(hU r hr).1;omega⟩)
 rw [cp_snoc hg1 hg2 hdis]at hcom
 have hok:=cp_ok hW hc3
 have hroot:=cp_root (F:=(cpW G m Lk T).ins p A U B) (n:=m+Lk.length) (L:=Ly) (ws:=[y]) (x:=y) (by simp) hyL
 rw [hy0,Nat.add_zero]at hroot
 refine⟨hc3,hok,hroot,hcom,?_,hLp,fun z hz=>⟨(hkold z hz).1,hc2.lt z hz⟩,fun i=>?_⟩
 ·rw [List.map_append,List.map_cons,List.map_nil,ix_app_right (fun h=>hdis y h hyL),hy0]
  congr 1
  exact map_same (fun z hz=>by rw [ix_app_left (hg1.ws z hz)])
 ·rw [←hcom]
  refine hok.put i (by omega) (by omega) hroot (fun ha=>?_)
  have hlow:∀q,q<m→∀z,Anc (cpW ((cpW G m Lk T).ins p A U B) (m+Lk.length) Ly [y]) z q→z<m:=fun q hq z hz=>by
   induction hz with
   | refl=>exact hq
   | @step c d hu _ ih=>
    refine ih ?_
    rw [(cp_old Ly [y] (by omega)).2]at hu
    simp only [Wd.ins]at hu
    rw [if_neg (fun h=>by have :=(hU c h).1;omega),(cp_old Lk T (by omega)).2]at hu
    exact(hM.ok.lt d c ((hM.ok.iff d c).2 hu)).1
  have :=hlow p (by omega) _ ha
  omega
theorem DomAt.reorder{B:Nat}{w:World}{m:Nat}{nb:Nat→Nat}{v:Nat→Value}{lab:Nat→NodeD}{G:Wd}{L1 L2 T1 T2:List Nat}{p:Nat}{A Bk:List Nat}(hG:WOk m G)(h1:CpOk m G L1 T1)(h2:CpOk m G L2 T2)(hm:∀z,z∈L1↔z∈L2)(hT:∀z,z∈T1↔z∈T2)(hlen:L1.length=L2.length){ws:List Nat}(hw:∀z∈ws,z∈T1)(hp:p<m)(hk:G.kids p=A++Bk)
  (hW:WOk (m+L1.length) ((cpW G m L1 T1).ins p A (ws.map fun v=>m+ix L1 v) Bk)) (hA:∀y,y∈A∨y∈Bk→y<m)
  (h:DomAt B w (m+L1.length) nb v lab ((cpW G m L1 T1).ins p A (ws.map fun v=>m+ix L1 v) Bk)):
  DomAt B w (m+L2.length) (fun i=>nb (if m≤i∧i<m+L2.length then m+ix L1 (L2.getD (i-m) 0)else i)) (fun i=>v (if m≤i∧i<m+L2.length then m+ix L1 (L2.getD (i-m) 0)else i)) (fun i=>lab (if m≤i∧i<m+L2.length then m+ix L1 (L2.getD (i-m) 0)else i))
   ((cpW G m L2 T2).ins p A (ws.map fun v=>m+ix L2 v) Bk):=by
 have hs:∀(La Lb:List Nat),La.Nodup→Lb.Nodup→(∀z,z∈La↔z∈Lb)→La.length=Lb.length→∀i,i<m+La.length→(if m≤i∧i<m+La.length then m+ix Lb (La.getD (i-m) 0)else i)<m+La.length∧
   (fun i=>if m≤i∧i<m+Lb.length then m+ix La (Lb.getD (i-m) 0)else i) (if m≤i∧i<m+La.length then m+ix Lb (La.getD (i-m) 0)else i)=i:=fun La Lb ha hb hmem hlen i hi=>by
  by_cases e:m≤i∧i<m+La.length
  ·have hj:i-m<La.length:=by omega
   have hz:La.getD (i-m) 0∈Lb:=(hmem _).1 (getD_mem' hj)
   have h5:=ix_lt hz
   rw [if_pos e]
   refine⟨by omega,?_⟩
   try simp only
   rw [if_pos (by omega),show m+ix Lb (La.getD (i-m) 0)-m=ix Lb (La.getD (i-m) 0) by omega,ix_get hz,get_ix ha hj]
   omega
  ·rw [if_neg e]
   refine⟨hi,?_⟩
   try simp only
   rw [if_neg (by omega)]
 have hcv:∀z∈L1,(if m≤m+ix L1 z∧m+ix L1 z<m+L1.length then m+ix L2 (L1.getD (m+ix L1 z-m) 0)else m+ix L1 z)=m+ix L2 z:=fun z hz=>by
  have :=ix_lt hz
  rw [if_pos (by omega),show m+ix L1 z-m=ix L1 z by omega,ix_get hz]
 have hold:∀z,z<m→(if m≤z∧z<m+L1.length then m+ix L2 (L1.getD (z-m) 0)else z)=z:=fun z hz=>by rw [if_neg (by omega)]
 rw [hlen]at h hW
 have hper:=DomAt.perm (F':=(cpW G m L2 T2).ins p A (ws.map fun v=>m+ix L2 v) Bk) h hW (fun i=>if m≤i∧i<m+L2.length then m+ix L1 (L2.getD (i-m) 0)else i) (fun i=>if m≤i∧i<m+L1.length then m+ix L2 (L1.getD (i-m) 0)else i)
  (fun i hi=>hs L2 L1 h2.nd h1.nd (fun z=>(hm z).symm) hlen.symm i hi) (fun i hi=>by
   have :=hs L1 L2 h1.nd h2.nd hm hlen i (by omega)
   rwa [hlen]at this ⊢) (fun i hi=>?_) (fun i hi=>?_)
 ·exact hper
 ·by_cases e:m≤i
  ·obtain⟨z,hz,rfl⟩:=cp_num h2.nd e hi
   have hz1:=(hm z).2 hz
   have hzl:=ix_lt hz
   have hz1l:=ix_lt hz1
   try simp only
   rw [if_pos ⟨by omega,by omega⟩,show m+ix L2 z-m=ix L2 z by omega,ix_get hz]
   simp only [Wd.ins]
   rw [if_neg (by omega),if_neg (by omega),(cp_new hz).1,(cp_new hz1).1,List.map_map]
   exact map_same (fun a ha=>by
    simp only [Function.comp]
    exact(hcv a (h1.sub z hz1 a ha).1).symm)
  ·try simp only
   rw [if_neg (by omega)]
   simp only [Wd.ins]
   by_cases ep:i=p
   ·subst ep
    rw [if_pos rfl,if_pos rfl,List.map_append,List.map_append,List.map_map]
    have i1:∀l:List Nat,(∀y∈l,y<m)→l.map (fun i=>if m≤i∧i<m+L1.length then m+ix L2 (L1.getD (i-m) 0)else i)=l:=fun l hl=>by
     conv=>rhs;rw [←List.map_id l]
     exact map_same (fun y hy=>hold y (hl y hy))
    rw [i1 A (fun y hy=>hA y (.inl hy)),i1 Bk (fun y hy=>hA y (.inr hy))]
    congr 2
    exact map_same (fun a ha=>by
     simp only [Function.comp]
     exact(hcv a (h1.ws a (hw a ha))).symm)
   ·rw [if_neg ep,if_neg ep,(cp_old L2 T2 (by omega)).1,(cp_old L1 T1 (by omega)).1]
    conv=>lhs;rw [←List.map_id (G.kids i)]
    exact map_same (fun y hy=>(hold y ((hG.lt i y hy).2)).symm)
 ·have hmemR:∀(La:List Nat),(∀z∈T1,z∈La)→∀z∈La,(m+ix La z∈ws.map fun v=>m+ix La v)↔z∈ws:=fun La hLa z hz=>by
   constructor
   ·intro h5
    obtain⟨a,ha,e⟩:=List.mem_map.1 h5
    have :=ix_inj (hLa a (hw a ha)) hz (by omega)
    rw [←this];exact ha
   ·intro h5;exact List.mem_map.2 ⟨z,h5,rfl⟩
  by_cases e:m≤i
  ·obtain⟨z,hz,rfl⟩:=cp_num h2.nd e hi
   have hz1:=(hm z).2 hz
   have hzl:=ix_lt hz
   have hz1l:=ix_lt hz1
   try simp only
   rw [if_pos ⟨by omega,by omega⟩,show m+ix L2 z-m=ix L2 z by omega,ix_get hz]
   simp only [Wd.ins]
   by_cases ez:z∈ws
   ·rw [if_pos ((hmemR L2 (fun a ha=>(hm a).1 (h1.ws a ha)) z hz).2 ez),if_pos ((hmemR L1 h1.ws z hz1).2 ez)]
    simp only [Option.map_some]
    rw [hold p hp]
   ·rw [if_neg (fun h5=>ez ((hmemR L2 (fun a ha=>(hm a).1 (h1.ws a ha)) z hz).1 h5)),if_neg (fun h5=>ez ((hmemR L1 h1.ws z hz1).1 h5)),(cp_new hz).2,(cp_new hz1).2]
    by_cases et:z∈T1
    ·rw [if_pos et,if_pos ((hT z).1 et)];rfl
    ·rw [if_neg et,if_neg (fun h5=>et ((hT z).2 h5))]
     obtain⟨q,hq,hqu⟩:=h1.up z hz1 et
     rw [hqu]
     simp only [Option.map_some]
     rw [hcv q hq]
  ·try simp only
   rw [if_neg (by omega)]
   simp only [Wd.ins]
   rw [if_neg (fun h5=>by
    obtain⟨a,ha,e2⟩:=List.mem_map.1 h5
    omega),if_neg (fun h5=>by
    obtain⟨a,ha,e2⟩:=List.mem_map.1 h5
    omega),(cp_old L2 T2 (by omega)).2,(cp_old L1 T1 (by omega)).2]
   cases hu:G.up i with
   | none=>rfl
   | some q=>
    simp only [Option.map_some]
    rw [hold q ((hG.lt q i ((hG.iff q i).2 hu)).1)]
end Go.Proofs.YtkdomegcacgpnaaGreat
