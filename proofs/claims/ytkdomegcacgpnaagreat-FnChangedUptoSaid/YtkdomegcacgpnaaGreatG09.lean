/- Parts of a proof: AttrOpen, RowSet, RemoveAttrAll. -/
import Derived.Test.YtkdomegcacgpnaaGreatG04
import Derived.Test.YtkdomegcacgpnaaGreatG00
import Derived.Deep.AppendLies
import Derived.Deep.RegionHeld3
import Derived.StillTail
import Derived.BigRegion
import Derived.RegionTactic
import Derived.ChangeAlike
set_option linter.unusedVariables false
set_option linter.unusedSimpArgs false
namespace Go.Proofs.YtkdomegcacgpnaaGreat
open Go.RowKit
theorem attrCells_get:∀(l:List (ByteArray×ByteArray)) (i:Nat),i<l.length→(attrCells l)[i*3]? =some (.string ByteArray.empty)∧(attrCells l)[i*3+1]? =some (.string (l.getD i default).1)∧(attrCells l)[i*3+2]? =some (.string (l.getD i default).2):=by
 intro l
 induction l with
 | nil=>intro i hi;simp at hi
 | cons x l ih=>
  intro i hi
  have hc:attrCells (x::l)=[.string ByteArray.empty,.string x.1,.string x.2]++attrCells l:=by simp [attrCells]
  rw [hc]
  cases i with
  | zero=>simp
  | succ i=>
   have hi':i<l.length:=by simpa using hi
   obtain⟨h1,h2,h3⟩:=ih i hi'
   have e:(i+1)*3=3+i*3:=by omega
   rw [e]
   refine⟨?_,?_,?_⟩
   ·rw [List.getElem?_append_right (by simp)];simpa using h1
   ·rw [List.getElem?_append_right (by simp;omega)];simpa [show 3+i*3+1-3=i*3+1 by omega]using h2
   ·rw [List.getElem?_append_right (by simp;omega)];simpa [show 3+i*3+2-3=i*3+2 by omega]using h3
theorem attr_open{w:World}{B:Nat}{v:Value}{l:List (ByteArray×ByteArray)}(h:w.ownsRow B 119 3 v l.length (attrCells l)):
  ∃a cap g,v=.slice a l.length cap∧l.length≤9223372036854775807∧(0<l.length→a=some ⟨g,0,none⟩)∧∀i,i<l.length→w.cell? ⟨g,i*3,none⟩=some (.string ByteArray.empty)∧w.cell? ⟨g,i*3+1,none⟩=some (.string (l.getD i default).1)∧w.cell? ⟨g,i*3+2,none⟩=some (.string (l.getD i default).2):=by
 rcases h.2 with ⟨rfl,h0⟩ | ⟨g,cap,cur,rfl,hb,hg,hn,hm,hcs,ht⟩
 ·exact⟨none,0,0,by rw [h0],by omega,fun h=>by omega,fun i hi=>by omega⟩
 ·refine⟨_,cap,g,rfl,by unfold maxLen at hm;omega,fun _=>rfl,fun i hi=>?_⟩
  have hadd:∀j,(⟨g,0,none⟩:Addr).add j=⟨g,j,none⟩:=fun j=>by unfold Addr.add;split <;> simp_all
  obtain⟨h1,h2,h3⟩:=attrCells_get l i hi
  have c1:=h.cells (g:=g) rfl _ _ h1
  have c2:=h.cells (g:=g) rfl _ _ h2
  have c3:=h.cells (g:=g) rfl _ _ h3
  rw [hadd]at c1 c2 c3
  exact⟨c1,c2,c3⟩
theorem ownsRow_set{w:World}{B:Nat}{e:TypeId}{size g n cap:Nat}{xs:List Value}(h:w.ownsRow B e size (.slice (some ⟨g,0,none⟩) n cap) n xs){i:Nat}(hi:i<n*size)(u:Value):
  (w.setCell ⟨g,i,none⟩ u).ownsRow B e size (.slice (some ⟨g,0,none⟩) n cap) n (xs.set i u):=by
 rcases h.2 with ⟨h1,_⟩ | ⟨g',cap',cur,hv,hb,hg,hn,hm,hcs,ht⟩
 ·simp at h1
 ·simp at hv
  obtain⟨rfl,rfl⟩:=hv
  refine⟨by rw [List.length_set];exact h.1,.inr ⟨g,cap,cur.setIfInBounds i u,rfl,hb,heap_setCell_same w g i cur e u hg,hn,hm,by simpa using hcs,?_⟩⟩
  rw [←ht,Array.toList_setIfInBounds]
  apply List.ext_getElem?
  intro j
  simp only [List.getElem?_take,List.getElem?_set,List.length_take]
  have hl:n*size≤cur.toList.length:=by
   have :=h.1
   rw [←ht,List.length_take]at this
   omega
  by_cases hj:j<n*size
  ·simp only [hj,if_true]
   by_cases hji:i=j
   ·subst hji
    simp only [if_true]
    rw [if_pos (by omega),if_pos (by omega)]
   ·simp only [hji,if_false]
  ·simp only [hj,if_false]
   by_cases hji:i=j
   ·omega
   ·simp only [hji,if_false]
end Go.Proofs.YtkdomegcacgpnaaGreat
namespace Go.Proofs.YtkdomegcacgpnaaGreat
open Go
section
variable {P:Program} {ops:Array Oper} {Q:Exit→Act→World→Prop} {md:Region.Mode} {S:World→Prop} {k0:Nat}
def wpAnyG(P:Program)(md:Region.Mode)(ops:Array Oper)(Q:Exit→Act→World→Prop)(S:World→Prop)(k0:Nat):Nat→Array Bool→Act→World→Prop
 | 0,listed,a,w=>Region.ready md ops listed=[]∧Q .normal a w
 | fuel+1,listed,a,w=>
  (Region.ready md ops listed=[]→Q .normal a w)∧
  ∀i∈Region.ready md ops listed,wpOp P ops Q i (fun a' w'=>((listed.setIfInBounds i true).getD k0 true=false→S w')∧wpAnyG P md ops Q S k0 fuel (listed.setIfInBounds i true) a' w') a w
theorem wpAny_of_G:∀(fuel:Nat) (listed:Array Bool) (a:Act) (w:World),wpAnyG P md ops Q S k0 fuel listed a w→wpAny P md ops Q fuel listed a w
 | 0,_,_,_,h=>h
 | fuel+1,_,_,_,h=>⟨h.1,fun i hi=>wpOp_mono (fun a' w' h'=>wpAny_of_G fuel _ a' w' h'.2) (h.2 i hi)⟩
theorem wpAnyG_first{T:World→Prop}{i:Nat}{oi:Oper}{v:Value}(hik:i≠k0)(hi:ops[i]? =some oi)(hsel:∀(j:Nat) (o:Oper) cs b,ops[j]? =some o→o.op≠.select cs b)
  (hQ:∀c a w,Q (.panic c) (a.put oi.dst v) w→Q (.panic c) a w) (hT:(∀w,T w)∨((∀w,S w→T w)∧∃ok,ops[k0]? =some ok∧∃e∈ok.after,Region.binds md e=true∧e.on=i)):
  ∀(fuel:Nat) (listed:Array Bool) (a:Act) (w:World),
   (∀j oj,ops[j]? =some oj→j≠i→listed.getD j true=false→(∀e∈oj.after,Region.binds md e=true→e.on≠i)→oi.apart ops oj=true)→
   i∈Region.ready md ops listed→YieldsIf P ops T oi v a→(listed.getD k0 true=false→S w)→T w→((∀w,T w)∨listed.getD k0 true=false)→
   wpAnyG P md ops Q S k0 fuel (listed.setIfInBounds i true) (a.put oi.dst v) w→wpAnyG P md ops Q S k0 (fuel+1) listed a w:=by
 have hset:∀listed:Array Bool,(listed.setIfInBounds i true).getD k0 true=listed.getD k0 true:=fun listed=>getD_set_ne true hik
 intro fuel
 induction fuel with
 | zero=>
  intro listed a w _ hr hy hS hTw hu H
  refine⟨fun h=>(by rw [h]at hr;cases hr),fun j hj=>?_⟩
  by_cases hji:j=i
  ·subst hji;exact hy.wpOp hi hTw ⟨fun h=>hS (by rwa [hset]at h),H⟩
  ·have :=ready_mono hj hji
   rw [H.1]at this
   cases this
 | succ fuel ih=>
  intro listed a w hfree hr hy hS hTw hu H
  refine⟨fun h=>(by rw [h]at hr;cases hr),fun j hj=>?_⟩
  by_cases hji:j=i
  ·subst hji;exact hy.wpOp hi hTw ⟨fun h=>hS (by rwa [hset]at h),H⟩
  ·have h1:=H.2 j (ready_mono hj hji)
   obtain⟨hjun,oj,hoj,hall⟩:=mem_ready.1 hj
   have hnot:∀e∈oj.after,Region.binds md e=true→e.on≠i:=fun e he hb heq=>by
    have h1:=hall e he hb
    have h0:=(mem_ready.1 hr).1
    rw [heq]at h1
    rcases Nat.lt_or_ge i listed.size with h' | h'
    ·simp [h']at h0 h1;rw [h0]at h1;cases h1
    ·simp [Array.getElem?_eq_none h']at h1
   have h2:=wpOp_putIf hoj (hfree j oj hoj hji hjun hnot) (fun cs b=>hsel i oi cs b hi) (fun cs b=>hsel j oj cs b hoj) hQ hy h1
   have hfree':∀k ok,ops[k]? =some ok→k≠i→(listed.setIfInBounds j true).getD k true=false→
     (∀e∈ok.after,Region.binds md e=true→e.on≠i)→oi.apart ops ok=true:=fun k ok hk hki hun hno=>by
    refine hfree k ok hk hki ?_ hno
    by_cases hjk:j=k
    ·subst hjk;exact hjun
    ·rw [getD_set_ne true hjk]at hun;exact hun
   refine wpOp_mono (fun a' w' h3=>?_) h2
   have e3:((listed.setIfInBounds i true).setIfInBounds j true).getD k0 true=(listed.setIfInBounds j true).getD k0 true:=by
    rw [Array.setIfInBounds_comm _ _ (Ne.symm hji),hset]
   have hS':(listed.setIfInBounds j true).getD k0 true=false→S w':=fun h=>h3.2.1 (by rw [e3];exact h)
   have hTu:T w'∧((∀w,T w)∨(listed.setIfInBounds j true).getD k0 true=false):=by
    rcases hT with hT | ⟨hT,ok,hok,e,he,hb,hon⟩
    ·exact⟨hT w',.inl hT⟩
    ·have hjk:j≠k0:=fun hjk=>by
      subst hjk
      have :oj=ok:=Option.some.inj (hoj.symm.trans hok)
      subst this
      exact hnot e he hb hon
     rcases hu with hu | hu
     ·exact⟨hu w',.inl hu⟩
     ·have h5:(listed.setIfInBounds j true).getD k0 true=false:=by rw [getD_set_ne true hjk];exact hu
      exact⟨hT w' (hS' h5),.inr h5⟩
   refine⟨hS',ih (listed.setIfInBounds j true) a' w' hfree' (ready_mono hr (Ne.symm hji)) h3.1 hS' hTu.1 hTu.2 ?_⟩
   rw [Array.setIfInBounds_comm _ _ hji]
   exact h3.2.2
theorem wpAnyG_load{i:Nat}{oi:Oper}{v:Value}{fuel:Nat}{listed:Array Bool}{a:Act}{w:World}(hi:ops[i]? =some oi)
  (hs:Region.noSelect ops=true) (hf:Region.free md ops listed i=true) (hr:(Region.ready md ops listed).contains i=true)
  (hQ:∀c a w,Q (.panic c) (a.put oi.dst v) w→Q (.panic c) a w) (hw:Region.waitsFor md ops k0 i=true) (hu:listed.getD k0 true=false) (hik:(i==k0)=false) (hy:YieldsIf P ops S oi v a) (hS:S w)
  (h:wpAnyG P md ops Q S k0 fuel (listed.setIfInBounds i true) (a.put oi.dst v) w):wpAnyG P md ops Q S k0 (fuel+1) listed a w:=
 wpAnyG_first (T:=S) (by simpa using hik) hi (Region.noSelect_spec hs) hQ (.inr ⟨fun _ h=>h,Region.waitsFor_spec hw⟩) fuel listed a w (Region.free_spec hi hf) (by simpa using hr) hy (fun _=>hS) hS (.inr hu) h
theorem wpAnyG_pure{i:Nat}{oi:Oper}{v:Value}{fuel:Nat}{listed:Array Bool}{a:Act}{w:World}(hi:ops[i]? =some oi)
  (hs:Region.noSelect ops=true) (hf:Region.free md ops listed i=true) (hr:(Region.ready md ops listed).contains i=true)
  (hQ:∀c a w,Q (.panic c) (a.put oi.dst v) w→Q (.panic c) a w) (hik:(i==k0)=false) (hy:YieldsIf P ops (fun _=>True) oi v a) (hS:listed.getD k0 true=false→S w)
  (h:wpAnyG P md ops Q S k0 fuel (listed.setIfInBounds i true) (a.put oi.dst v) w):wpAnyG P md ops Q S k0 (fuel+1) listed a w:=
 wpAnyG_first (T:=fun _=>True) (by simpa using hik) hi (Region.noSelect_spec hs) hQ (.inl fun _=>trivial) fuel listed a w (Region.free_spec hi hf) (by simpa using hr) hy hS trivial (.inl fun _=>trivial) h
theorem wpAnyG_one{i:Nat}{o:Oper}{fuel:Nat}{listed:Array Bool}{a:Act}{w:World}(hr:Region.ready md ops listed=[i])(ho:ops[i]? =some o)
  (h:∀K':Act→World→Prop,Shut (∀a w,((listed.setIfInBounds i true).getD k0 true=false→S w)→wpAnyG P md ops Q S k0 fuel (listed.setIfInBounds i true) a w→K' a w)→if Region.wanted o (yielded ops a.tmps)=true then Oper.wp P o a w K' Q else K' (a.put o.dst undef) w):
  wpAnyG P md ops Q S k0 (fuel+1) listed a w:=by
 refine⟨fun h0=>(by rw [h0]at hr;cases hr),fun j hj=>?_⟩
 rw [hr]at hj
 simp at hj
 subst hj
 exact wpOp_step ho (fun K' hK=>h K' (fun a w hS hW=>hK a w ⟨hS,hW⟩))
theorem wpAnyG_done{listed:Array Bool}{a:Act}{w:World}(hr:Region.ready md ops listed=[])(h:Q .normal a w):
  ∀fuel,wpAnyG P md ops Q S k0 fuel listed a w
 | 0=>⟨hr,h⟩
 | _+1=>⟨fun _=>h,by rw [hr];simp⟩
theorem wp_region_G{id:Nat}{a:Act}{w:World}(hm:P.follows .mixedOrders=true)(hS:S w.drew)
  (h:S w.drew→wpAnyG P .any ops Q S k0 ops.size (Array.replicate ops.size false) a w.drew):(Code.region id ops true).wp P Q a w:=
 wp_region_any hm (wpAny_of_G _ _ _ _ (h hS))
theorem gP{oi:Oper}{v:Value}{fuel:Nat}{listed l':Array Bool}{a a':Act}{w:World}(i:Nat)(hi:ops[i]? =some oi:=by rfl)(hs:Region.noSelect ops=true:=by kernel_rfl)(hf:Region.free md ops listed i=true:=by kernel_rfl)(hr:(Region.ready md ops listed).contains i=true:=by kernel_rfl)(hQ:∀c a w,Q (.panic c) (a.put oi.dst v) w→Q (.panic c) a w:=by exact fun _ _ _ h=>h)(hik:(i==k0)=false:=by kernel_rfl)(hw:Region.wanted oi (yielded ops a.tmps)=true:=by rfl)
  (hv:∀w,(fun _=>True) w→(execOp a.eval oi).run P w=.ok (.value v) w:=by intro wx hSw;(try dsimp only at hSw);go_simp;try with_reducible rfl) (ha:a.put oi.dst v=a':=by(try simp only [Act.put,List.setIfInBounds_toArray,List.set_cons_zero,List.set_cons_succ]) <;> rfl) (hl:listed.setIfInBounds i true=l':=by(try simp only [List.setIfInBounds_toArray,List.set_cons_zero,List.set_cons_succ]) <;> rfl) (hS:listed.getD k0 true=false→S w:=by exact fun _=>by assumption)
  (h:wpAnyG P md ops Q S k0 fuel l' a' w):wpAnyG P md ops Q S k0 (fuel+1) listed a w:=by
 subst ha hl
 exact wpAnyG_pure hi hs hf hr hQ hik (.inl ⟨hw,hv⟩) hS h
theorem gL{oi:Oper}{v:Value}{fuel:Nat}{listed l':Array Bool}{a a':Act}{w:World}(i:Nat)(hi:ops[i]? =some oi:=by rfl)(hs:Region.noSelect ops=true:=by kernel_rfl)(hf:Region.free md ops listed i=true:=by kernel_rfl)(hr:(Region.ready md ops listed).contains i=true:=by kernel_rfl)(hQ:∀c a w,Q (.panic c) (a.put oi.dst v) w→Q (.panic c) a w:=by exact fun _ _ _ h=>h)(hb:Region.waitsFor md ops k0 i=true:=by kernel_rfl)(hu:listed.getD k0 true=false:=by kernel_rfl)(hik:(i==k0)=false:=by kernel_rfl)(hw:Region.wanted oi (yielded ops a.tmps)=true:=by rfl)
  (hv:∀w,S w→(execOp a.eval oi).run P w=.ok (.value v) w:=by intro wx hSw;(try dsimp only at hSw);go_simp;try with_reducible rfl) (ha:a.put oi.dst v=a':=by(try simp only [Act.put,List.setIfInBounds_toArray,List.set_cons_zero,List.set_cons_succ]) <;> rfl) (hl:listed.setIfInBounds i true=l':=by(try simp only [List.setIfInBounds_toArray,List.set_cons_zero,List.set_cons_succ]) <;> rfl) (hS:S w:=by assumption)
  (h:wpAnyG P md ops Q S k0 fuel l' a' w):wpAnyG P md ops Q S k0 (fuel+1) listed a w:=by
 subst ha hl
 exact wpAnyG_load hi hs hf hr hQ hb hu hik (.inl ⟨hw,hv⟩) hS h
theorem hT{oi:Oper}{v:Value}{fuel:Nat}{listed l':Array Bool}{a a':Act}{w:World}(i:Nat)(hi:ops[i]? =some oi:=by rfl)(hs:Region.noSelect ops=true:=by kernel_rfl)(hf:Region.free md ops listed i=true:=by kernel_rfl)(hr:(Region.ready md ops listed).contains i=true:=by kernel_rfl)(hQ:∀c a w,Q (.panic c) (a.put oi.dst v) w→Q (.panic c) a w:=by exact fun _ _ _ h=>h)(hw:Region.wanted oi (yielded ops a.tmps)=true:=by rfl)
  (hv:∀w,S w→(execOp a.eval oi).run P w=.ok (.value v) w:=by intro wx hSw;(try dsimp only at hSw);go_simp;try with_reducible rfl) (ha:a.put oi.dst v=a':=by(try simp only [Act.put,List.setIfInBounds_toArray,List.set_cons_zero,List.set_cons_succ]) <;> rfl) (hl:listed.setIfInBounds i true=l':=by(try simp only [List.setIfInBounds_toArray,List.set_cons_zero,List.set_cons_succ]) <;> rfl) (hS:S w:=by assumption)
  (h:wpAnyH P md ops Q S fuel l' a' w):wpAnyH P md ops Q S (fuel+1) listed a w:=by
 subst ha hl
 exact wpAnyH_take hi hs hf hr hQ (.inl ⟨hw,hv⟩) hS h
end
end Go.Proofs.YtkdomegcacgpnaaGreat
namespace Go.Proofs.YtkdomegcacgpnaaGreat
open Go.RowKit
theorem row_cap{w:World}{B:Nat}{e:TypeId}{size n cap:Nat}{a:Option Addr}{xs:List Value}(h:w.ownsRow B e size (.slice a n cap) n xs):n≤cap∧cap≤9223372036854775807:=by
 rcases h.2 with ⟨hv,hz⟩ | ⟨g,cap',cur,hv,hb,hg,hn,hm,hcs,ht⟩
 ·simp at hv
  obtain⟨_,rfl,rfl⟩:=hv
  exact⟨Nat.le_refl _,Nat.zero_le _⟩
 ·simp at hv
  obtain⟨_,rfl⟩:=hv
  exact⟨hn,hm⟩
def RemK(K:List UInt8)(l l':List (ByteArray×ByteArray)):Prop:=
 ((∀x∈l,(x.1.toList==K)=false)∧l'=l)∨∃i,i<l.length∧((l.getD i default).1.toList==K)=true∧l'=(l.set i (l.getD (l.length-1) default)).dropLast
def RemC(l l':List (ByteArray×ByteArray)):Prop:=RemK [99,108,97,115,115] l l'
structure UnattrK (K:List UInt8) (B b:Nat) (r:NRec) (l:List (ByteArray×ByteArray)) (w w':World) (v':Value) (l':List (ByteArray×ByteArray)):Prop where
 rem:RemK K l l'
 node:World.nodeAt w' b {r with attr:=v'}
 own:w'.ownsRow B 119 3 v' l'.length (attrCells l')
 same:v'.ownBlock=r.attr.ownBlock
 keep:∀k,k<w.heap.size→k≠b→(0<l.length→r.attr.ownBlock≠some k)→w'.heap[k]? =w.heap[k]?
 size:w.heap.size≤w'.heap.size
 bel:∀B',B'≤B→B'≤b→Below B' w w'
abbrev Unattr:=UnattrK [99,108,97,115,115]
theorem attrCells_set3:∀(l:List (ByteArray×ByteArray)) (i:Nat) (k v:ByteArray),i<l.length→(((attrCells l).set (i*3) (.string ByteArray.empty)).set (i*3+1) (.string k)).set (i*3+2) (.string v)=attrCells (l.set i (k,v))
 | [],i,_,_,h=>by simp at h
 | x::r,0,k,v,_=>by
  have e:attrCells (x::r)=Value.string ByteArray.empty::.string x.1::.string x.2::attrCells r:=by simp [attrCells]
  have e2:attrCells ((x::r).set 0 (k,v))=Value.string ByteArray.empty::.string k::.string v::attrCells r:=by simp [attrCells]
  rw [e,e2]
  rfl
 | x::r,i+1,k,v,h=>by
  have e:attrCells (x::r)=Value.string ByteArray.empty::.string x.1::.string x.2::attrCells r:=by simp [attrCells]
  have e2:attrCells ((x::r).set (i+1) (k,v))=Value.string ByteArray.empty::.string x.1::.string x.2::attrCells (r.set i (k,v)):=by simp [attrCells]
  have ih:=attrCells_set3 r i k v (by simpa using h)
  rw [e,e2,←ih,show(i+1)*3=i*3+1+1+1 by omega,show i*3+1+1+1+1=(i*3+1)+1+1+1 by omega,show i*3+1+1+1+2=(i*3+2)+1+1+1 by omega]
  simp only [List.set_cons_succ]
theorem attrCells_take:∀(l:List (ByteArray×ByteArray)) (J:Nat),(attrCells l).take (J*3)=attrCells (l.take J)
 | [],J=>by simp [attrCells]
 | x::r,0=>by simp [attrCells]
 | x::r,J+1=>by
  have e:attrCells (x::r)=Value.string ByteArray.empty::.string x.1::.string x.2::attrCells r:=by simp [attrCells]
  have e2:attrCells ((x::r).take (J+1))=Value.string ByteArray.empty::.string x.1::.string x.2::attrCells (r.take J):=by simp [attrCells]
  rw [e,e2,←attrCells_take r J,show(J+1)*3=J*3+1+1+1 by omega]
  simp only [List.take_succ_cons]
theorem ownsRow_less{w:World}{B:Nat}{e:TypeId}{size g n cap:Nat}{xs:List Value}(h:w.ownsRow B e size (.slice (some ⟨g,0,none⟩) n cap) n xs){m:Nat}(hm:m≤n):w.ownsRow B e size (.slice (some ⟨g,0,none⟩) m cap) m (xs.take (m*size)):=by
 rcases h.2 with ⟨h1,_⟩ | ⟨g',cap',cur,hv,hb,hg,hn,hmx,hcs,ht⟩
 ·simp at h1
 ·simp at hv
  obtain⟨rfl,rfl⟩:=hv
  have hle:m*size≤n*size:=Nat.mul_le_mul_right size hm
  refine⟨by rw [List.length_take,h.1];omega,.inr ⟨g,cap,cur,rfl,hb,hg,by omega,hmx,hcs,?_⟩⟩
  rw [←ht,List.take_take,Nat.min_eq_left hle]
theorem unattr_fin{K:List UInt8}{B b g cap:Nat}{w X:World}{r:NRec}{l:List (ByteArray×ByteArray)}(hrow:X.ownsRow B 119 3 (.slice (some ⟨g,0,none⟩) l.length cap) l.length (attrCells l))(hnode:World.nodeAt X b r)(hbel:Below w.heap.size w X)(hb:b<w.heap.size)(hgb:g≠b)(hra:r.attr=.slice (some ⟨g,0,none⟩) l.length cap){i J:Nat}(hi:i<l.length)(hJ:J+1=l.length)(hq:((l.getD i default).1.toList==K)=true){k2 v2:ByteArray}(hk:l.getD J default=(k2,v2))(z:Value):
  UnattrK K B b r l w (((((((X.setCell ⟨g,i*3,none⟩ (.string ByteArray.empty)).setCell ⟨g,i*3+1,none⟩ (.string k2)).setCell ⟨g,i*3+2,none⟩ (.string v2)).setCell ⟨g,J*3,none⟩ z).setCell ⟨g,J*3+1,none⟩ z).setCell ⟨g,J*3+2,none⟩ z).setCell ⟨b,9,none⟩ (.slice (some ⟨g,0,none⟩) J cap)).drew (.slice (some ⟨g,0,none⟩) J cap) ((l.set i (k2,v2)).dropLast):=by
 have hgB:=(World.ownsRow.lt hrow g rfl).1
 have r1:=ownsRow_set hrow (i:=i*3) (by omega) (.string ByteArray.empty)
 have r2:=ownsRow_set r1 (i:=i*3+1) (by omega) (.string k2)
 have r3:=ownsRow_set r2 (i:=i*3+2) (by omega) (.string v2)
 rw [attrCells_set3 l i k2 v2 hi]at r3
 have r4:=ownsRow_set r3 (i:=J*3) (by omega) z
 have r5:=ownsRow_set r4 (i:=J*3+1) (by omega) z
 have r6:=ownsRow_set r5 (i:=J*3+2) (by omega) z
 have r7:=ownsRow_less r6 (m:=J) (by omega)
 rw [List.take_set_of_le (by omega),List.take_set_of_le (by omega),List.take_set_of_le (by omega),attrCells_take]at r7
 have hdl:(l.set i (k2,v2)).dropLast=(l.set i (k2,v2)).take J:=by
  rw [List.dropLast_eq_take,List.length_set]
  congr 1
  omega
 have hdn:((l.set i (k2,v2)).dropLast).length=J:=by rw [List.length_dropLast,List.length_set];omega
 obtain⟨Y,hY⟩:∃Y,(((((X.setCell ⟨g,i*3,none⟩ (.string ByteArray.empty)).setCell ⟨g,i*3+1,none⟩ (.string k2)).setCell ⟨g,i*3+2,none⟩ (.string v2)).setCell ⟨g,J*3,none⟩ z).setCell ⟨g,J*3+1,none⟩ z).setCell ⟨g,J*3+2,none⟩ z=Y:=⟨_,rfl⟩
 rw [hY]at r7 ⊢
 have hYk:∀k,k≠g→Y.heap[k]? =X.heap[k]? :=fun k hk=>by
  rw [←hY,heap_setCell_other _ _ _ _ hk,heap_setCell_other _ _ _ _ hk,heap_setCell_other _ _ _ _ hk,heap_setCell_other _ _ _ _ hk,heap_setCell_other _ _ _ _ hk,heap_setCell_other _ _ _ _ hk]
 have hYn:World.nodeAt Y b r:=by
  unfold World.nodeAt at hnode ⊢
  rw [hYk b (Ne.symm hgb)];exact hnode
 have hYb:∀B',B'≤g→B'≤w.heap.size→Below B' w Y:=fun B' h1 h2=>by
  rw [←hY]
  exact((((((hbel.mono h2).setCell h1 _).setCell h1 _).setCell h1 _).setCell h1 _).setCell h1 _).setCell h1 _
 refine⟨.inr ⟨i,hi,hq,?_⟩,?_,?_,by rw [hra];rfl,fun k hk1 hk2 hk3=>?_,?_,fun B' h1 h2=>?_⟩
 ·have :l.getD (l.length-1) default=(k2,v2):=by rw [←hk];congr 1;omega
  rw [this]
 ·show World.nodeAt (Y.setCell ⟨b,9,none⟩ _) b _
  rw [setCell_attr hYn]
  exact hYn.put _
 ·rw [hdn,hdl]
  show(Y.setCell ⟨b,9,none⟩ _).ownsRow B _ 3 _ J _
  exact ownsRow_kept r7 (fun q hq2=>by
   simp [Value.ownBlock]at hq2
   subst hq2
   exact heap_setCell_other _ _ _ _ hgb)
 ·show(Y.setCell ⟨b,9,none⟩ _).heap[k]? =_
  have hkg:k≠g:=fun e=>hk3 (by omega) (by rw [hra,e];rfl)
  rw [heap_setCell_other _ _ _ _ hk2,hYk k hkg]
  exact hbel.block k hk1
 ·have h1:=hbel.size
  show w.heap.size≤(Y.setCell ⟨b,9,none⟩ _).heap.size
  rw [←hY]
  simpa [World.setCell]using h1
 ·exact((hYb B' (Nat.le_trans h1 hgB) (by omega)).setCell h2 _).drew
def UnattrPostK(K:List UInt8)(B b:Nat)(r:NRec)(l:List (ByteArray×ByteArray))(w:World)(e:Ending)(w':World):Prop:=∃v' l',e=.returned (.tuple #[])∧Hid (UnattrK K B b r l w w' v' l')
set_option maxRecDepth 100000 in
set_option maxHeartbeats 4000000 in
theorem removeAttrK_any(key:ByteArray)(B b:Nat)(r:NRec)(l:List (ByteArray×ByteArray))(w:World)(hn:World.nodeAt w b r)(ho:w.ownsRow B 119 3 r.attr l.length (attrCells l))(hl:l.length≤100):
  Calls Tryz.prog 72 #[.pointer (some ⟨b,0,none⟩),.string key] w (UnattrPostK key.toList B b r l w):=by
 obtain⟨a,cap,g,hv,hlm,hg,hcc⟩:=attr_open ho
 have c9:=hn.attr
 rw [hv]at c9
 have HO:=Lib.hid (And.intro ho hn)
 have HCC:=Lib.hid hcc
 have HV:=Lib.hid hv
 have HG:=Lib.hid hg
 clear ho hn hcc hv hg
 go_enter Tryz.func72,Tryz.ntmps72
 go_wp2
 go_loopw [11] (fun iv wr=>∃i:Nat,i≤l.length∧iv=.int .i64 (i:Int)∧Hid (Below w.heap.size w wr)∧Hid (∀j,j<i→((l.getD j default).1.toList==key.toList)=false)) (fun iv _=>l.length-(intOf iv).toNat)
 case atStart=>exact⟨0,by omega,by go_num,Lib.hid (Below.refl _ _),Lib.hid (fun j hj=>by omega)⟩
 case round=>
  obtain⟨i,hi,rfl,HB,HNO⟩:=hrel
  by_cases hlt:i<l.length
  ·obtain rfl:=HG.out (by omega)
   obtain⟨p0,p1,p2⟩:=HCC.out i hlt
   have p0:=cell_below HB.out p0
   have p1:=cell_below HB.out p1
   have p2:=cell_below HB.out p2
   have hbs:=HB.out.size
   obtain⟨ky,hky⟩:∃ky,(l.getD i default).1=ky:=⟨_,rfl⟩
   obtain⟨vl,hvl⟩:∃vl,(l.getD i default).2=vl:=⟨_,rfl⟩
   rw [hky]at p1
   rw [hvl]at p2
   have hiI:(i:Int)<(l.length:Int):=by omega
   cases hq:(ky.toList==key.toList)
   ·have hno:∀j,j<i+1→((l.getD j default).1.toList==key.toList)=false:=fun j hj=>by
     by_cases e:j=i
     ·subst e;rw [hky];exact hq
     ·exact HNO.out j (by omega)
    have HNO2:=Lib.hid hno
    clear hno hky hvl
    go_wp2
    refine⟨?rel,?measure⟩
    case rel=>exact⟨i+1,by omega,by go_num,Lib.hid (HB.out.alloc hbs _),HNO2⟩
    case measure=>simp [intOf];omega
   ·obtain⟨X,hX⟩:∃X,wr.alloc (.cells #[.string ByteArray.empty,.string ky,.string vl] 119)=X:=⟨_,rfl⟩
    have hbX:Below wr.heap.size wr X:=by rw [←hX];exact(Below.refl _ _).alloc (Nat.le_refl _) _
    have a1:X.cell? ⟨wr.heap.size,1,none⟩=some (.string ky):=by rw [←hX];exact cell_alloc_new' _ _ _ rfl rfl
    have HBX:=Lib.hid (HB.out.trans (hbX.mono hbs))
    have c9:=cell_below HBX.out c9
    have hrow:X.ownsRow B 119 3 (.slice (some ⟨g,0,none⟩) l.length cap) l.length (attrCells l):=ownsRow_kept (by have :=HO.out.1;rwa [HV.out]at this) (fun k hk=>HBX.out.block k (World.ownsRow.lt HO.out.1 k (by rw [HV.out];exact hk)).2)
    have HROW:=Lib.hid hrow
    have f9:X.frozen? ⟨b,9,none⟩=false:=by
     have h1:=HO.out.2
     unfold World.nodeAt at h1
     have h2:World.nodeAt X b r:=by
      unfold World.nodeAt
      rw [HBX.out.block b (World.nodeAt.lt HO.out.2)]
      exact h1
     exact h2.free 9
    have hgb:g≠b:=fun e=>by
     have h1:=node_ne_own HO.out.2 HO.out.1
     rw [HV.out]at h1
     exact h1 (by rw [←e];rfl)
    have hfar:∀(Y:World) (o:Nat) (u:Value),(Y.setCell ⟨g,o,none⟩ u).cell? ⟨b,9,none⟩=Y.cell? ⟨b,9,none⟩:=fun Y o u=>World.cell?_setCell_far Y ⟨g,o,none⟩ ⟨b,9,none⟩ u hgb
    have hwi:∀o,X.frozen? ⟨g,o,none⟩=false:=fun o=>World.ownsRow.frozenAt HROW.out o
    have fi0:=hwi (i*3)
    have fi1:=hwi (i*3+1)
    have fi2:=hwi (i*3+2)
    by_cases hlast:i+1=l.length
    ·obtain⟨m,hm⟩:∃m,l.length=m:=⟨_,rfl⟩
     obtain⟨hcap1,hcap2⟩:=row_cap hrow
     have hJI:(l.length:Int)-1=(i:Int):=by omega
     have hJc:(i:Int)≤(cap:Int):=by omega
     have hcI:(cap:Int)≤9223372036854775807:=by omega
     rw [hm]at hiI hJI hlt hlm c9 ⊢
     have HKV:=Lib.hid (And.intro hky (And.intro hvl (And.intro hlast hm)))
     have p0':=cell_below hbX p0
     have p1':=cell_below hbX p1
     have p2':=cell_below hbX p2
     have hwJ:IntKind.i64.wrap ((i:Nat):Int)=((i:Nat):Int):=(IntWalk.i64_left _).trans (IntWalk.wrap64_in _ (by omega))
     clear hky hvl hlast hm hrow hwi hcap1
     go_wp2
     refine wp_region_noPanic ?_
     refine wp_region_G (k0:=41) (S:=fun w'=>w'.cell? ⟨b,9,none⟩=some (.slice (some ⟨g,0,none⟩) m cap)∧w'.cell? ⟨g,i*3,none⟩=some (.string ByteArray.empty)∧w'.cell? ⟨g,i*3+1,none⟩=some (.string ky)∧w'.cell? ⟨g,i*3+2,none⟩=some (.string vl)) (by kernel_rfl) ?_ (fun hHeld=>?_)
     ·exact⟨c9,p0',p1',p2'⟩
     apply gP 0
     apply gP 1
     apply gP 2
     apply gL 3
     apply gP 4
     apply gP 5
     apply gP 6
     apply gP 7
     apply gL 8
     apply gP 9
     apply gP 10
     apply gP 11
     apply gL 12
     apply gP 13
     apply gP 14
     apply gP 15
     apply gP 16
     apply gP 17
     apply gP 18
     apply gL 19
     apply gP 20
     apply gP 21
     apply gP 22
     apply gL 23
     apply gP 24
     apply gP 25
     apply gP 26
     apply gL 27
     apply gP 28
     apply gP 29
     apply gP 30
     apply gP 31
     apply gL 32
     apply gP 33
     apply gP 34
     apply gP 35
     apply gL 36
     apply gP 37
     apply gP 38
     apply gP 39
     apply gP 40
     refine wpAnyG_one (i:=41) (by kernel_rfl) (o:=_) rfl (fun K hK=>?_)
     go_simp
     refine hK.out _ _ (fun h=>absurd (h.symm.trans (by kernel_rfl:_=true)) (by decide)) ?_
     clear hK K
     try simp only [Act.put,List.setIfInBounds_toArray,List.set_cons_zero,List.set_cons_succ]
     apply gP 42 (hS:=fun h=>absurd (h.symm.trans (by kernel_rfl:_=true)) (by decide))
     refine wpAnyG_one (i:=43) (by kernel_rfl) (o:=_) rfl (fun K hK=>?_)
     go_simp
     refine hK.out _ _ (fun h=>absurd (h.symm.trans (by kernel_rfl:_=true)) (by decide)) ?_
     clear hK K
     try simp only [Act.put,List.setIfInBounds_toArray,List.set_cons_zero,List.set_cons_succ]
     apply gP 44 (hS:=fun h=>absurd (h.symm.trans (by kernel_rfl:_=true)) (by decide))
     apply gP 45 (hS:=fun h=>absurd (h.symm.trans (by kernel_rfl:_=true)) (by decide))
     refine wpAnyG_one (i:=46) (by kernel_rfl) (o:=_) rfl (fun K hK=>?_)
     go_simp
     refine hK.out _ _ (fun h=>absurd (h.symm.trans (by kernel_rfl:_=true)) (by decide)) ?_
     clear hK K
     try simp only [Act.put,List.setIfInBounds_toArray,List.set_cons_zero,List.set_cons_succ]
     refine wpAnyG_done (by kernel_rfl) ?_ _
     refine NoPanic.normal ?_
     have HU:=Lib.hid (unattr_fin (w:=w) HROW.out (show World.nodeAt X b r by unfold World.nodeAt;rw [HBX.out.block b (World.nodeAt.lt HO.out.2)];exact HO.out.2) HBX.out (World.nodeAt.lt HO.out.2) hgb HV.out (i:=i) (J:=i) (by have :=HKV.out.2.2.1;omega) HKV.out.2.2.1 (by rw [HKV.out.1];exact hq) (k2:=ky) (v2:=vl) (Prod.ext HKV.out.1 HKV.out.2.1) (.string ⟨#[]⟩))
     go_wp2
     go_end0
     exact⟨_,_,rfl,HU⟩
    ·obtain⟨J,hJ⟩:∃J,l.length-1=J:=⟨_,rfl⟩
     have hJI:(l.length:Int)-1=(J:Int):=by omega
     obtain⟨r0,r1,r2⟩:=HCC.out J (by omega)
     have r0:=cell_below HBX.out r0
     have r1:=cell_below HBX.out r1
     have r2:=cell_below HBX.out r2
     have fj0:=hwi (J*3)
     have fj1:=hwi (J*3+1)
     have fj2:=hwi (J*3+2)
     obtain⟨k2,hk2⟩:∃ky,(l.getD J default).1=ky:=⟨_,rfl⟩
     obtain⟨v2,hv2⟩:∃vl,(l.getD J default).2=vl:=⟨_,rfl⟩
     rw [hk2]at r1
     rw [hv2]at r2
     have hJm:(J:Int)<(l.length:Int):=by omega
     have hiJ:i<J:=by omega
     obtain⟨hcap1,hcap2⟩:=row_cap hrow
     have hJc:(J:Int)≤(cap:Int):=by omega
     have hcI:(cap:Int)≤9223372036854775807:=by omega
     obtain⟨m,hm⟩:∃m,l.length=m:=⟨_,rfl⟩
     rw [hm]at hiI hJm hJI hlt hlm c9 ⊢
     have HKV:=Lib.hid (And.intro hky (And.intro hvl (And.intro hk2 (And.intro hv2 (And.intro hJ hm)))))
     have p0':=cell_below hbX p0
     have p1':=cell_below hbX p1
     have p2':=cell_below hbX p2
     have hwJ:IntKind.i64.wrap ((J:Nat):Int)=((J:Nat):Int):=(IntWalk.i64_left _).trans (IntWalk.wrap64_in _ (by omega))
     clear hky hvl hk2 hv2 hJ hm hrow hwi hcap1
     go_wp2
     refine wp_region_noPanic ?_
     refine wp_region_G (k0:=41) (S:=fun w'=>w'.cell? ⟨b,9,none⟩=some (.slice (some ⟨g,0,none⟩) m cap)∧w'.cell? ⟨g,J*3,none⟩=some (.string ByteArray.empty)∧w'.cell? ⟨g,J*3+1,none⟩=some (.string k2)∧w'.cell? ⟨g,J*3+2,none⟩=some (.string v2)) (by kernel_rfl) ?_ (fun hHeld=>?_)
     ·exact⟨c9,r0,r1,r2⟩
     apply gP 0
     apply gP 1
     apply gP 2
     apply gL 3
     apply gP 4
     apply gP 5
     apply gP 6
     apply gP 7
     apply gL 8
     apply gP 9
     apply gP 10
     apply gP 11
     apply gL 12
     apply gP 13
     apply gP 14
     apply gP 15
     apply gP 16
     apply gP 17
     apply gP 18
     apply gL 19
     apply gP 20
     apply gP 21
     apply gP 22
     apply gL 23
     apply gP 24
     apply gP 25
     apply gP 26
     apply gL 27
     apply gP 28
     apply gP 29
     apply gP 30
     apply gP 31
     apply gL 32
     apply gP 33
     apply gP 34
     apply gP 35
     apply gL 36
     apply gP 37
     apply gP 38
     apply gP 39
     apply gP 40
     refine wpAnyG_one (i:=41) (by kernel_rfl) (o:=_) rfl (fun K hK=>?_)
     go_simp
     refine hK.out _ _ (fun h=>absurd (h.symm.trans (by kernel_rfl:_=true)) (by decide)) ?_
     clear hK K
     try simp only [Act.put,List.setIfInBounds_toArray,List.set_cons_zero,List.set_cons_succ]
     apply gP 42 (hS:=fun h=>absurd (h.symm.trans (by kernel_rfl:_=true)) (by decide))
     refine wpAnyG_one (i:=43) (by kernel_rfl) (o:=_) rfl (fun K hK=>?_)
     go_simp
     refine hK.out _ _ (fun h=>absurd (h.symm.trans (by kernel_rfl:_=true)) (by decide)) ?_
     clear hK K
     try simp only [Act.put,List.setIfInBounds_toArray,List.set_cons_zero,List.set_cons_succ]
     apply gP 44 (hS:=fun h=>absurd (h.symm.trans (by kernel_rfl:_=true)) (by decide))
     apply gP 45 (hS:=fun h=>absurd (h.symm.trans (by kernel_rfl:_=true)) (by decide))
     refine wpAnyG_one (i:=46) (by kernel_rfl) (o:=_) rfl (fun K hK=>?_)
     go_simp
     refine hK.out _ _ (fun h=>absurd (h.symm.trans (by kernel_rfl:_=true)) (by decide)) ?_
     clear hK K
     try simp only [Act.put,List.setIfInBounds_toArray,List.set_cons_zero,List.set_cons_succ]
     refine wpAnyG_done (by kernel_rfl) ?_ _
     refine NoPanic.normal ?_
     have HU:=Lib.hid (unattr_fin (w:=w) HROW.out (show World.nodeAt X b r by unfold World.nodeAt;rw [HBX.out.block b (World.nodeAt.lt HO.out.2)];exact HO.out.2) HBX.out (World.nodeAt.lt HO.out.2) hgb HV.out (i:=i) (J:=J) (by have :=HKV.out.2.2.2.2;omega) (by have :=HKV.out.2.2.2.2.1;have :=HKV.out.2.2.2.2.2;omega) (by rw [HKV.out.1];exact hq) (k2:=k2) (v2:=v2) (Prod.ext HKV.out.2.2.1 HKV.out.2.2.2.1) (.string ⟨#[]⟩))
     go_wp2
     go_end0
     exact⟨_,_,rfl,HU⟩
  ·obtain rfl:i=l.length:=by omega
   go_wp2
   go_end0
   refine⟨r.attr,l,rfl,Lib.hid ⟨.inl ⟨fun x hx=>?_,rfl⟩,?_,?_,rfl,fun k hk _ _=>HB.out.block k hk,HB.out.size,fun B' h1 h2=>HB.out.mono (Nat.le_of_lt (Nat.lt_of_le_of_lt h2 (World.nodeAt.lt HO.out.2)))⟩⟩
   ·obtain⟨j,hj,rfl⟩:=List.getElem_of_mem hx
    have :=HNO.out j hj
    simpa [List.getD,hj]using this
   ·have h1:=HO.out.2
    unfold World.nodeAt at *
    rw [HB.out.block b (World.nodeAt.lt HO.out.2)]
    exact h1
   ·exact ownsRow_kept HO.out.1 (fun k hk=>HB.out.block k (World.ownsRow.lt HO.out.1 k hk).2)
def UnattrPost(B b:Nat)(r:NRec)(l:List (ByteArray×ByteArray))(w:World)(e:Ending)(w':World):Prop:=∃v' l',e=.returned (.tuple #[])∧Hid (Unattr B b r l w w' v' l')
theorem removeAttr_any(B b:Nat)(r:NRec)(l:List (ByteArray×ByteArray))(w:World)(hn:World.nodeAt w b r)(ho:w.ownsRow B 119 3 r.attr l.length (attrCells l))(hl:l.length≤100):
  Calls Tryz.prog 72 #[.pointer (some ⟨b,0,none⟩),.string ⟨#[99,108,97,115,115]⟩] w (UnattrPost B b r l w):=by
 have h:=removeAttrK_any ⟨#[99,108,97,115,115]⟩ B b r l w hn ho hl
 rw [show(⟨#[99,108,97,115,115]⟩:ByteArray).toList=[99,108,97,115,115] by rw [ByteArray.toList_eq]]at h
 exact h
end Go.Proofs.YtkdomegcacgpnaaGreat
