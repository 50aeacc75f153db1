/- The statement of FnChanged: for every input the law returns true, and each argument reads as it did. (Where what it reads is of bounded bulk. The frame is printed by gen_frame.py, gen_upto.py.) -/
import Derived.Test.YtkdomegcacgpnaaGreatG50
import Derived.JoinedCond
import Derived.OpenShut
import Derived.Test.YtkdomegcacgpnaaGreatG51
set_option linter.unusedVariables false
set_option linter.unusedSimpArgs false
namespace Go.Proofs.YtkdomegcacgpnaaGreat.lawFnChanged
open Go.ChangeShapes Go.WideShapes Go.ChangeAt Go.RowKit
open Go.ChangeMaps (open_string shut_string)
theorem steps_list{W:World}{a:Option Addr}{len:Nat}(h:0<len→∃b off,a=some ⟨b,off,none⟩∧∀i,i<len→∃x a1 n1 c1 a2 n2 c2 xa xc,StepView W b (off+i*6) 1048576 x a1 n1 c1 a2 n2 c2 xa xc):∃xs:List StepD,xs.length=len∧StepsP W a xs:=by
 rcases Nat.eq_zero_or_pos len with rfl | h0
 ·exact⟨[],rfl,fun h=>absurd h (Nat.lt_irrefl 0)⟩
 ·obtain⟨b,off,rfl,hc⟩:=h h0
  obtain⟨f,hf⟩:=Go.Deep.choose_lt hc
  refine⟨(List.range len).map f,by simp,fun _=>⟨b,off,rfl,fun i hi=>?_⟩⟩
  have hi':i<len:=by simpa using hi
  have e:((List.range len).map f).getD i default=f i:=by simp [List.getD,hi']
  rw [e]
  obtain⟨a1,n1,c1,a2,n2,c2,xa,xc,v⟩:=hf i hi'
  exact⟨a1,n1,c1,a2,n2,c2,xa,xc,⟨⟨v.on,v.wi,strs_cells v.ls,v.few,v.lsz,v.key,v.val,v.cap⟩,v.cap1,v.cap2,v.ls⟩,v.k0,v.k1,v.k2,v.k3,v.k4,v.k5⟩
set_option maxRecDepth 100000 in
theorem contract(H:Type)(enc:TypeId×Value→H)(W:World)(base:Nat)(args:Array Value)(ds gs:List (DataW H))(before:List MemPlace)
  (hval0:∀(j:Nat) t v,Tryz.f4.params[j]? =some t→args[j]? =some v→Value.okWide Tryz.prog W .any base t v)
  (hW:DataW.Whole enc Tryz.prog Tryz.f4.params.toList Rows.fnChangedSpec.vars false W args.toList ds gs before) (hk:Rows.uptoSmall H (ds++gs)=true):
  Calls Tryz.prog 4 args W fun e W'=>∃v,e=.returned v∧Rows.fnChangedSpec.post enc Tryz.prog Tryz.f4 false true false false W args v W':=by
 have hval:∀(j:Nat) t v,Tryz.f4.params[j]? =some t→args[j]? =some v→Value.okWide Tryz.prog W .any base t v:=hval0
 have hW':=hW
 obtain⟨p,q,hA0,hV,rfl,hfz,hnd⟩:=hW
 have hA:DataW.TrodAll enc Tryz.prog W 0 (fun _=>true) true Tryz.f4.params.toList args.toList ds p:=hA0
 rw [Tryz.params4]at hA hval
 obtain⟨v0,vs0,d0,ds0,p0,q0,hargs,rfl,rfl,h0,r0⟩:=trodAll_cons hA
 obtain⟨v1,vs1,d1,ds1,p1,q1,rfl,rfl,rfl,h1,r1⟩:=trodAll_cons r0
 obtain⟨rfl,rfl,rfl⟩:=trodAll_nil r1
 obtain rfl:args= #[v0,v1]:=by cases args;simp_all
 obtain⟨rfl,rfl⟩:=trodVars_none hV
 obtain⟨a0,len0,cap0,rfl⟩:=okWide_slice Tryz.underlying22 (hval 0 22 v0 rfl rfl)
 have k0:=h0
 have lt0:∀x∈p0,x.block<W.heap.size:=by obtain⟨m,hm⟩:=k0;exact DataW.trod_lt m _ _ _ hm
 obtain⟨z0,w0⟩:=nodes_of h0
 obtain⟨a1,len1,cap1,rfl⟩:=okWide_slice Tryz.underlying32 (hval 1 32 v1 rfl rfl)
 have k1:=h1
 have lt1:∀x∈p1,x.block<W.heap.size:=by obtain⟨m,hm⟩:=k1;exact DataW.trod_lt m _ _ _ hm
 obtain⟨hl1,hm1,hst⟩:=steps_of h1
 have hb2:=of_decide_eq_true hk
 have hB:Rows.uptoBulk d1≤1048576:=by
  simp only [List.cons_append,List.nil_append,List.append_nil,Rows.uptoBulkAll]at hb2
  omega
 obtain⟨z1,hz1,w1⟩:=steps_list (fun h0=>by
  obtain⟨b,off,ha,hc⟩:=hst h0
  exact⟨b,off,ha,hc 1048576 hB⟩)
 subst hz1
 clear hA0 hval0
 refine(walk (W:=W) a0 len0 cap0 z0 w0 a1 cap1 z1 ⟨w1,hl1,hm1⟩).mono fun e W' ⟨he,bel⟩=>?_
 subst he
 exact⟨_,rfl,_,_,_,[],_,[],hW',trodAll_mk1 (shut_bool Tryz.underlying4 _),(trodAll_cons_mk (Below.trod Tryz.laidOut (by kernel_rfl) (of_decide_eq_true (by kernel_rfl)) k0 bel lt0) (trodAll_cons_mk (Below.trod Tryz.laidOut (by kernel_rfl) (of_decide_eq_true (by kernel_rfl)) k1 bel lt1) trodAll_mk0)),rfl,bel.frame _,fun h=>by cases h⟩
set_option maxRecDepth 100000 in
theorem lifted(os:Os)(started:os.Started)(H:Type)(enc:TypeId×Value→H)(F9:Stop.Interp):
  ReturnsInHanded {} Tryz.checked os 4 .any ((Rows.OpenSpec.upto Rows.fnChangedSpec).pre6 enc Tryz.prog Tryz.f4 Rows.fnChangedUptoRow.domain false) (((Rows.OpenSpec.upto Rows.fnChangedSpec).at F9).post enc Tryz.prog Tryz.f4 false true false false):=by
 refine returnsInHanded_of_cond (C:=Tryz.checked) (s:=Rows.OpenSpec.upto Rows.fnChangedSpec) (k:=Rows.uptoSmall) rfl Tryz.own started (by kernel_rfl) Tryz.func4
  (OpenSpec.witness (enc:=enc) (C:=Tryz.checked) (s:=Rows.OpenSpec.upto Rows.fnChangedSpec) (k:=Rows.uptoSmall) rfl false ⟨#[], #[.slice none 0 0,.slice none 0 0],[]⟩ 8 (by kernel_rfl) (by kernel_rfl) (by kernel_rfl)
   (x:=([.nil,.nil],[],[])) (by kernel_rfl) rfl (by kernel_rfl)) ?_
 intro W base args ds gs before hval hW _ hk _
 exact contract H enc W base args ds gs before hval hW hk
theorem over:Rows.fnChangedUptoRow.holds Tryz.pinned (Rows.OpenSpec.upto Rows.fnChangedSpec):=
 OpenClaim.holds_of_cond 4 Tryz.f4 rfl rfl rfl rfl rfl rfl rfl ⟨rfl,rfl,rfl,rfl,rfl⟩ rfl rfl rfl rfl rfl (by kernel_rfl) Tryz.func4 (by kernel_rfl)
  (of_decide_eq_true (by kernel_rfl)) (by unfold Func.isWrapper;first | (rw [if_pos (by decide+kernel)];kernel_rfl) | (rw [if_neg (by decide+kernel)];exact⟨rfl,rfl⟩))
  (fun os started H enc _ F9=>lifted os started H enc F9)
theorem proved:Rows.FnChangedUptoSaid:=over
#print axioms proved
end Go.Proofs.YtkdomegcacgpnaaGreat.lawFnChanged
