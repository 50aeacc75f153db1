/- Parts of a proof: Listed. -/
import Derived.Test.YtkdomegcacgpnaaGreatG08
import Derived.Test.YtkdomegcacgpnaaGreatG07
import Derived.Test.YtkdomegcacgpnaaGreatG09
import Derived.Deep.AppendLies
set_option linter.unusedVariables false
set_option linter.unusedSimpArgs false
namespace Go.Proofs.YtkdomegcacgpnaaGreat
open Go.RowKit
theorem Tryz.infoNode:(Tryz.prog.info? 38).map (fun i=>(i.zero,i.size,i.bytes))=some (some (.agg #[.int .i64 0,.string ByteArray.empty,.string ByteArray.empty,.slice none 0 0,.int .i64 0]),5,72):=by kernel_rfl
def nodeCells(n:NodeD)(v:Value)(s:Int):List Value:=[.int .i64 n.kind,.string n.tag,.string n.text,v,.int .i64 s]
def outCells(lab:Nat→NodeD)(av:Nat→Value)(C:List (Nat×Nat)):List Value:=C.flatMap fun y=>nodeCells (lab y.1) (av y.1) (y.2:Int)
theorem outCells_append(lab:Nat→NodeD)(av:Nat→Value)(C D:List (Nat×Nat)):outCells lab av (C++D)=outCells lab av C++outCells lab av D:=by simp [outCells]
theorem own_free{w:World}{B:Nat}{e:TypeId}{size g n cap:Nat}{xs:List Value}(h:w.ownsRow B e size (.slice (some ⟨g,0,none⟩) n cap) n xs)(o:Nat):w.frozen? ⟨g,o,none⟩=false:=by
 rcases h.2 with ⟨h1,_⟩ | ⟨g',cap',cur,hv,hb,hg,hn,hm,hcs,ht⟩
 ·simp at h1
 ·simp at hv
  obtain⟨rfl,rfl⟩:=hv
  simp [World.frozen?,hg]
theorem own_cell{w:World}{B:Nat}{e:TypeId}{size g n cap:Nat}{xs:List Value}(h:w.ownsRow B e size (.slice (some ⟨g,0,none⟩) n cap) n xs){i:Nat}(hi:i<xs.length):w.cell? ⟨g,i,none⟩=some (xs[i]'hi):=by
 have :=World.ownsRow.cells (h:=h) (g:=g) rfl i (xs[i]'hi) (List.getElem?_eq_getElem hi)
 rwa [show(⟨g,0,none⟩:Addr).add i=⟨g,i,none⟩ by unfold Addr.add;split <;> simp_all]at this
theorem set_last{cells A:List Value}{N:Nat}{n:NodeD}{v:Value}{s t:Int}(hc:cells.length=N*5):(cells++(nodeCells n v s++A)).set (N*5+4) (.int .i64 t)=cells++(nodeCells n v t++A):=by
 rw [List.set_append_right _ _ (by omega),hc,show N*5+4-N*5=4 by omega]
 rfl
def ListedPost(lab:Nat→NodeD)(av:Nat→Value)(pl:Nat→Int)(W:World)(g acap N:Nat)(cells:List Value)(vs:List Int)(C:List (Nat×Nat))(e:Ending)(w':World):Prop:=
 ∃v',e=.returned v'∧Hid (w'.ownsRow W.heap.size 38 5 v' (N+C.length) (cells++outCells lab av C))∧Hid (w'.ownsRow W.heap.size 3 1 (.slice (some ⟨g,0,none⟩) vs.length acap) vs.length ((atSet pl vs N C).map fun i=>Value.int .i64 i))∧v'.ownBlock≠some g∧Hid (Below W.heap.size W w')
set_option maxRecDepth 100000 in
set_option maxHeartbeats 8000000 in
theorem listed_any{B:Nat}{W:World}{n:Nat}{kn:Nat→Nat}{kv av:Nat→Value}{pl:Nat→Int}{lab:Nat→NodeD}{F:Wd}(hK:Knots B W n kn kv av pl lab F)(hF:WOk n F)(g acap:Nat):
  ∀(m x:Nat) (C:List (Nat×Nat)) (v:Value) (N:Nat) (cells:List Value) (vs:List Int) (w:World),x<n→Fs F.kids [x] C→C.length≤m→N+C.length≤100000→
   w.ownsRow W.heap.size 38 5 v N cells→w.ownsRow W.heap.size 3 1 (.slice (some ⟨g,0,none⟩) vs.length acap) vs.length (vs.map fun i=>Value.int .i64 i)→v.ownBlock≠some g→Below W.heap.size W w→vs.length≤100000→(∀i,i<n→pl i<(vs.length:Int))→
   Calls Tryz.prog 28 #[.pointer (some ⟨kn x,0,none⟩),v,.slice (some ⟨g,0,none⟩) vs.length acap] w (ListedPost lab av pl W g acap N cells vs C):=by
 intro m
 induction m with
 | zero=>
  intro x C v N cells vs w _ hC hm
  obtain⟨A,rfl,_⟩:=hC.one_inv
  simp at hm
 | succ m ih=>
  intro x C v N cells vs w hx hC hm hN hv hat hsep hbel hvl hpl
  obtain⟨A,hCA,hA⟩:=hC.one_inv
  obtain⟨i0,hi,hz0,hz1,hz2⟩:=info_parts Tryz.infoNode
  obtain⟨s,cap,gk,hkv,hkcap,hkcm,hks,hkc,_,_⟩:=own_open (hK.row x hx)
  have ho:=hK.node x hx
  have c0:=cell_below hbel ((hK.cells hx).1)
  have c7W:=(hK.cells hx).2.2
  rw [hkv]at c7W
  have hcl:cells.length=N*5:=hv.1
  obtain⟨sl,scap,rfl⟩:=ownsRow_slice hv
  have hAl:A.length+1=C.length:=by rw [hCA];simp
  have hfew:(F.kids x).length≤A.length:=by have :=hA.len;exact this
  obtain⟨K,hKK⟩:∃K,F.kids x=K:=⟨_,rfl⟩
  rw [hKK]at hA hkc hks hkcap c7W hkv hfew
  have hKn:∀y∈K,y<n:=fun y hy=>(hF.lt x y (by rw [hKK];exact hy)).2
  obtain⟨kd_,hkd⟩:∃q,(lab x).kind=q:=⟨_,rfl⟩
  obtain⟨tg,htg⟩:∃q,(lab x).tag=q:=⟨_,rfl⟩
  obtain⟨tx,htx⟩:∃q,(lab x).text=q:=⟨_,rfl⟩
  obtain⟨sz_,hsz⟩:∃q,(lab x).size=q:=⟨_,rfl⟩
  obtain⟨aa,ac,hax⟩:=ownsRow_slice (hK.attrs x hx)
  obtain⟨al,hal⟩:∃q,(lab x).attrs.length=q:=⟨_,rfl⟩
  rw [hal]at hax
  have d1:W.cell? ⟨kn x,1,none⟩=some (.int .i64 kd_):=by have :=ho.cell (i:=1) (v:=.int .i64 (lab x).kind) rfl;rwa [hkd]at this
  have d2:W.cell? ⟨kn x,2,none⟩=some (.string tg):=by have :=ho.cell (i:=2) (v:=.string (lab x).tag) rfl;rwa [htg]at this
  have d3:W.cell? ⟨kn x,3,none⟩=some (.string tx):=by have :=ho.cell (i:=3) (v:=.string (lab x).text) rfl;rwa [htx]at this
  have d4:W.cell? ⟨kn x,4,none⟩=some (.slice aa al ac):=by have :=ho.cell (i:=4) (v:=av x) rfl;rwa [hax]at this
  have d5:W.cell? ⟨kn x,5,none⟩=some (.int .i64 sz_):=by have :=ho.cell (i:=5) (v:=.int .i64 (lab x).size) rfl;rwa [hsz]at this
  have hplx:=hpl x hx
  have HPL:=Lib.hid hpl
  clear hpl
  have HLAB:=Lib.hid (And.intro hkd (And.intro htg (And.intro htx (And.intro hsz hax))))
  have HD:=Lib.hid (And.intro d1 (And.intro d2 (And.intro d3 (And.intro d4 d5))))
  have HC7:=Lib.hid c7W
  have HKC:=Lib.hid hkc
  have HKS:=Lib.hid hks
  have HKN:=Lib.hid hKn
  have HA:=Lib.hid hA
  have HCA:=Lib.hid hCA
  have HIH:=Lib.hid ih
  have HCL:=Lib.hid hcl
  have HFK:=Lib.hid (show Fs F.kids K A from hA)
  have hgw:=World.ownsRow.lt hat g rfl
  clear ho d1 d2 d3 d4 d5 hkd htg htx hsz hax hal hkc hks hKn hKK hA hC hkv c7W ih hcl hCA
  by_cases hpr:0≤pl x∧pl x<(vs.length:Int)
  ·skip
   obtain⟨z,hz⟩:∃z:Nat,pl x=(z:Int):=Int.eq_ofNat_of_zero_le hpr.1
   have hzl:z<vs.length:=by rw [hz]at hpr;omega
   have hvs1:(if 0≤pl x∧pl x<(vs.length:Int)then vs.set (pl x).toNat (N:Int)else vs)=vs.set z (N:Int):=by rw [if_pos hpr,hz];rfl
   rw [hz]at c0
   have hzI:(z:Int)<(vs.length:Int):=by omega
   have hzd:decide ((z:Int)<(vs.length:Int))=true:=by simpa using hzl
   have hz0d:decide ((0:Int)≤(z:Int))=true:=by simp
   have hfz:w.frozen? ⟨g,z,none⟩=false:=own_free hat z
   have cz:=own_cell hat (i:=z) (by simpa using hzl)
   obtain⟨u0,hu0⟩:∃u,(vs.map fun i=>Value.int .i64 i)[z]'(by simpa using hzl)=u:=⟨_,rfl⟩
   rw [hu0]at cz
   obtain⟨w1,hw1⟩:∃w1,w.setCell ⟨g,z,none⟩ (.int .i64 (N:Int))=w1:=⟨_,rfl⟩
   obtain⟨us,hus⟩:∃us,vs.set z (N:Int)=us:=⟨_,rfl⟩
   rw [hus]at hvs1
   have hul:us.length=vs.length:=by rw [←hus,List.length_set]
   have hat1:w1.ownsRow W.heap.size 3 1 (.slice (some ⟨g,0,none⟩) vs.length acap) vs.length (us.map fun i=>Value.int .i64 i):=by
    rw [←hw1,←hus,List.map_set]
    exact ownsRow_set hat (by omega) _
   have hv1:w1.ownsRow W.heap.size 38 5 (.slice sl N scap) N cells:=by
    rw [←hw1]
    exact ownsRow_kept hv (fun k hk=>heap_setCell_other w ⟨g,z,none⟩ k _ (fun e=>hsep (by rw [hk];exact congrArg some e)))
   have hbw1:Below W.heap.size W w1:=by rw [←hw1];exact Below.setCell (p:=⟨g,z,none⟩) hbel hgw.1 _
   have hgw1:g<w1.heap.size:=by rw [←hw1];simpa using hgw.2
   have HVS:=Lib.hid hvs1
   have HUS:=Lib.hid hus
   have HUL:=Lib.hid hul
   have HAT1:=Lib.hid hat1
   have HV1:=Lib.hid hv1
   have HB1:=Lib.hid hbw1
   have hsepA:=hsep
   have e1:=cell_below hbw1 HD.out.1
   have e2:=cell_below hbw1 HD.out.2.1
   have e3:=cell_below hbw1 HD.out.2.2.1
   have e4:=cell_below hbw1 HD.out.2.2.2.1
   have e5:=cell_below hbw1 HD.out.2.2.2.2
   have hbw1s:=hbw1.size
   have hownW:((w1.alloc (.cells #[.int .i64 kd_,.string tg,.string tx,.slice aa al ac,.int .i64 sz_] 38)).alloc (.cells #[.int .i64 kd_,.string tg,.string tx,.slice aa al ac,.int .i64 sz_] 38)).ownsRow W.heap.size 38 5 (.slice sl N scap) N cells:=World.ownsRow.alloc (World.ownsRow.alloc hv1 _) _
   have hnews:∀j u,[Value.int .i64 kd_,.string tg,.string tx,.slice aa al ac,.int .i64 sz_][j]? =some u→((w1.alloc (.cells #[.int .i64 kd_,.string tg,.string tx,.slice aa al ac,.int .i64 sz_] 38)).alloc (.cells #[.int .i64 kd_,.string tg,.string tx,.slice aa al ac,.int .i64 sz_] 38)).cell? ((⟨w1.heap.size+1,0,none⟩:Addr).add j)=some u:=
    World.news_of_block (cs:= #[.int .i64 kd_,.string tg,.string tx,.slice aa al ac,.int .i64 sz_]) (t:=38) (fr:=(0,0)) (by have :=heap_alloc_new (w1.alloc (.cells #[.int .i64 kd_,.string tg,.string tx,.slice aa al ac,.int .i64 sz_] 38)) (.cells #[.int .i64 kd_,.string tg,.string tx,.slice aa al ac,.int .i64 sz_] 38);rw [World.size_alloc]at this;exact this)
   have HW:=Lib.hid hownW
   have HNEWS:=Lib.hid hnews
   clear hvs1 hus hul hat1 hv1 hbw1 hownW hnews hv hat hbel
   go_enter Tryz.func28,Tryz.ntmps28
   go_wp2_with (at_builtin;refine wpList_append_lies _ rfl _ _ 22 rfl W.heap.size 38 i0 (.agg #[.int .i64 0,.string ByteArray.empty,.string ByteArray.empty,.slice none 0 0,.int .i64 0]) 5 72 Tryz.underlying22 hi hz0 hz1 hz2 rfl (by decide) (.slice sl N scap) N cells rfl HW.out ⟨w1.heap.size+1,0,none⟩ 1 1 [.int .i64 kd_,.string tg,.string tx,.slice aa al ac,.int .i64 sz_] rfl rfl HNEWS.out (by simp [Value.oneCell']) (by omega) (by unfold maxLen;omega) (by omega) (by simp;omega) _ rfl ?_)
   intro g2 cap2 w4 hown2 hgrow hat2 hlt2
   have hgs:some g≠(Value.slice sl N scap).ownBlock:=fun e=>hsepA e.symm
   have hat4:w4.ownsRow W.heap.size 3 1 (.slice (some ⟨g,0,none⟩) vs.length acap) vs.length (us.map fun i=>Value.int .i64 i):=ownsRow_kept (World.ownsRow.alloc (World.ownsRow.alloc HAT1.out _) _) (fun k hk=>by
    simp [Value.ownBlock]at hk
    subst hk
    exact hgrow.block g (by simp;omega) hgs)
   have hsep2:(Value.slice (some ⟨g2,0,none⟩) (N+1) cap2).ownBlock≠some g:=by
    intro e
    simp [Value.ownBlock]at e
    rcases hat2 with h | h
    ·exact hsepA (by rw [h,e])
    ·(try simp at h);omega
   have hb4:Below W.heap.size W w4:=((HB1.out.alloc HB1.out.size _).alloc (by simp;omega) _).grown hgrow (by simp;omega) (fun q hq=>(World.ownsRow.lt HW.out q hq).1)
   have H4:=Lib.hid (And.intro hown2 (And.intro hat4 (And.intro hsep2 hb4)))
   clear hown2 hgrow hat2 hlt2 hat4 hsep2 hb4 hgs HW HNEWS HAT1 HB1
   go_wp2
   go_loopw [1,9] (fun vo iv wr=>∃(k:Nat) (D:List (Nat×Nat)),k≤K.length∧iv=.int .i64 (k:Int)∧Hid (Fs F.kids (K.take k) D)∧D.length≤A.length∧Hid (wr.ownsRow W.heap.size 38 5 vo (N+1+D.length) (cells++(nodeCells (lab x) (av x) sz_++outCells lab av D)))∧Hid (wr.ownsRow W.heap.size 3 1 (.slice (some ⟨g,0,none⟩) vs.length acap) vs.length ((atSet pl us (N+1) D).map fun i=>Value.int .i64 i))∧Hid (vo.ownBlock≠some g)∧Hid (Below W.heap.size W wr)) (fun _ i _=>K.length-(intOf i).toNat)
   case atStart=>exact⟨0,[],by omega,by go_num,Lib.hid .nil,by simp,Lib.hid (by have :=H4.out.1;have h5:=HLAB.out;simp only [nodeCells,outCells,h5.1,h5.2.1,h5.2.2.1,h5.2.2.2,List.flatMap_nil,List.append_nil,List.length_nil,Nat.add_zero];exact this),Lib.hid H4.out.2.1,Lib.hid H4.out.2.2.1,Lib.hid H4.out.2.2.2⟩
   case round=>
    obtain⟨k,D,hk,rfl,HD2,hDl,HO,HAT,HSEP,HBEL⟩:=hrel
    clear e1 e2 e3 e4 e5
    have c7:=cell_below HBEL.out HC7.out
    obtain⟨so,sc,rfl⟩:=ownsRow_slice HO.out
    by_cases hlt:k<K.length
    ·obtain rfl:=HKS.out (by omega)
     have ck:=cell_below HBEL.out (HKC.out k hlt)
     have htk:=take_snoc hlt
     have hyn:=HKN.out _ (getD_mem' (d:=0) hlt)
     obtain⟨y,hy⟩:∃y,K.getD k 0=y:=⟨_,rfl⟩
     rw [hy]at ck htk hyn
     have hkI:(k:Int)<(K.length:Int):=by omega
     obtain⟨D1,D2,hDD,hf1,hf2⟩:∃D1 D2,A=D1++D2∧Fs F.kids (K.take k++[y]) D1∧Fs F.kids (K.drop (k+1)) D2:=by
      have :=HFK.out
      rw [←List.take_append_drop (k+1) K,htk]at this
      exact this.split
     obtain⟨E1,E2,hE,hg1,hg2⟩:=hf1.split
     obtain rfl:E1=D:=hg1.det HD2.out
     subst hE
     have hAlen:A.length=E1.length+E2.length+D2.length:=by rw [hDD];simp;omega
     have hcall:=HIH.out y E2 (.slice so (N+1+E1.length) sc) (N+1+E1.length) _ (atSet pl us (N+1) E1) wr hyn hg2 (by omega) (by omega) HO.out (by rw [atSet_length,HUL.out];exact HAT.out) HSEP.out HBEL.out (by rw [atSet_length,HUL.out];exact hvl) (by rw [atSet_length,HUL.out];exact HPL.out)
     rw [atSet_length,HUL.out]at hcall
     have HC:=Lib.hid hcall
     have HTK:=Lib.hid (And.intro htk (And.intro hg1 hg2))
     have HAL:=Lib.hid hAlen
     clear hcall htk hf1 hf2 hg1 hg2 hDD hy hyn hAlen
     go_wp2_with fail
     refine HC.out.mono ?_
     rintro e w5 ⟨v5,rfl,ho5,hat5,hs5,hb5⟩
     rw [atSet_length,HUL.out]at hat5
     have HO5:=Lib.hid (show w5.ownsRow W.heap.size 38 5 v5 (N+1+(E1++E2).length) (cells++(nodeCells (lab x) (av x) sz_++outCells lab av (E1++E2))) by
      have :=ho5.out
      rw [outCells_append,List.length_append,←Nat.add_assoc]
      simpa only [List.append_assoc]using this)
     have HA5:=Lib.hid (show w5.ownsRow W.heap.size 3 1 (.slice (some ⟨g,0,none⟩) vs.length acap) vs.length ((atSet pl us (N+1) (E1++E2)).map fun i=>Value.int .i64 i) by
      rw [atSet_append]
      exact hat5.out)
     have HS5:=Lib.hid hs5
     clear ho5 hat5 hs5 HC
     go_wp2
     go_roundw
     case rel=>exact⟨k+1,E1++E2,by omega,by go_num,Lib.hid (by rw [HTK.out.1];exact HTK.out.2.1.append HTK.out.2.2),by have :=HAL.out;simp;omega,HO5,HA5,HS5,hb5⟩
     case measure=>simp [intOf];omega
    ·obtain rfl:k=K.length:=by omega
     have hDA:D=A:=by
      have :=HD2.out
      rw [List.take_length]at this
      exact this.det HFK.out
     subst hDA
     have ho6:=HO.out
     obtain⟨go_,hso⟩:∃go_,so=some ⟨go_,0,none⟩:=by
      rcases ho6.2 with ⟨h1,h2⟩ | ⟨g0,c0_,cur,hv_,_⟩
      ·omega
      ·simp at hv_;exact⟨g0,hv_.1⟩
     subst hso
     have hclen:=HCL.out
     have hv9:(N:Int)+1+(D.length:Int)-(N:Int)=(D.length:Int)+1:=by omega
     have hset:=ownsRow_set ho6 (i:=N*5+4) (by omega) (.int .i64 ((N:Int)+1+(D.length:Int)-(N:Int)))
     rw [set_last hclen,show nodeCells (lab x) (av x) ((N:Int)+1+(D.length:Int)-(N:Int))=nodeCells (lab x) (av x) ((D.length:Int)+1) by rw [hv9]]at hset
     have hfr:=own_free ho6 (N*5+4)
     have hgo:=World.ownsRow.lt ho6 go_ rfl
     have hcs:=own_cell ho6 (i:=N*5+4) (by rw [ho6.1];omega)
     obtain⟨u9,hu9⟩:∃u,(cells++(nodeCells (lab x) (av x) sz_++outCells lab av D))[N*5+4]'(by rw [ho6.1];omega)=u:=⟨_,rfl⟩
     rw [hu9]at hcs
     have hgg:go_≠g:=fun e=>HSEP.out (by rw [e];rfl)
     have hatF:(wr.setCell ⟨go_,N*5+4,none⟩ (.int .i64 ((N:Int)+1+(D.length:Int)-(N:Int)))).ownsRow W.heap.size 3 1 (.slice (some ⟨g,0,none⟩) vs.length acap) vs.length ((atSet pl us (N+1) D).map fun i=>Value.int .i64 i):=ownsRow_kept HAT.out (fun k hk=>heap_setCell_other wr ⟨go_,N*5+4,none⟩ k _ (fun e=>by simp only [Value.ownBlock,Option.some.injEq]at hk;exact hgg ((Eq.symm e).trans hk.symm)))
     have hbF:Below W.heap.size W (wr.setCell ⟨go_,N*5+4,none⟩ (.int .i64 ((N:Int)+1+(D.length:Int)-(N:Int)))):=Below.setCell (p:=⟨go_,N*5+4,none⟩) HBEL.out hgo.1 _
     have HF9:=Lib.hid (And.intro hset (And.intro hatF hbF))
     have hNI:(N:Int)<(N:Int)+1+(D.length:Int):=by omega
     clear hset hatF hbF ho6 hu9 hclen hgo hv9
     go_wp2
     go_ret
     refine⟨_,rfl,Lib.hid ?_,Lib.hid ?_,HSEP.out,Lib.hid ?_⟩
     ·have h1:=HF9.out.1
      rw [HCA.out]
      have e2:outCells lab av ((x,D.length+1)::D)=nodeCells (lab x) (av x) ((D.length:Int)+1)++outCells lab av D:=rfl
      rw [e2,show N+((x,D.length+1)::D).length=N+1+D.length by simp;omega]
      exact h1
     ·have h1:=HF9.out.2.1
      rw [HCA.out]
      have e2:atSet pl vs N ((x,D.length+1)::D)=atSet pl us (N+1) D:=by simp only [atSet];rw [HVS.out]
      rw [e2]
      exact h1
     ·exact HF9.out.2.2
  ·skip
   obtain⟨q,hq⟩:∃q,pl x=q:=⟨_,rfl⟩
   have hvs0:(if 0≤pl x∧pl x<(vs.length:Int)then vs.set (pl x).toNat (N:Int)else vs)=vs:=by rw [if_neg hpr]
   rw [hq]at c0 hpr hplx
   have hq0:¬0≤q:=fun h=>hpr ⟨h,hplx⟩
   have hq0d:decide (0≤q)=false:=by simpa using hq0
   clear hpr
   obtain⟨w1,hw1⟩:∃w1,w=w1:=⟨_,rfl⟩
   obtain⟨us,hus⟩:∃us,vs=us:=⟨_,rfl⟩
   have hvs1:=hvs0.trans hus
   clear hvs0
   have hul:us.length=vs.length:=by rw [hus]
   have hat1:w1.ownsRow W.heap.size 3 1 (.slice (some ⟨g,0,none⟩) vs.length acap) vs.length (us.map fun i=>Value.int .i64 i):=by rw [←hw1,←hus];exact hat
   have hv1:w1.ownsRow W.heap.size 38 5 (.slice sl N scap) N cells:=by rw [←hw1];exact hv
   have hbw1:Below W.heap.size W w1:=by rw [←hw1];exact hbel
   have hgw1:g<w1.heap.size:=by rw [←hw1];exact hgw.2
   have HVS:=Lib.hid hvs1
   have HUS:=Lib.hid hus
   have HUL:=Lib.hid hul
   have HAT1:=Lib.hid hat1
   have HV1:=Lib.hid hv1
   have HB1:=Lib.hid hbw1
   have hsepA:=hsep
   have e1:=cell_below hbw1 HD.out.1
   have e2:=cell_below hbw1 HD.out.2.1
   have e3:=cell_below hbw1 HD.out.2.2.1
   have e4:=cell_below hbw1 HD.out.2.2.2.1
   have e5:=cell_below hbw1 HD.out.2.2.2.2
   have hbw1s:=hbw1.size
   have hownW:((w1.alloc (.cells #[.int .i64 kd_,.string tg,.string tx,.slice aa al ac,.int .i64 sz_] 38)).alloc (.cells #[.int .i64 kd_,.string tg,.string tx,.slice aa al ac,.int .i64 sz_] 38)).ownsRow W.heap.size 38 5 (.slice sl N scap) N cells:=World.ownsRow.alloc (World.ownsRow.alloc hv1 _) _
   have hnews:∀j u,[Value.int .i64 kd_,.string tg,.string tx,.slice aa al ac,.int .i64 sz_][j]? =some u→((w1.alloc (.cells #[.int .i64 kd_,.string tg,.string tx,.slice aa al ac,.int .i64 sz_] 38)).alloc (.cells #[.int .i64 kd_,.string tg,.string tx,.slice aa al ac,.int .i64 sz_] 38)).cell? ((⟨w1.heap.size+1,0,none⟩:Addr).add j)=some u:=
    World.news_of_block (cs:= #[.int .i64 kd_,.string tg,.string tx,.slice aa al ac,.int .i64 sz_]) (t:=38) (fr:=(0,0)) (by have :=heap_alloc_new (w1.alloc (.cells #[.int .i64 kd_,.string tg,.string tx,.slice aa al ac,.int .i64 sz_] 38)) (.cells #[.int .i64 kd_,.string tg,.string tx,.slice aa al ac,.int .i64 sz_] 38);rw [World.size_alloc]at this;exact this)
   have HW:=Lib.hid hownW
   have HNEWS:=Lib.hid hnews
   subst hw1
   clear hvs1 hus hul hat1 hv1 hbw1 hownW hnews hv hat hbel
   go_enter Tryz.func28,Tryz.ntmps28
   go_wp2_with (at_builtin;refine wpList_append_lies _ rfl _ _ 22 rfl W.heap.size 38 i0 (.agg #[.int .i64 0,.string ByteArray.empty,.string ByteArray.empty,.slice none 0 0,.int .i64 0]) 5 72 Tryz.underlying22 hi hz0 hz1 hz2 rfl (by decide) (.slice sl N scap) N cells rfl HW.out ⟨w.heap.size+1,0,none⟩ 1 1 [.int .i64 kd_,.string tg,.string tx,.slice aa al ac,.int .i64 sz_] rfl rfl HNEWS.out (by simp [Value.oneCell']) (by omega) (by unfold maxLen;omega) (by omega) (by simp;omega) _ rfl ?_)
   intro g2 cap2 w4 hown2 hgrow hat2 hlt2
   have hgs:some g≠(Value.slice sl N scap).ownBlock:=fun e=>hsepA e.symm
   have hat4:w4.ownsRow W.heap.size 3 1 (.slice (some ⟨g,0,none⟩) vs.length acap) vs.length (us.map fun i=>Value.int .i64 i):=ownsRow_kept (World.ownsRow.alloc (World.ownsRow.alloc HAT1.out _) _) (fun k hk=>by
    simp [Value.ownBlock]at hk
    subst hk
    exact hgrow.block g (by simp;omega) hgs)
   have hsep2:(Value.slice (some ⟨g2,0,none⟩) (N+1) cap2).ownBlock≠some g:=by
    intro e
    simp [Value.ownBlock]at e
    rcases hat2 with h | h
    ·exact hsepA (by rw [h,e])
    ·(try simp at h);omega
   have hb4:Below W.heap.size W w4:=((HB1.out.alloc HB1.out.size _).alloc (by simp;omega) _).grown hgrow (by simp;omega) (fun q hq=>(World.ownsRow.lt HW.out q hq).1)
   have H4:=Lib.hid (And.intro hown2 (And.intro hat4 (And.intro hsep2 hb4)))
   clear hown2 hgrow hat2 hlt2 hat4 hsep2 hb4 hgs HW HNEWS HAT1 HB1
   go_wp2
   go_loopw [1,9] (fun vo iv wr=>∃(k:Nat) (D:List (Nat×Nat)),k≤K.length∧iv=.int .i64 (k:Int)∧Hid (Fs F.kids (K.take k) D)∧D.length≤A.length∧Hid (wr.ownsRow W.heap.size 38 5 vo (N+1+D.length) (cells++(nodeCells (lab x) (av x) sz_++outCells lab av D)))∧Hid (wr.ownsRow W.heap.size 3 1 (.slice (some ⟨g,0,none⟩) vs.length acap) vs.length ((atSet pl us (N+1) D).map fun i=>Value.int .i64 i))∧Hid (vo.ownBlock≠some g)∧Hid (Below W.heap.size W wr)) (fun _ i _=>K.length-(intOf i).toNat)
   case atStart=>exact⟨0,[],by omega,by go_num,Lib.hid .nil,by simp,Lib.hid (by have :=H4.out.1;have h5:=HLAB.out;simp only [nodeCells,outCells,h5.1,h5.2.1,h5.2.2.1,h5.2.2.2,List.flatMap_nil,List.append_nil,List.length_nil,Nat.add_zero];exact this),Lib.hid H4.out.2.1,Lib.hid H4.out.2.2.1,Lib.hid H4.out.2.2.2⟩
   case round=>
    obtain⟨k,D,hk,rfl,HD2,hDl,HO,HAT,HSEP,HBEL⟩:=hrel
    clear e1 e2 e3 e4 e5
    have c7:=cell_below HBEL.out HC7.out
    obtain⟨so,sc,rfl⟩:=ownsRow_slice HO.out
    by_cases hlt:k<K.length
    ·obtain rfl:=HKS.out (by omega)
     have ck:=cell_below HBEL.out (HKC.out k hlt)
     have htk:=take_snoc hlt
     have hyn:=HKN.out _ (getD_mem' (d:=0) hlt)
     obtain⟨y,hy⟩:∃y,K.getD k 0=y:=⟨_,rfl⟩
     rw [hy]at ck htk hyn
     have hkI:(k:Int)<(K.length:Int):=by omega
     obtain⟨D1,D2,hDD,hf1,hf2⟩:∃D1 D2,A=D1++D2∧Fs F.kids (K.take k++[y]) D1∧Fs F.kids (K.drop (k+1)) D2:=by
      have :=HFK.out
      rw [←List.take_append_drop (k+1) K,htk]at this
      exact this.split
     obtain⟨E1,E2,hE,hg1,hg2⟩:=hf1.split
     obtain rfl:E1=D:=hg1.det HD2.out
     subst hE
     have hAlen:A.length=E1.length+E2.length+D2.length:=by rw [hDD];simp;omega
     have hcall:=HIH.out y E2 (.slice so (N+1+E1.length) sc) (N+1+E1.length) _ (atSet pl us (N+1) E1) wr hyn hg2 (by omega) (by omega) HO.out (by rw [atSet_length,HUL.out];exact HAT.out) HSEP.out HBEL.out (by rw [atSet_length,HUL.out];exact hvl) (by rw [atSet_length,HUL.out];exact HPL.out)
     rw [atSet_length,HUL.out]at hcall
     have HC:=Lib.hid hcall
     have HTK:=Lib.hid (And.intro htk (And.intro hg1 hg2))
     have HAL:=Lib.hid hAlen
     clear hcall htk hf1 hf2 hg1 hg2 hDD hy hyn hAlen
     go_wp2_with fail
     refine HC.out.mono ?_
     rintro e w5 ⟨v5,rfl,ho5,hat5,hs5,hb5⟩
     rw [atSet_length,HUL.out]at hat5
     have HO5:=Lib.hid (show w5.ownsRow W.heap.size 38 5 v5 (N+1+(E1++E2).length) (cells++(nodeCells (lab x) (av x) sz_++outCells lab av (E1++E2))) by
      have :=ho5.out
      rw [outCells_append,List.length_append,←Nat.add_assoc]
      simpa only [List.append_assoc]using this)
     have HA5:=Lib.hid (show w5.ownsRow W.heap.size 3 1 (.slice (some ⟨g,0,none⟩) vs.length acap) vs.length ((atSet pl us (N+1) (E1++E2)).map fun i=>Value.int .i64 i) by
      rw [atSet_append]
      exact hat5.out)
     have HS5:=Lib.hid hs5
     clear ho5 hat5 hs5 HC
     go_wp2
     go_roundw
     case rel=>exact⟨k+1,E1++E2,by omega,by go_num,Lib.hid (by rw [HTK.out.1];exact HTK.out.2.1.append HTK.out.2.2),by have :=HAL.out;simp;omega,HO5,HA5,HS5,hb5⟩
     case measure=>simp [intOf];omega
    ·obtain rfl:k=K.length:=by omega
     have hDA:D=A:=by
      have :=HD2.out
      rw [List.take_length]at this
      exact this.det HFK.out
     subst hDA
     have ho6:=HO.out
     obtain⟨go_,hso⟩:∃go_,so=some ⟨go_,0,none⟩:=by
      rcases ho6.2 with ⟨h1,h2⟩ | ⟨g0,c0_,cur,hv_,_⟩
      ·omega
      ·simp at hv_;exact⟨g0,hv_.1⟩
     subst hso
     have hclen:=HCL.out
     have hv9:(N:Int)+1+(D.length:Int)-(N:Int)=(D.length:Int)+1:=by omega
     have hset:=ownsRow_set ho6 (i:=N*5+4) (by omega) (.int .i64 ((N:Int)+1+(D.length:Int)-(N:Int)))
     rw [set_last hclen,show nodeCells (lab x) (av x) ((N:Int)+1+(D.length:Int)-(N:Int))=nodeCells (lab x) (av x) ((D.length:Int)+1) by rw [hv9]]at hset
     have hfr:=own_free ho6 (N*5+4)
     have hgo:=World.ownsRow.lt ho6 go_ rfl
     have hcs:=own_cell ho6 (i:=N*5+4) (by rw [ho6.1];omega)
     obtain⟨u9,hu9⟩:∃u,(cells++(nodeCells (lab x) (av x) sz_++outCells lab av D))[N*5+4]'(by rw [ho6.1];omega)=u:=⟨_,rfl⟩
     rw [hu9]at hcs
     have hgg:go_≠g:=fun e=>HSEP.out (by rw [e];rfl)
     have hatF:(wr.setCell ⟨go_,N*5+4,none⟩ (.int .i64 ((N:Int)+1+(D.length:Int)-(N:Int)))).ownsRow W.heap.size 3 1 (.slice (some ⟨g,0,none⟩) vs.length acap) vs.length ((atSet pl us (N+1) D).map fun i=>Value.int .i64 i):=ownsRow_kept HAT.out (fun k hk=>heap_setCell_other wr ⟨go_,N*5+4,none⟩ k _ (fun e=>by simp only [Value.ownBlock,Option.some.injEq]at hk;exact hgg ((Eq.symm e).trans hk.symm)))
     have hbF:Below W.heap.size W (wr.setCell ⟨go_,N*5+4,none⟩ (.int .i64 ((N:Int)+1+(D.length:Int)-(N:Int)))):=Below.setCell (p:=⟨go_,N*5+4,none⟩) HBEL.out hgo.1 _
     have HF9:=Lib.hid (And.intro hset (And.intro hatF hbF))
     have hNI:(N:Int)<(N:Int)+1+(D.length:Int):=by omega
     clear hset hatF hbF ho6 hu9 hclen hgo hv9
     go_wp2
     go_ret
     refine⟨_,rfl,Lib.hid ?_,Lib.hid ?_,HSEP.out,Lib.hid ?_⟩
     ·have h1:=HF9.out.1
      rw [HCA.out]
      have e2:outCells lab av ((x,D.length+1)::D)=nodeCells (lab x) (av x) ((D.length:Int)+1)++outCells lab av D:=rfl
      rw [e2,show N+((x,D.length+1)::D).length=N+1+D.length by simp;omega]
      exact h1
     ·have h1:=HF9.out.2.1
      rw [HCA.out]
      have e2:atSet pl vs N ((x,D.length+1)::D)=atSet pl us (N+1) D:=by simp only [atSet];rw [HVS.out]
      rw [e2]
      exact h1
     ·exact HF9.out.2.2
end Go.Proofs.YtkdomegcacgpnaaGreat
