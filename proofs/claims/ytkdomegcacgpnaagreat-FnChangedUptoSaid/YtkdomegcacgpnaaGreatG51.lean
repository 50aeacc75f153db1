/- Parts of a proof: Bulk, ViewSteps. -/
import Derived.Test.YtkdomegcacgpnaaGreatG50
import Derived.Test.YtkdomegcacgpnaaGreatRows
import Derived.Test.YtkdomegcacgpnaaGreatG49
set_option linter.unusedVariables false
set_option linter.unusedSimpArgs false
namespace Go.Proofs.YtkdomegcacgpnaaGreat
open Go.RowKit Go.ChangeShapes Go.WideShapes
theorem bulk_strs{H:Type}:∀(L:List ByteArray),L.length≤Rows.uptoBulkAll (H:=H) (L.map fun s=>.lit (.string s.data.toList))∧∀s∈L,s.size≤Rows.uptoBulkAll (H:=H) (L.map fun s=>.lit (.string s.data.toList))
 | []=>⟨Nat.zero_le _,fun s hs=>by simp at hs⟩
 | x::L=>by
  obtain⟨h1,h2⟩:=bulk_strs (H:=H) L
  have e:Rows.uptoBulkAll (H:=H) ((x::L).map fun s=>.lit (.string s.data.toList))=(x.size+1)+Rows.uptoBulkAll (H:=H) (L.map fun s=>.lit (.string s.data.toList)):=by
   simp [Rows.uptoBulkAll,Rows.uptoBulk]
  rw [e]
  refine⟨by simp only [List.length_cons];omega,fun s hs=>?_⟩
  rcases List.mem_cons.1 hs with rfl | hs
  ·omega
  ·have :=h2 s hs;omega
theorem strs3_of{H:Type}{enc:TypeId×Value→H}{W:World}{a:Option Addr}{len cap:Nat}{d:DataW H}{p:List MemPlace}(h:DataW.Trod enc Tryz.prog W 0 (fun _=>true) true 24 (.slice a len cap) d p):
  ∃ss:List ByteArray,(Strs W a len ss∧(∀s∈ss,s.size≤maxLen)∧len≤cap∧cap≤maxLen)∧∀B,Rows.uptoBulk d≤B→ss.length≤B∧∀s∈ss,s.size≤B:=by
 obtain⟨fuel,hf⟩:=h
 rcases open_strings Tryz.underlying24 Tryz.underlying9 (by kernel_rfl) hf with ⟨hcs,hd⟩ | ⟨x,l,c,ss,hcs,_,hl,hm,hz,hd,hcell,hws⟩
 ·simp [Value.cells]at hcs
  obtain⟨rfl,rfl,rfl⟩:=hcs
  exact⟨[],⟨row_nil _,by simp,Nat.le_refl _,Nat.zero_le _⟩,fun B _=>⟨Nat.zero_le _,fun s hs=>by simp at hs⟩⟩
 ·simp [Value.cells]at hcs
  obtain⟨rfl,rfl,rfl⟩:=hcs
  have hz':ss.length=cap:=by simpa using hz
  refine⟨ss.take len,⟨row_of_cells _ (by simp;omega) (by omega) (fun i hi=>?_),fun s hs=>hws s (List.mem_of_mem_take hs),hl,hm⟩,fun B hB=>?_⟩
  ·rw [hcell i (by omega)]
   have hi':i<ss.length:=by omega
   simp [List.getD,hi,hi',List.getElem?_take]
  ·simp only [Prod.mk.injEq]at hd
   rw [hd.1]at hB
   simp only [Rows.uptoBulk]at hB
   obtain⟨h1,h2⟩:=bulk_strs (H:=H) (ss.take len)
   have hB':Rows.uptoBulkAll (H:=H) ((ss.take len).map fun s=>.lit (.string s.data.toList))+1≤B:=by
    unfold strs at hB
    omega
   exact⟨by omega,fun s hs=>by have :=h2 s hs;omega⟩
end Go.Proofs.YtkdomegcacgpnaaGreat
namespace Go.Proofs.YtkdomegcacgpnaaGreat
open Go.RowKit Go.ChangeShapes Go.WideShapes Go.Deep
section
variable {H:Type} {enc:TypeId×Value→H} {W:World}
theorem ints_in{fuel:Nat}{cs:List Value}{x:DataW H×List MemPlace}(h:DataW.trod enc Tryz.prog W 0 (fun _=>true) true fuel 23 cs=some x):
  ∃a n c zs,cs=[.slice a n c]∧Ints W a n zs∧n≤c∧c≤maxLen:=by
 rcases open_ints Tryz.underlying23 Tryz.underlying3 (by kernel_rfl) h with ⟨rfl,_⟩ | ⟨x,l,c,zs,rfl,_,hl,hm,hz,_,hcell,hws⟩
 ·exact⟨none,0,0,[],rfl,row_nil _,Nat.le_refl _,Nat.zero_le _⟩
 ·have hz':zs.length=c:=by simpa using hz
  refine⟨some x,l,c,zs.take l,rfl,row_of_cells _ (by simp;omega) (by omega) (fun i hi=>?_),hl,hm⟩
  rw [hcell i (by omega)]
  have hi':i<zs.length:=by omega
  simp [List.getD,hi,hi',List.getElem?_take,intZ]
theorem strs_in{fuel:Nat}{cs:List Value}{x:DataW H×List MemPlace}(h:DataW.trod enc Tryz.prog W 0 (fun _=>true) true fuel 24 cs=some x):
  ∃a n c ss,cs=[.slice a n c]∧Strs W a n ss∧n≤c∧c≤maxLen∧∀B,Rows.uptoBulk x.1≤B→ss.length≤B∧∀s∈ss,s.size≤B:=by
 have key:∃a n c,cs=[.slice a n c]:=by
  rcases open_strings Tryz.underlying24 Tryz.underlying9 (by kernel_rfl) h with ⟨rfl,_⟩ | ⟨x,l,c,ss,rfl,_⟩
  ·exact⟨_,_,_,rfl⟩
  ·exact⟨_,_,_,rfl⟩
 obtain⟨a,n,c,rfl⟩:=key
 obtain⟨ss,⟨h1,_,h2,h3⟩,h4⟩:=strs3_of (a:=a) (len:=n) (cap:=c) (d:=x.1) (p:=x.2) ⟨fuel,h⟩
 exact⟨a,n,c,ss,rfl,h1,h2,h3,h4⟩
theorem bulk_mem:∀{L:List (DataW H)} {d:DataW H},d∈L→Rows.uptoBulk d≤Rows.uptoBulkAll L
 | x::L,d,h=>by
  simp only [Rows.uptoBulkAll]
  rcases List.mem_cons.1 h with rfl | h
  ·omega
  ·have :=bulk_mem h;omega
structure StepView (W:World) (b o:Nat) (B:Nat) (x:StepD) (a1:Option Addr) (n1 c1:Nat) (a2:Option Addr) (n2 c2:Nat) (xa:Option Addr) (xc:Nat):Prop where
 on:Ints W a1 n1 x.on
 cap1:n1≤c1∧c1≤maxLen
 wi:Ints W a2 n2 x.wi
 cap2:n2≤c2∧c2≤maxLen
 ls:Strs W xa x.ls.length x.ls
 cap:x.ls.length≤xc
 few:x.ls.length≤B
 lsz:∀y∈x.ls,y.size≤B
 key:x.key.size≤B
 val:x.val.size≤B
 k0:W.cell? ⟨b,o,none⟩=some (.int .i64 x.op)
 k1:W.cell? ⟨b,o+1,none⟩=some (.slice a1 n1 c1)
 k2:W.cell? ⟨b,o+2,none⟩=some (.slice a2 n2 c2)
 k3:W.cell? ⟨b,o+3,none⟩=some (.string x.key)
 k4:W.cell? ⟨b,o+4,none⟩=some (.string x.val)
 k5:W.cell? ⟨b,o+5,none⟩=some (.slice xa x.ls.length xc)
set_option maxRecDepth 100000 in
theorem steps_of{a:Option Addr}{len cap:Nat}{d:DataW H}{p:List MemPlace}(h:DataW.Trod enc Tryz.prog W 0 (fun _=>true) true 32 (.slice a len cap) d p):
  len≤cap∧cap≤maxLen∧(0<len→∃b off,a=some ⟨b,off,none⟩∧∀B,Rows.uptoBulk d≤B→∀i,i<len→∃x a1 n1 c1 a2 n2 c2 xa xc,StepView W b (off+i*6) B x a1 n1 c1 a2 n2 c2 xa xc):=by
 obtain⟨fuel,hf⟩:=h
 rcases open_slice Tryz.underlying32 hf with ⟨he,_⟩ | ⟨x,l,c,m,n,D,Pl,he,_,hl,hm,hmm,hd,hx⟩
 ·simp [Value.cells]at he
  obtain⟨rfl,rfl,rfl⟩:=he
  exact⟨Nat.le_refl _,Nat.zero_le _,fun h=>absurd h (Nat.lt_irrefl 0)⟩
 ·simp [Value.cells]at he
  obtain⟨rfl,rfl,rfl⟩:=he
  have hmm':m=cap:=by simpa using hmm
  simp only [Prod.mk.injEq]at hd
  have hdd:=hd.1
  have hce:Program.cellsOf Tryz.prog 28=6:=by kernel_rfl
  have hspot0:∀i,i<m→x.spot=none:=fun i hi=>by
   obtain⟨cs',h1,h2⟩:=hx 0 (by omega)
   rw [hce]at h1
   obtain⟨_,hlen,hcell⟩:=World.cells?_some h1
   have h0:=hcell 0 (by omega)
   match cs',hlen with
   | [v0,v1,v2,v3,v4,v5],_=>
    simp at h0
    have :=World.cell?_spot h0
    simpa [Addr.add]using this
  refine⟨hl,hm,fun h0=>?_⟩
  have hsp:=hspot0 0 (by omega)
  obtain⟨b,off,spot⟩:=x
  simp only at hsp
  subst hsp
  refine⟨b,off,rfl,fun B hB i hi=>?_⟩
  have hBi:Rows.uptoBulk (D i)≤B:=by
   rw [hdd]at hB
   simp only [Rows.uptoBulk]at hB
   have :=bulk_mem (L:=(List.range len).map D) (d:=D i) (List.mem_map.2 ⟨i,List.mem_range.2 hi,rfl⟩)
   omega
  obtain⟨cs',h1,h2⟩:=hx i (by omega)
  rw [hce]at h1
  obtain⟨_,hlen,hcell⟩:=World.cells?_some h1
  obtain⟨xs,k,_,hagg,_,hxl,hf6⟩:=DataW.trod_struct Tryz.underlying28 h2
  simp only [Prod.mk.injEq]at hagg
  rw [hagg.1]at hBi
  simp only [Rows.uptoBulk]at hBi
  have ca:∀j,((⟨b,off,none⟩:Addr).add (i*6)).add j=⟨b,off+i*6+j,none⟩:=fun j=>by
   rw [Go.Deep.add_add]
   have hadd:∀j,(⟨b,off,none⟩:Addr).add j=⟨b,off+j,none⟩:=fun j=>by unfold Addr.add;split <;> simp_all
   rw [hadd,Nat.add_assoc]
  match xs,hxl,cs',hlen with
  | [y0,y1,y2,y3,y4,y5],_,[v0,v1,v2,v3,v4,v5],_=>
   have g0:=hf6 0 _ rfl
   have g1:=hf6 1 _ rfl
   have g2:=hf6 2 _ rfl
   have g3:=hf6 3 _ rfl
   have g4:=hf6 4 _ rfl
   have g5:=hf6 5 _ rfl
   have n1:Program.cellsOf Tryz.prog 3=1:=by kernel_rfl
   have n2:Program.cellsOf Tryz.prog 9=1:=by kernel_rfl
   have n3:Program.cellsOf Tryz.prog 23=1:=by kernel_rfl
   have n4:Program.cellsOf Tryz.prog 24=1:=by kernel_rfl
   simp only [n1,n2,n3,n4,List.drop,List.take,List.getElem?_cons_zero,List.getElem?_cons_succ]at g0 g1 g2 g3 g4 g5
   obtain⟨q0,e0,_,w0⟩:=DataW.trod_int Tryz.underlying3 g0
   obtain⟨aa1,al1,ac1,l1,e1,hat1,hc1⟩:=ints_in g1
   obtain⟨aa2,al2,ac2,l2,e2,hat2,hc2⟩:=ints_in g2
   obtain⟨s3,e3,d3,z3⟩:=DataW.trod_string Tryz.underlying9 g3
   obtain⟨s4,e4,d4,z4⟩:=DataW.trod_string Tryz.underlying9 g4
   obtain⟨aa5,al5,ac5,ss,e5,hat5,hc5,hm5,hb5⟩:=strs_in g5
   simp [n1,n2,n3,n4]at e0 e1 e2 e3 e4 e5
   subst e0 e1 e2 e3 e4 e5
   subst d3 d4
   simp [Rows.uptoBulkAll,Rows.uptoBulk]at hBi
   obtain⟨hb51,hb52⟩:=hb5 B (by omega)
   obtain rfl:al5=ss.length:=hat5.len.1.symm
   have c0:=hcell 0 (by omega)
   have c1:=hcell 1 (by omega)
   have c2:=hcell 2 (by omega)
   have c3:=hcell 3 (by omega)
   have c4:=hcell 4 (by omega)
   have c5:=hcell 5 (by omega)
   rw [ca]at c0 c1 c2 c3 c4 c5
   exact⟨⟨q0,l1,l2,s3,s4,ss⟩,aa1,al1,ac1,aa2,al2,ac2,aa5,ac5,hat1,hc1,hat2,hc2,hat5,hc5,hb51,hb52,by show s3.size≤B;omega,by show s4.size≤B;omega,c0,c1,c2,c3,c4,c5⟩
end
end Go.Proofs.YtkdomegcacgpnaaGreat
