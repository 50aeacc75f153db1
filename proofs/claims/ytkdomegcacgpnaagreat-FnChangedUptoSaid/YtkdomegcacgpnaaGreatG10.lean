/- Parts of a proof: GrownKAll. -/
import Derived.Test.YtkdomegcacgpnaaGreatG08
import Derived.Deep.AppendLies
import Derived.Test.YtkdomegcacgpnaaGreatG07
import Derived.Test.YtkdomegcacgpnaaGreatG05
import Derived.Test.YtkdomegcacgpnaaGreatG09
import Derived.StillTailTactics
set_option linter.unusedVariables false
set_option linter.unusedSimpArgs false
namespace Go.Proofs.YtkdomegcacgpnaaGreat
open Go.RowKit
theorem size_set9(w:World)(a:Addr)(v:Value):(w.setCell a v).heap.size=w.heap.size:=by simp [World.setCell]
theorem own_ne_own{w:World}{B1 B2:Nat}{e1 e2:TypeId}{s1 s2 n1 n2:Nat}{v1 v2:Value}{x1 x2:List Value}(h1:w.ownsRow B1 e1 s1 v1 n1 x1)(h2:w.ownsRow B2 e2 s2 v2 n2 x2)(hne:e1≠e2){b:Nat}(hb:v1.ownBlock=some b):v2.ownBlock≠some b:=by
 intro hb2
 obtain⟨c1,h3⟩:=ownsRow_type h1 hb
 obtain⟨c2,h4⟩:=ownsRow_type h2 hb2
 rw [h3]at h4
 simp only [Option.some.injEq,Obj.cells.injEq]at h4
 exact hne h4.2.1
theorem wp_append_kv{P:Program}{w:World}{o:Oper}{a:Act}{K:Act→World→Prop}{Q:Exit→Act→World→Prop}(s x:Operand)(t:TypeId)
  (ho:o.op=.call {callee:=.builtin .append,args:= #[s,x],argTypes:= #[t,t]})
  (base:Nat) (e:TypeId) (i:TypeInfo) (z:Value) (bytes:Nat) (ht:P.underlying t=some (.slice e)) (hi:P.info? e=some i) (hz:i.zero=some z)
  (hsize:i.size=2) (hby:i.bytes=bytes) (hzs:z.cells.size=2)
  (b:Option Addr) (n c:Nat) (xs:List Value) (hs:a.eval s=.slice b n c) (hown:w.ownsRow base e 2 (.slice b n c) n xs)
  (b':Option Addr) (m c':Nat) (l:KVs) (hx:a.eval x=.slice b' m c') (hrow:AttrsAt w b' m l)
  (h63:n+m≤maxLen) (hbytes:(n+m)*bytes≤140737488355328) (hbase:base≤w.heap.size)
  (h:∀b2 c2 w',w'.ownsRow base e 2 (.slice b2 (n+m) c2) (n+m) (xs++kvCells l)→w.grownBy w' (Value.slice b n c).ownBlock→K (a.put o.dst (.slice b2 (n+m) c2)) w'):o.wp P a w K Q:=by
 obtain⟨r1,r2,_,r3⟩:=hrow
 by_cases hm:m=0
 ·subst hm
  have hnil:l=[]:=List.eq_nil_of_length_eq_zero r1
  subst hnil
  have hnc:n≤c:=by
   rcases hown.2 with ⟨hv,_⟩ | ⟨g,cap,cur,hv,_,_,hn,_⟩
   ·simp at hv;omega
   ·simp at hv;omega
  refine wp_append_none2 s x t ho e i ht hi b b' n c c' hnc hs hx ?_
  exact h b c w (by simpa [kvCells]using hown) ⟨rfl,rfl,rfl,Nat.le_refl _,fun _ _ _=>rfl⟩
 ·obtain⟨bb,off,rfl,hc⟩:=r3 (by omega)
  have hlen:(kvCells l).length=m*2:=by
   have :∀l:KVs,(kvCells l).length=l.length*2:=fun l=>by induction l with
    | nil=>rfl
    | cons a r ih=>rw [show kvCells (a::r)=[Value.string a.1,.string a.2]++kvCells r from rfl,List.length_append,ih];simp;omega
   rw [this,r1]
  refine wp_append_lies w s x t ho base e i z 2 bytes ht hi hz hsize hby hzs (by omega) (.slice b n c) n xs hs hown ⟨bb,off,none⟩ m c' (kvCells l) hx hlen (fun j u hj=>?_) (fun u hu=>?_) (by omega) h63 hbytes hbase _ rfl (fun g cap w' h2 h3 _ _=>h (some ⟨g,0,none⟩) cap w' h2 h3)
  ·have hjl:j<(kvCells l).length:=(List.getElem?_eq_some_iff.1 hj).1
   have hadd:(⟨bb,off,none⟩:Addr).add j=⟨bb,off+j,none⟩:=by unfold Addr.add;split <;> simp_all
   rw [hadd]
   have hk:j/2<l.length:=by omega
   obtain⟨g1,g2⟩:=kvCells_get l (j/2) hk
   obtain⟨c1,c2⟩:=hc (j/2) (by omega)
   rcases Nat.mod_two_eq_zero_or_one j with h0 | h0
   ·have e1:j/2*2=j:=by omega
    rw [e1]at g1 c1
    rw [g1]at hj
    rw [c1,←hj]
   ·have e1:j/2*2+1=j:=by omega
    rw [e1]at g2
    rw [show off+j/2*2+1=off+j by omega]at c2
    rw [g2]at hj
    rw [c2,←hj]
  ·obtain⟨y,_,hy⟩:=List.mem_flatMap.1 hu
   simp at hy
   rcases hy with rfl | rfl <;> rfl
theorem wpList_append_kv{P:Program}{w:World}{ops:Array Oper}{rest:List Oper}{o:Oper}{a:Act}{Q:Exit→Act→World→Prop}(hgd:o.guard=none)(s x:Operand)(t:TypeId)
  (ho:o.op=.call {callee:=.builtin .append,args:= #[s,x],argTypes:= #[t,t]})
  (base:Nat) (e:TypeId) (i:TypeInfo) (z:Value) (bytes:Nat) (ht:P.underlying t=some (.slice e)) (hi:P.info? e=some i) (hz:i.zero=some z)
  (hsize:i.size=2) (hby:i.bytes=bytes) (hzs:z.cells.size=2)
  (b:Option Addr) (n c:Nat) (xs:List Value) (hs:a.eval s=.slice b n c) (hown:w.ownsRow base e 2 (.slice b n c) n xs)
  (b':Option Addr) (m c':Nat) (l:KVs) (hx:a.eval x=.slice b' m c') (hrow:AttrsAt w b' m l)
  (h63:n+m≤maxLen) (hbytes:(n+m)*bytes≤140737488355328) (hbase:base≤w.heap.size)
  (h:∀b2 c2 w',w'.ownsRow base e 2 (.slice b2 (n+m) c2) (n+m) (xs++kvCells l)→w.grownBy w' (Value.slice b n c).ownBlock→wpList P ops Q rest (a.put o.dst (.slice b2 (n+m) c2)) w'):wpList P ops Q (o::rest) a w:=
 wpList_plain hgd fun _ hK=>wp_append_kv s x t ho base e i z bytes ht hi hz hsize hby hzs b n c xs hs hown b' m c' l hx hrow h63 hbytes hbase fun b2 c2 w' h2 h3=>hK _ _ (h b2 c2 w' h2 h3)
theorem owns_empty2(w:World)(B:Nat)(hB:B≤w.heap.size)(e:TypeId):(w.alloc (.cells #[] e)).ownsRow B e 2 (.slice (some ⟨w.heap.size,0,none⟩) 0 0) 0 []:=
 ⟨rfl,.inr ⟨w.heap.size,0, #[],rfl,hB,heap_alloc_new w _,Nat.le_refl _,Nat.zero_le _,rfl,rfl⟩⟩
structure ForestK (B:Nat) (w:World) (f:Nat) (vf:Value) (len:Nat) (kn:Nat→Nat) (many:Int) (opn:Bool):Prop where
 obj:World.objAt w f #[vf,.int .i64 many,.bool opn] 68
 all:w.ownsRow B 69 1 vf len ((List.range len).map fun i=>ptrV (kn i))
 base:B≤f
structure GrowK (W w:World) (f k len:Nat) (vf:Value) (kn:Nat→Nat) (av:Nat→Value) (lab:Nat→NodeD):Prop where
 knots:Knots W.heap.size w k kn (fun _=>.slice none 0 0) av (fun i=>(i:Int)) lab ⟨fun _=>[],fun _=>none⟩
 fo:ForestK W.heap.size w f vf k kn len false
 bel:Below W.heap.size W w
theorem GrowK.step{W wr w3 w6:World}{f k len:Nat}{vf:Value}{kn:Nat→Nat}{av:Nat→Value}{lab:Nat→NodeD}(h:GrowK W wr f k len vf kn av lab){v0 v3 vf':Value}
  (hg3:((wr.alloc (.cells (knotCells (k:Int) (lab k) v0 none (.slice none 0 0)) 97)).alloc (.cells #[] 61)).grownBy w3 (some (wr.heap.size+1)))
  (ho3:w3.ownsRow W.heap.size 61 2 v3 (lab k).attrs.length (kvCells (lab k).attrs))
  (hg6:((w3.setCell ⟨wr.heap.size,4,none⟩ v3).alloc (.cells #[.pointer (some ⟨wr.heap.size,0,none⟩)] 69)).grownBy w6 vf.ownBlock)
  (ho6:w6.ownsRow W.heap.size 69 1 vf' (k+1) (((List.range k).map fun i=>ptrV (kn i))++[.pointer (some ⟨wr.heap.size,0,none⟩)])):
  GrowK W (w6.setCell ⟨f,0,none⟩ vf') f (k+1) len vf' (fun i=>if i=k then wr.heap.size else kn i) (fun i=>if i=k then v3 else av i) lab:=by
 have hs3:=hg3.size
 have hs6:=hg6.size
 simp only [World.size_alloc,size_set9]at hs3 hs6
 have hfo:=h.fo.obj
 have hfl:=hfo.lt
 have hvb:∀b,vf.ownBlock=some b→b<wr.heap.size:=fun b hb=>(World.ownsRow.lt h.fo.all b hb).2
 have hbs:=h.bel.size
 have n1:World.objAt ((wr.alloc (.cells (knotCells (k:Int) (lab k) v0 none (.slice none 0 0)) 97)).alloc (.cells #[] 61)) wr.heap.size (knotCells (k:Int) (lab k) v0 none (.slice none 0 0)) 97:=
  World.objAt.below (B:=wr.heap.size+1) (objAt_alloc_new wr _ _) ((Below.refl _ _).alloc (by simp) _) (by omega)
 have n3:World.objAt w3 wr.heap.size (knotCells (k:Int) (lab k) v0 none (.slice none 0 0)) 97:=by
  unfold World.objAt at n1 ⊢
  rw [hg3.block wr.heap.size (by simp;omega) (by simp)]
  exact n1
 have n4:=n3.set 4 v3
 have hold3:∀b,b<wr.heap.size→w3.heap[b]? =wr.heap[b]? :=fun b hb=>by
  rw [hg3.block b (by simp;omega) (by simp;omega),Below.heap_alloc _ _ b (by simp;omega),Below.heap_alloc _ _ b hb]
 have hold6:∀b,b<w3.heap.size→b≠wr.heap.size→vf.ownBlock≠some b→w6.heap[b]? =w3.heap[b]? :=fun b hb hk hv=>by
  rw [hg6.block b (by simp [size_set9];omega) (fun e=>hv e.symm),Below.heap_alloc _ _ b (by simpa [size_set9]using hb)]
  exact heap_setCell_other w3 ⟨wr.heap.size,4,none⟩ b v3 hk
 have hfv:vf.ownBlock≠some f:=objAt_ne_own hfo h.fo.all (by decide)
 have hf6:World.objAt w6 f #[vf,.int .i64 len,.bool false] 68:=by
  unfold World.objAt at hfo ⊢
  rw [hold6 f (by omega) (by omega) hfv,hold3 f hfl]
  exact hfo
 have hold:∀b,b<wr.heap.size→b≠f→vf.ownBlock≠some b→(w6.setCell ⟨f,0,none⟩ vf').heap[b]? =wr.heap[b]? :=fun b hb hf hv=>by
  rw [setCell_block hf6 0 vf' hf,hold6 b (by omega) (by omega) hv,hold3 b hb]
 have hk6:World.objAt w6 wr.heap.size ((knotCells (k:Int) (lab k) v0 none (.slice none 0 0)).setIfInBounds 4 v3) 97:=by
  have n5:World.objAt ((w3.setCell ⟨wr.heap.size,4,none⟩ v3).alloc (.cells #[.pointer (some ⟨wr.heap.size,0,none⟩)] 69)) wr.heap.size _ _:=n4.below ((Below.refl _ _).alloc (Nat.le_refl _) _) n4.lt
  unfold World.objAt at n5 ⊢
  rw [hg6.block wr.heap.size (by simp [size_set9];omega) (fun e=>by have :=hvb _ e.symm;omega)]
  exact n5
 have hkF:World.objAt (w6.setCell ⟨f,0,none⟩ vf') wr.heap.size (knotCells (k:Int) (lab k) v3 none (.slice none 0 0)) 97:=by
  unfold World.objAt at hk6 ⊢
  rw [setCell_block hf6 0 vf' (by omega)]
  exact hk6
 have haF:(w6.setCell ⟨f,0,none⟩ vf').ownsRow W.heap.size 61 2 v3 (lab k).attrs.length (kvCells (lab k).attrs):=by
  have hf3:World.objAt w3 f #[vf,.int .i64 len,.bool false] 68:=by
   unfold World.objAt at hfo ⊢
   rw [hold3 f hfl];exact hfo
  have hv3:w3.ownsRow W.heap.size 69 1 vf k ((List.range k).map fun i=>ptrV (kn i)):=ownsRow_kept h.fo.all (fun b hb=>hold3 b (hvb b hb))
  refine ownsRow_kept ho3 (fun b hb=>?_)
  have h1:=objAt_ne_own n3 ho3 (by decide)
  have h2:=objAt_ne_own hf3 ho3 (by decide)
  have h3:=own_ne_own ho3 hv3 (by decide) hb
  rw [setCell_block hf6 0 vf' (fun e=>h2 (by rw [hb,e]))]
  exact hold6 b (World.ownsRow.lt ho3 b hb).2 (fun e=>h1 (by rw [hb,e])) h3
 have hlt:∀i,i<k→kn i<wr.heap.size:=fun i hi=>(h.knots.node i hi).lt
 refine⟨⟨fun i hi=>?_,fun i hi=>World.ownsRow_nil _ _ _ _,fun i hi=>?_,fun i hi=>?_,fun i j hi hj he=>?_⟩,⟨?_,?_,h.fo.base⟩,?_⟩
 ·by_cases e:i=k
  ·subst e
   simp only [if_true]
   exact hkF
  ·simp only [if_neg e]
   have h1:=h.knots.node i (by omega)
   have h2:=h1
   unfold World.objAt at h1 ⊢
   rw [hold _ h2.lt (fun e2=>by
    unfold World.objAt at hfo
    rw [e2,hfo]at h1
    simp only [Option.some.injEq,Obj.cells.injEq]at h1
    exact absurd h1.2.1 (by decide)) (objAt_ne_own h2 h.fo.all (by decide))]
   exact h1
 ·by_cases e:i=k
  ·subst e
   simp only [if_true]
   exact haF
  ·simp only [if_neg e]
   have h1:=h.knots.attrs i (by omega)
   refine ownsRow_kept h1 (fun b hb=>hold b (World.ownsRow.lt h1 b hb).2 (fun e2=>objAt_ne_own hfo h1 (by decide) (by rw [hb,e2])) (own_ne_own h1 h.fo.all (by decide) hb))
 ·by_cases e:i=k
  ·subst e
   simp only [if_true]
   omega
  ·simp only [if_neg e]
   exact h.knots.base i (by omega)
 ·by_cases e1:i=k <;> by_cases e2:j=k
  ·omega
  ·simp only [if_pos e1,if_neg e2]at he
   have :=hlt j (by omega)
   omega
  ·simp only [if_neg e1,if_pos e2]at he
   have :=hlt i (by omega)
   omega
  ·simp only [if_neg e1,if_neg e2]at he
   exact h.knots.inj i j (by omega) (by omega) he
 ·exact hf6.set 0 vf'
 ·have e1:(((List.range k).map fun i=>ptrV (kn i))++[.pointer (some ⟨wr.heap.size,0,none⟩)])=(List.range (k+1)).map fun i=>ptrV (if i=k then wr.heap.size else kn i):=by
   rw [List.range_succ,List.map_append]
   congr 1
   ·refine List.map_congr_left (fun i hi=>?_)
    have :=List.mem_range.1 hi
    simp only [if_neg (show i≠k by omega)]
   ·simp [ptrV]
  rw [e1]at ho6
  exact ownsRow_kept ho6 (fun b hb=>setCell_block hf6 0 vf' (fun e=>objAt_ne_own hf6 ho6 (by decide) (by rw [hb,e])))
 ·refine Below.setCell (p:=⟨f,0,none⟩) ?_ h.fo.base _
  refine Below.grown ?_ hg6 (by simp [size_set9];omega) (fun q hq=>(World.ownsRow.lt h.fo.all q hq).1)
  refine Below.alloc (Below.setCell (p:=⟨wr.heap.size,4,none⟩) ?_ hbs _) (by simp [size_set9];omega) _
  exact((h.bel.alloc hbs _).alloc (by simp;omega) _).grown hg3 (by simp;omega) (fun q hq=>by simp at hq;omega)
end Go.Proofs.YtkdomegcacgpnaaGreat
namespace Go.Proofs.YtkdomegcacgpnaaGreat
open Go.RowKit
def GrownKPost(ts:List NodeD)(len:Nat)(W:World)(e:Ending)(w':World):Prop:=
 ∃f vf kn kv av,e=.returned (.pointer (some ⟨f,0,none⟩))∧Hid (Knots W.heap.size w' len kn kv av (fun i=>(i:Int)) (fun i=>ts.getD i default) (wd0 (sz ts) len))∧Hid (ForestK W.heap.size w' f vf len kn len false)∧Hid (Below W.heap.size W w')
def gw(z:Nat→Nat)(i:Nat)(P:List Nat):Wd:=
 ⟨fun q=>if q<i then kids z q else if q=i then P else [],fun y=>match par z y with | some q=>if q<i∨(q=i∧y∈P)then some q else none | none=>none⟩
theorem gw_zero(z:Nat→Nat)(y:Nat):(gw z 0 []).up y=none∧(gw z 0 []).kids y=[]:=by
 constructor
 ·unfold gw
  simp only
  split
  ·simp
  ·rfl
 ·unfold gw
  simp
theorem gw_next{z:Nat→Nat}{n i:Nat}(hz:Nest z n)(hi:i<n){y:Nat}(hy:y<n):(gw z (i+1) []).up y=(gw z i (kids z i)).up y∧(gw z (i+1) []).kids y=(gw z i (kids z i)).kids y:=by
 constructor
 ·unfold gw
  simp only
  cases hp:par z y with
  | none=>rfl
  | some q=>
   simp only
   by_cases e:q=i
   ·subst e
    have :=(wkids_mem hz hi hy).2 hp
    simp [this]
   ·have e2:q<i+1↔q<i:=by omega
    simp [e,e2]
 ·unfold gw
  simp only
  by_cases e:y=i
  ·subst e;simp
  ·have e2:y<i+1↔y<i:=by omega
   by_cases e3:y<i
   ·simp [e3,e2]
   ·simp [e,e3,e2]
theorem gw_end{z:Nat→Nat}{n:Nat}{y:Nat}(hy:y<n):(wd0 z n).up y=(gw z n []).up y∧(wd0 z n).kids y=(gw z n []).kids y:=by
 constructor
 ·simp only [wd0,if_pos hy,gw]
  cases hp:par z y with
  | none=>rfl
  | some q=>
   have :=(par_some hp).1
   simp only
   rw [if_pos (.inl (by omega))]
 ·simp only [wd0,if_pos hy,gw]
theorem gw_snoc{z:Nat→Nat}{i y:Nat}{P:List Nat}(hp:par z y=some i)(x:Nat):(gw z i (P++[y])).up x=(if x=y then some i else(gw z i P).up x)∧(gw z i (P++[y])).kids x=(if x=i then P++[y]else(gw z i P).kids x):=by
 constructor
 ·unfold gw
  simp only
  by_cases e:x=y
  ·subst e
   rw [hp]
   simp
  ·rw [if_neg e]
   cases hq:par z x with
   | none=>rfl
   | some q=>simp [e]
 ·unfold gw
  simp only
  by_cases e:x=i
  ·subst e;simp
  ·simp [e]
theorem ForestK.below{B:Nat}{w w':World}{f len:Nat}{vf:Value}{kn:Nat→Nat}{many:Int}{opn:Bool}(h:ForestK B w f vf len kn many opn)(hb:Below w.heap.size w w'):ForestK B w' f vf len kn many opn:=
 ⟨h.obj.below hb h.obj.lt,ownsRow_kept h.all (fun k hk=>hb.block k (World.ownsRow.lt h.all k hk).2),h.base⟩
theorem ForestK.turn{B:Nat}{w w':World}{f len n:Nat}{vf:Value}{kn kn':Nat→Nat}{many:Int}{opn:Bool}{kv av:Nat→Value}{pl:Nat→Int}{lab:Nat→NodeD}{F:Wd}(h:ForestK B w f vf len kn many opn)(hK:Knots B w n kn' kv av pl lab F)(ho:OnlyK n kn' w w'):ForestK B w' f vf len kn many opn:=by
 refine⟨?_,?_,h.base⟩
 ·have h1:=h.obj
  have h2:=h1.lt
  unfold World.objAt at h1 ⊢
  rw [ho.block f h2 (fun i hi e=>by
   have h3:=hK.node i hi
   unfold World.objAt at h3
   rw [←e,h1]at h3
   simp only [Option.some.injEq,Obj.cells.injEq]at h3
   exact absurd h3.2.1 (by decide))]
  exact h1
 ·exact ownsRow_kept h.all (fun k hk=>ho.block k (World.ownsRow.lt h.all k hk).2 (fun i hi e=>objAt_ne_own (hK.node i hi) h.all (by decide) (by rw [hk,e])))
theorem ForestK.open{B:Nat}{w:World}{f len:Nat}{vf:Value}{kn:Nat→Nat}{many:Int}{opn:Bool}(h:ForestK B w f vf len kn many opn)(h0:0<len):
  ∃g cap,vf=.slice (some ⟨g,0,none⟩) len cap∧len≤cap∧cap≤9223372036854775807∧w.cell? ⟨f,0,none⟩=some (.slice (some ⟨g,0,none⟩) len cap)∧w.cell? ⟨f,1,none⟩=some (.int .i64 many)∧w.cell? ⟨f,2,none⟩=some (.bool opn)∧∀i,i<len→w.cell? ⟨g,i,none⟩=some (.pointer (some ⟨kn i,0,none⟩)):=by
 rcases h.all.2 with ⟨_,h1⟩ | ⟨g,cap,cur,hv,hb,hg,hn,hm,hcs,ht⟩
 ·omega
 ·subst hv
  refine⟨g,cap,rfl,hn,hm,h.obj.cell rfl,h.obj.cell rfl,h.obj.cell rfl,fun i hi=>?_⟩
  have :=h.all.cells (g:=g) rfl i (ptrV (kn i)) (by simp [hi])
  rwa [show(⟨g,0,none⟩:Addr).add i=⟨g,i,none⟩ by unfold Addr.add;split <;> simp_all]at this
structure SepK (n:Nat) (kv:Nat→Value) (vf:Value):Prop where
 each:∀i j,i<n→j<n→i≠j→∀b,(kv i).ownBlock=some b→(kv j).ownBlock≠some b
 all:∀i,i<n→∀b,(kv i).ownBlock=some b→vf.ownBlock≠some b
theorem Knots.append7{B:Nat}{w w9:World}{n:Nat}{kn:Nat→Nat}{kv av:Nat→Value}{pl:Nat→Int}{lab:Nat→NodeD}{F:Wd}{vf:Value}(h:Knots B w n kn kv av pl lab F)(hs:SepK n kv vf){i:Nat}(hi:i<n){v9:Value}{l:List Nat}
  (hsz:w.heap.size≤w9.heap.size) (hblk:∀b,b<w.heap.size→some b≠(kv i).ownBlock→w9.heap[b]? =w.heap[b]?) (ho:w9.ownsRow B 69 1 v9 l.length (l.map fun y=>ptrV (kn y))) (hg:∀b,v9.ownBlock=some b→(kv i).ownBlock=some b∨w.heap.size≤b)
  (hvf:∀b,vf.ownBlock=some b→b<w.heap.size):
  Knots B (w9.setCell ⟨kn i,7,none⟩ v9) n kn (updV kv i v9) av pl lab ⟨fun q=>if q=i then l else F.kids q,F.up⟩∧SepK n (updV kv i v9) vf∧World.objAt w9 (kn i) (knotCells (pl i) (lab i) (av i) ((F.up i).map kn) (kv i)) 97:=by
 have hki:∀j,j<n→some (kn j)≠(kv i).ownBlock:=fun j hj e=>objAt_ne_own (h.node j hj) (h.row i hi) (by decide) e.symm
 have hnode:∀j,j<n→World.objAt w9 (kn j) (knotCells (pl j) (lab j) (av j) ((F.up j).map kn) (kv j)) 97:=fun j hj=>by
  have h1:=h.node j hj
  have h2:=h1.lt
  unfold World.objAt at h1 ⊢
  rw [hblk _ h2 (hki j hj)]
  exact h1
 have hop:=hnode i hi
 refine⟨⟨fun j hj=>?_,fun j hj=>?_,fun j hj=>?_,h.base,h.inj⟩,⟨fun j k hj hk hjk b hb=>?_,fun j hj b hb=>?_⟩,hop⟩
 ·unfold updV
  by_cases e:j=i
  ·subst e
   rw [if_pos rfl]
   exact hop.set 7 v9
  ·rw [if_neg e]
   have :=hnode j hj
   unfold World.objAt at this ⊢
   rw [setCell_block hop 7 v9 (fun he=>e (h.inj j i hj hi he))]
   exact this
 ·unfold updV
  by_cases e:j=i
  ·subst e
   simp only [if_true]
   exact ownsRow_kept ho (fun b hb=>setCell_block hop 7 v9 (fun e2=>objAt_ne_own hop ho (by decide) (by rw [hb,e2])))
  ·simp only [if_neg e]
   have h1:=h.row j hj
   refine ownsRow_kept h1 (fun b hb=>?_)
   have h2:=(World.ownsRow.lt h1 b hb).2
   rw [setCell_block hop 7 v9 (fun e2=>objAt_ne_own (h.node i hi) h1 (by decide) (by rw [hb,e2]))]
   exact hblk b h2 (fun e2=>hs.each j i hj hi e b hb e2.symm)
 ·have h1:=h.attrs j hj
  refine ownsRow_kept h1 (fun b hb=>?_)
  have h2:=(World.ownsRow.lt h1 b hb).2
  rw [setCell_block hop 7 v9 (fun e2=>objAt_ne_own (h.node i hi) h1 (by decide) (by rw [hb,e2]))]
  exact hblk b h2 (fun e2=>own_ne_own h1 (h.row i hi) (by decide) hb e2.symm)
 ·unfold updV at hb ⊢
  by_cases e1:j=i
  ·rw [if_pos e1]at hb
   rw [if_neg (fun e2=>hjk (by rw [e1,e2]))]
   rcases hg b hb with h1 | h1
   ·subst e1;exact hs.each j k hj hk hjk b h1
   ·intro h2
    have :=(World.ownsRow.lt (h.row k hk) b h2).2
    omega
  ·rw [if_neg e1]at hb
   by_cases e2:k=i
   ·rw [if_pos e2]
    intro h2
    rcases hg b h2 with h1 | h1
    ·subst e2;exact hs.each j k hj hk hjk b hb h1
    ·have :=(World.ownsRow.lt (h.row j hj) b hb).2
     omega
   ·rw [if_neg e2]
    exact hs.each j k hj hk hjk b hb
 ·unfold updV at hb
  by_cases e1:j=i
  ·rw [if_pos e1]at hb
   rcases hg b hb with h1 | h1
   ·subst e1;exact hs.all j hj b h1
   ·intro h2
    have :=hvf b h2
    omega
  ·rw [if_neg e1]at hb
   exact hs.all j hj b hb
theorem ForestK.row{B:Nat}{w:World}{f len:Nat}{vf:Value}{kn:Nat→Nat}{many:Int}{opn:Bool}(h:ForestK B w f vf len kn many opn){g cap:Nat}(hv:vf=.slice (some ⟨g,0,none⟩) len cap){i:Nat}(hi:i<len):w.cell? ⟨g,i,none⟩=some (.pointer (some ⟨kn i,0,none⟩)):=by
 subst hv
 have :=h.all.cells (g:=g) rfl i (ptrV (kn i)) (by simp [hi])
 rwa [show(⟨g,0,none⟩:Addr).add i=⟨g,i,none⟩ by unfold Addr.add;split <;> simp_all]at this
structure TailK (W wx w9:World) (n f:Nat) (kn:Nat→Nat) (kv av:Nat→Value) (pl:Nat→Int) (lab:Nat→NodeD) (F':Wd) (vf:Value) (many:Int) (i:Nat) (v9:Value):Prop where
 knots:Knots W.heap.size (w9.setCell ⟨kn i,7,none⟩ v9) n kn (updV kv i v9) av pl lab F'
 sep:SepK n (updV kv i v9) vf
 forest:ForestK W.heap.size (w9.setCell ⟨kn i,7,none⟩ v9) f vf n kn many false
 bel:Below W.heap.size W (w9.setCell ⟨kn i,7,none⟩ v9)
 bel9:Below W.heap.size W w9
 free:w9.frozen? ⟨kn i,7,none⟩=false
 cell7:∃z,w9.cell? ⟨kn i,7,none⟩=some z
 far:∀b,b<wx.heap.size→some b≠(kv i).ownBlock→w9.heap[b]? =wx.heap[b]?
 fne:some f≠(kv i).ownBlock∧f<wx.heap.size
 gne:∀b,vf.ownBlock=some b→some b≠(kv i).ownBlock∧b<wx.heap.size
 fk:f≠kn i
 gk:∀b,vf.ownBlock=some b→b≠kn i
 obj:∃cs t,World.objAt w9 (kn i) cs t
theorem TailK.cell0{W wx w9:World}{n f:Nat}{kn:Nat→Nat}{kv av:Nat→Value}{pl:Nat→Int}{lab:Nat→NodeD}{F':Wd}{vf:Value}{many:Int}{i:Nat}{v9:Value}(h:TailK W wx w9 n f kn kv av pl lab F' vf many i v9){v:Value}(hc:wx.cell? ⟨f,0,none⟩=some v):w9.cell? ⟨f,0,none⟩=some v:=
 (World.cell?_of_block (h.far f h.fne.2 h.fne.1)).trans hc
theorem TailK.cellg{W wx w9:World}{n f:Nat}{kn:Nat→Nat}{kv av:Nat→Value}{pl:Nat→Int}{lab:Nat→NodeD}{F':Wd}{vf:Value}{many:Int}{i:Nat}{v9:Value}(h:TailK W wx w9 n f kn kv av pl lab F' vf many i v9){g o:Nat}{v:Value}(hv:vf.ownBlock=some g)(hc:wx.cell? ⟨g,o,none⟩=some v):w9.cell? ⟨g,o,none⟩=some v:=
 (World.cell?_of_block (h.far g (h.gne g hv).2 (h.gne g hv).1)).trans hc
theorem TailK.setc{W wx w9:World}{n f:Nat}{kn:Nat→Nat}{kv av:Nat→Value}{pl:Nat→Int}{lab:Nat→NodeD}{F':Wd}{vf:Value}{many:Int}{i:Nat}{v9:Value}(h:TailK W wx w9 n f kn kv av pl lab F' vf many i v9)(u:Value){v:Value}(hc:w9.cell? ⟨f,0,none⟩=some v):(w9.setCell ⟨kn i,7,none⟩ u).cell? ⟨f,0,none⟩=some v:=by
 obtain⟨cs,t,ho⟩:=h.obj
 exact(World.cell?_of_block (setCell_block ho 7 u h.fk)).trans hc
theorem TailK.setc2{W wx w9:World}{n f:Nat}{kn:Nat→Nat}{kv av:Nat→Value}{pl:Nat→Int}{lab:Nat→NodeD}{F':Wd}{vf:Value}{many:Int}{i:Nat}{v9:Value}(h:TailK W wx w9 n f kn kv av pl lab F' vf many i v9){g o:Nat}(hv:vf.ownBlock=some g)(u:Value){v:Value}(hc:w9.cell? ⟨g,o,none⟩=some v):(w9.setCell ⟨kn i,7,none⟩ u).cell? ⟨g,o,none⟩=some v:=by
 obtain⟨cs,t,ho⟩:=h.obj
 exact(World.cell?_of_block (setCell_block ho 7 u (h.gk g hv))).trans hc
theorem tailK{W wx w9:World}{n f:Nat}{kn:Nat→Nat}{kv av:Nat→Value}{pl:Nat→Int}{lab:Nat→NodeD}{G:Wd}{vf:Value}{many:Int}{i c:Nat}{P:List Nat}{O:Obj}{sa:Option Addr}{sc g9 cap9 H:Nat}(hK:Knots W.heap.size wx n kn kv av pl lab G)(hs:SepK n kv vf)(hi:i<n)(hF:ForestK W.heap.size wx f vf n kn many false)(hB:Below W.heap.size W wx)
  (hkv:kv i=.slice sa P.length sc) (hgrow:((wx.alloc O).drew).grownBy w9 (Value.slice sa P.length sc).ownBlock) (hown:w9.ownsRow W.heap.size 69 1 (.slice (some ⟨g9,0,none⟩) (P.length+1) cap9) (P.length+1) ((P.map fun y=>ptrV (kn y))++[.pointer (some ⟨kn c,0,none⟩)])) (hat:(Value.slice sa P.length sc).ownBlock=some g9∨g9=H) (hH:wx.heap.size≤H):
  TailK W wx w9 n f kn kv av pl lab ⟨fun q=>if q=i then P++[c]else G.kids q,G.up⟩ vf many i (.slice (some ⟨g9,0,none⟩) (P.length+1) cap9):=by
 have hsz:wx.heap.size≤w9.heap.size:=by
  have :=hgrow.size
  have h2:((wx.alloc O).drew).heap.size=wx.heap.size+1:=World.size_alloc wx O
  omega
 have hfar:∀b,b<wx.heap.size→some b≠(kv i).ownBlock→w9.heap[b]? =wx.heap[b]? :=fun b hb hne=>by
  rw [hkv]at hne
  have h2:((wx.alloc O).drew).heap.size=wx.heap.size+1:=World.size_alloc wx O
  rw [hgrow.block b (by omega) hne]
  exact Below.heap_alloc wx O b hb
 have hvf:∀b,vf.ownBlock=some b→b<wx.heap.size:=fun b hb=>(World.ownsRow.lt hF.all b hb).2
 have hown2:w9.ownsRow W.heap.size 69 1 (.slice (some ⟨g9,0,none⟩) (P.length+1) cap9) (P++[c]).length ((P++[c]).map fun y=>ptrV (kn y)):=by
  simpa [ptrV]using hown
 obtain⟨h1,h2,h3⟩:=hK.append7 hs hi hsz hfar hown2 (fun b hb=>by
  simp only [Value.ownBlock,Option.some.injEq]at hb
  subst hb
  rcases hat with h | h
  ·exact .inl (by rw [hkv];exact h)
  ·exact .inr (by omega)) hvf
 have hbel9:Below W.heap.size W w9:=((hB.alloc hB.size O).drew).grown hgrow (by have :=hB.size;have h2:((wx.alloc O).drew).heap.size=wx.heap.size+1:=World.size_alloc wx O;omega) (fun q hq=>(World.ownsRow.lt (hK.row i hi) q (by rw [hkv];exact hq)).1)
 have hfo:=hF.obj
 have hfne:some f≠(kv i).ownBlock:=fun e=>objAt_ne_own hfo (hK.row i hi) (by decide) e.symm
 have hfk:f≠kn i:=fun e=>by
  have h4:=hK.node i hi
  have h5:=hfo
  unfold World.objAt at h4 h5
  rw [←e,h5]at h4
  simp only [Option.some.injEq,Obj.cells.injEq]at h4
  exact absurd h4.2.1 (by decide)
 have hgk:∀b,vf.ownBlock=some b→b≠kn i:=fun b hb e=>objAt_ne_own (hK.node i hi) hF.all (by decide) (by rw [hb,e])
 have hgne:∀b,vf.ownBlock=some b→some b≠(kv i).ownBlock∧b<wx.heap.size:=fun b hb=>⟨fun e=>hs.all i hi b e.symm hb,hvf b hb⟩
 refine⟨h1,h2,⟨?_,?_,hF.base⟩,Below.setCell (p:=⟨kn i,7,none⟩) hbel9 (hK.base i hi) _,hbel9,h3.free 7,⟨_,h3.cell (i:=7) (v:=kv i) rfl⟩,hfar,⟨hfne,hfo.lt⟩,hgne,hfk,hgk,⟨_,_,h3⟩⟩
 ·unfold World.objAt at hfo ⊢
  rw [setCell_block h3 7 _ hfk,hfar f (World.objAt.lt hF.obj) hfne]
  exact hfo
 ·exact ownsRow_kept hF.all (fun b hb=>by rw [setCell_block h3 7 _ (hgk b hb),hfar b (hvf b hb) (hgne b hb).1])
set_option maxRecDepth 100000 in
set_option maxHeartbeats 8000000 in
theorem grownK_any(W:World)(a:Option Addr)(len cap:Nat)(ts:List NodeD)(hR:RightT ts len)(hN:Nodes W a len ts):
  Calls Tryz.prog 26 #[.slice a len cap] W (GrownKPost ts len W):=by
 have hpos:=hR.pos
 have hlen:=hR.le
 obtain⟨b,off,rfl,hc⟩:=hN.at hpos
 obtain⟨i0,hi,hz0,hz1,hz2⟩:=info_parts Tryz.infoKV
 obtain⟨j0,hj,hy0,hy1,hy2⟩:=info_parts Tryz.infoKnotP
 have HC:=Lib.hid hc
 have HR:=Lib.hid hR
 have HN:=Lib.hid hN
 clear hc hR hN
 go_enter Tryz.func26,Tryz.ntmps26
 go_wp2
 go_loopw [4] (fun iv wr=>∃(k:Nat) (vf:Value) (kn:Nat→Nat) (av:Nat→Value),k≤len∧iv=.int .i64 (k:Int)∧Hid (GrowK W wr W.heap.size k len vf kn av (fun i=>ts.getD i default))) (fun i _=>len-(intOf i).toNat)
 case atStart=>
  refine⟨0,.slice none 0 0,fun _=>0,fun _=>.nilFunc,by omega,by go_num,Lib.hid ⟨⟨fun i hi=>by omega,fun i hi=>by omega,fun i hi=>by omega,fun i hi=>by omega,fun i j hi=>by omega⟩,⟨objAt_alloc_new W _ _,World.ownsRow_nil _ _ _ _,Nat.le_refl _⟩,(Below.refl _ _).alloc (Nat.le_refl _) _⟩⟩
 case round=>
  obtain⟨k,vf,kn,av,hk,rfl,HG⟩:=hrel
  by_cases hlt:k<len
  ·have hcN:=(HC.out k hlt)
   have hkI:(k:Int)<(len:Int):=by omega
   have hbel:=HG.out.bel
   have q0:=cell_below hbel hcN.kind
   have q1:=cell_below hbel hcN.tag
   have q2:=cell_below hbel hcN.text
   have q3:=cell_below hbel hcN.attrs
   have q4:=cell_below hbel hcN.size
   have hat:=hcN.at_.below hbel
   have hlab:(fun i=>ts.getD i default) k=ts.getD k default:=rfl
   obtain⟨n,hn⟩:∃n,ts.getD k default=n:=⟨_,rfl⟩
   rw [hn]at q0 q1 q2 q3 q4 hat hlab
   have HLAB:=Lib.hid hlab
   have hal:=(HR.out.node k hlt)
   have hal20:n.al≤20:=by
    rw [hn]at hal
    rw [←hat.1]
    by_cases h3:n.kind=3
    ·exact(hal.attrs h3).1
    ·rw [(hal.bare h3).2];simp
   obtain⟨kd_,tg,tx,aa,al,ac,l,z⟩:=n
   simp only at q0 q1 q2 q3 q4 hat hal20
   have hall:l.length=al:=hat.1
   obtain⟨va,vc,hvf⟩:=ownsRow_slice HG.out.fo.all
   subst hvf
   have e0:=HG.out.fo.obj.cell (i:=0) (v:=.slice va k vc) rfl
   have hfl:=HG.out.fo.obj.lt
   have hE:((wr.alloc (.cells #[.int .i64 (k:Int),.int .i64 kd_,.string tg,.string tx,.slice aa al ac,.int .i64 z,.pointer none,.slice none 0 0] 97)).alloc (.cells #[] 61)).ownsRow W.heap.size 61 2 (.slice (some ⟨wr.heap.size+1,0,none⟩) 0 0) 0 []:=by
    have :=owns_empty2 (wr.alloc (.cells #[.int .i64 (k:Int),.int .i64 kd_,.string tg,.string tx,.slice aa al ac,.int .i64 z,.pointer none,.slice none 0 0] 97)) W.heap.size (by simp;have :=hbel.size;omega) 61
    rwa [World.size_alloc]at this
   have hAT:AttrsAt ((wr.alloc (.cells #[.int .i64 (k:Int),.int .i64 kd_,.string tg,.string tx,.slice aa al ac,.int .i64 z,.pointer none,.slice none 0 0] 97)).alloc (.cells #[] 61)) aa al l:=hat.below (((Below.refl _ _).alloc (Nat.le_refl _) _).alloc (by simp) _)
   have q3b:=cell_alloc_old q3 (.cells #[.int .i64 (k:Int),.int .i64 kd_,.string tg,.string tx,.slice aa al ac,.int .i64 z,.pointer none,.slice none 0 0] 97)
   have q3a:=cell_alloc_old q3b (.cells #[] 61)
   have HE:=Lib.hid hE
   have HAT:=Lib.hid hAT
   have hbs:=hbel.size
   clear hcN hat hE hAT hn hal hbel
   go_wp2_with (at_builtin;refine wpList_append_kv rfl _ _ 36 rfl W.heap.size 61 i0 (.agg #[.string ByteArray.empty,.string ByteArray.empty]) 32 Tryz.underlying36 hi hz0 hz1 hz2 rfl (some ⟨wr.heap.size+1,0,none⟩) 0 0 [] rfl HE.out aa al ac l rfl HAT.out (by unfold maxLen;omega) (by omega) (by simp;omega) ?_)
   intro b2 c2 w3 hown3 hgrow3
   have hbs3:=hgrow3.size
   simp only [World.size_alloc]at hbs3
   have hK3:World.objAt w3 wr.heap.size (knotCells (k:Int) ⟨kd_,tg,tx,aa,al,ac,l,z⟩ (.slice aa al ac) none (.slice none 0 0)) 97:=by
    have n1:World.objAt ((wr.alloc (.cells #[.int .i64 (k:Int),.int .i64 kd_,.string tg,.string tx,.slice aa al ac,.int .i64 z,.pointer none,.slice none 0 0] 97)).alloc (.cells #[] 61)) wr.heap.size (knotCells (k:Int) ⟨kd_,tg,tx,aa,al,ac,l,z⟩ (.slice aa al ac) none (.slice none 0 0)) 97:=World.objAt.below (B:=wr.heap.size+1) (objAt_alloc_new wr _ _) ((Below.refl _ _).alloc (by simp) _) (by omega)
    unfold World.objAt at n1 ⊢
    rw [hgrow3.block wr.heap.size (by simp;omega) (by simp [Value.ownBlock])]
    exact n1
   have hF3:World.objAt w3 W.heap.size #[.slice va k vc,.int .i64 (len:Int),.bool false] 68:=by
    have n1:=HG.out.fo.obj
    unfold World.objAt at n1 ⊢
    rw [hgrow3.block W.heap.size (by simp;omega) (by simp [Value.ownBlock];omega),Below.heap_alloc _ _ _ (by simp;omega),Below.heap_alloc _ _ _ hfl]
    exact n1
   have r4:w3.cell? ⟨wr.heap.size,4,none⟩=some (.slice aa al ac):=hK3.cell rfl
   have r4f:=hK3.free 4
   have r0:w3.cell? ⟨W.heap.size,0,none⟩=some (.slice va k vc):=hF3.cell rfl
   have r0f:=hF3.free 0
   have hall3:w3.ownsRow W.heap.size 69 1 (.slice va k vc) k ((List.range k).map fun i=>ptrV (kn i)):=ownsRow_kept HG.out.fo.all (fun q hq=>by
    have :=(World.ownsRow.lt HG.out.fo.all q hq).2
    rw [hgrow3.block q (by simp;omega) (by simp [Value.ownBlock];omega),Below.heap_alloc _ _ _ (by simp;omega),Below.heap_alloc _ _ _ this])
   have hall5:((w3.setCell ⟨wr.heap.size,4,none⟩ (.slice b2 al c2)).alloc (.cells #[.pointer (some ⟨wr.heap.size,0,none⟩)] 69)).ownsRow W.heap.size 69 1 (.slice va k vc) k ((List.range k).map fun i=>ptrV (kn i)):=
    World.ownsRow.alloc (ownsRow_kept hall3 (fun q hq=>setCell_block hK3 4 _ (fun e=>objAt_ne_own hK3 hall3 (by decide) (by rw [hq,e])))) _
   have hnews:∀j u,[Value.pointer (some ⟨wr.heap.size,0,none⟩)][j]? =some u→((w3.setCell ⟨wr.heap.size,4,none⟩ (.slice b2 al c2)).alloc (.cells #[.pointer (some ⟨wr.heap.size,0,none⟩)] 69)).cell? ((⟨w3.heap.size,0,none⟩:Addr).add j)=some u:=
    World.news_of_block (cs:= #[.pointer (some ⟨wr.heap.size,0,none⟩)]) (t:=69) (fr:=(0,0)) (by have :=heap_alloc_new (w3.setCell ⟨wr.heap.size,4,none⟩ (.slice b2 al c2)) (.cells #[.pointer (some ⟨wr.heap.size,0,none⟩)] 69);rw [size_set9]at this;exact this)
   have HALL5:=Lib.hid hall5
   have HNEWS:=Lib.hid hnews
   have H3:=Lib.hid (And.intro hown3 hgrow3)
   have HFK:=Lib.hid (And.intro hK3 hF3)
   clear hown3 hgrow3 hK3 hF3 hall3 hall5 hnews q0 q1 q2 q3 q4 q3a q3b
   go_wp2_with (at_builtin;refine wpList_append_lies _ rfl _ _ 66 rfl W.heap.size 69 j0 (.pointer none) 1 8 Tryz.underlying66 hj hy0 hy1 hy2 rfl (by decide) (.slice va k vc) k ((List.range k).map fun i=>ptrV (kn i)) rfl HALL5.out ⟨w3.heap.size,0,none⟩ 1 1 [.pointer (some ⟨wr.heap.size,0,none⟩)] rfl rfl HNEWS.out (by simp [Value.oneCell']) (by omega) (by unfold maxLen;omega) (by omega) (by simp [size_set9];omega) _ rfl ?_)
   intro g6 cap6 w6 hown6 hgrow6 hat6 hlt6
   have hstep:=GrowK.step HG.out (v0:=.slice aa al ac) (by rw [HLAB.out];exact H3.out.2) (v3:=.slice b2 al c2) (by rw [HLAB.out];have :=H3.out.1;simpa [hall]using this) hgrow6 hown6
   have hf6:World.objAt w6 W.heap.size #[.slice va k vc,.int .i64 (len:Int),.bool false] 68:=by
    have n1:=HFK.out.2
    have n2:=HALL5.out
    have n3:World.objAt ((w3.setCell ⟨wr.heap.size,4,none⟩ (.slice b2 al c2)).alloc (.cells #[.pointer (some ⟨wr.heap.size,0,none⟩)] 69)) W.heap.size #[.slice va k vc,.int .i64 (len:Int),.bool false] 68:=by
     unfold World.objAt at n1 ⊢
     rw [Below.heap_alloc _ _ _ (by rw [size_set9];omega),setCell_block HFK.out.1 4 _ (by omega)]
     exact n1
    have n4:=objAt_ne_own n3 n2 (by decide)
    unfold World.objAt at n3 ⊢
    rw [hgrow6.block W.heap.size (by simp [size_set9];omega) (fun e=>n4 e.symm)]
    exact n3
   have s0:w6.cell? ⟨W.heap.size,0,none⟩=some (.slice va k vc):=hf6.cell rfl
   have s0f:=hf6.free 0
   have HST:=Lib.hid hstep
   clear hstep hown6 hgrow6 hat6 hlt6 hf6 r4 r4f r0 r0f e0
   go_wp2
   go_roundw
   case rel=>exact⟨k+1,_,_,_,by omega,by go_num,HST⟩
   case measure=>simp [intOf];omega
  ·obtain rfl:k=len:=by omega
   have hK0:=HG.out.knots.congr (F':=gw (sz ts) 0 []) (fun i _=>(gw_zero _ i).2) (fun i _=>(gw_zero _ i).1)
   have HK0:=Lib.hid hK0
   have hfb:=HG.out.fo.base
   clear hlt hK0
   go_wp2
   go_loopw [6] (fun iv w1=>∃(i:Nat) (kv:Nat→Value),i≤k∧iv=.int .i64 (i:Int)∧Hid (Knots W.heap.size w1 k kn kv av (fun i=>(i:Int)) (fun i=>ts.getD i default) (gw (sz ts) i []))∧Hid (ForestK W.heap.size w1 W.heap.size vf k kn k false)∧Hid (SepK k kv vf)∧Hid (Below W.heap.size W w1)) (fun i _=>k-(intOf i).toNat)
   case atStart=>exact⟨0,fun _=>.slice none 0 0,by omega,by go_num,HK0,Lib.hid HG.out.fo,Lib.hid ⟨(fun i j _ _ _ b hb=>by simp [Value.ownBlock]at hb),(fun i _ b hb=>by simp [Value.ownBlock]at hb)⟩,Lib.hid HG.out.bel⟩
   case round=>
    obtain⟨i,kv,hik,rfl,HK,HF,HS,HB⟩:=hrel
    by_cases hlt:i<k
    ·have hiI:(i:Int)<(k:Int):=by omega
     have hne:=HR.out.nest
     have hfit:=hne.fit i hlt
     have hzp:=hne.pos i hlt
     obtain⟨Z,hZ⟩:∃Z,sz ts i=Z:=⟨_,rfl⟩
     have q4:=(HC.out i hlt).size
     rw [(HR.out.sizes i hlt).2.1]at q4
     have Q4:=Lib.hid q4
     have HNE:=Lib.hid hne
     have HZ:=Lib.hid hZ
     rw [hZ]at hfit hzp q4
     clear hne q4 hZ
     have q4:=cell_below HB.out (show W.cell? _=some (.int .i64 (Z:Int)) by rw [←HZ.out];exact Q4.out)
     go_wp2
     go_loopw [7] (fun cv w1=>∃(c fu:Nat) (P:List Nat) (kv:Nat→Value),cv=.int .i64 (c:Int)∧i+1≤c∧c≤i+Z∧i+Z-c≤fu∧Hid (P++kidsFrom (sz ts) (i+Z) fu c=kids (sz ts) i)∧Hid (Knots W.heap.size w1 k kn kv av (fun i=>(i:Int)) (fun i=>ts.getD i default) (gw (sz ts) i P))∧Hid (ForestK W.heap.size w1 W.heap.size vf k kn k false)∧Hid (SepK k kv vf)∧Hid (Below W.heap.size W w1)) (fun c _=>i+Z-(intOf c).toNat)
     case atStart=>exact⟨i+1,Z,[],kv,by go_num,by omega,by omega,by omega,Lib.hid (by rw [←HZ.out];rfl),HK,HF,HS,HB⟩
     case round=>
      obtain⟨c,fu,P,kv,rfl,hc1,hc2,hfu,HP,HK,HF,HS,HB⟩:=hrel
      clear q4
      have q4:=cell_below HB.out (show W.cell? _=some (.int .i64 (Z:Int)) by rw [←HZ.out];exact Q4.out)
      have hcI:(c:Int)≤200:=by omega
      by_cases hcl:c<i+Z
      ·have hcn:c<k:=by omega
       have hcI2:(c:Int)<(k:Int):=by omega
       have hciI:(c:Int)<(i:Int)+(Z:Int):=by omega
       obtain⟨gf,hgf,hks⟩:=kidsFrom_step (z:=sz ts) hcl hfu
       have hP:=HP.out
       rw [hks]at hP
       have hpar:par (sz ts) c=some i:=(wkids_mem HNE.out hlt hcn).1 (by rw [←hP];simp)
       obtain⟨g,fcap,hvf,hfc1,hfc2,f0,_,_,frow⟩:=HF.out.open hpos
       have ri:=frow i hlt
       have rc:=frow c hcn
       obtain⟨z6,c6⟩:∃z,wr.cell? ⟨kn c,6,none⟩=some z:=⟨_,(HK.out.cells hcn).2.1⟩
       have fr6:=(HK.out.node c hcn).free 6
       have hK1:=HK.out.set6 hcn (some i)
       have hO1:OnlyK k kn wr (wr.setCell ⟨kn c,6,none⟩ (lk ((some i).map kn))):=(OnlyK.refl k kn wr).set hcn (HK.out.node c hcn) 6 _
       have hF1:=HF.out.turn HK.out hO1
       have hB1:Below W.heap.size W (wr.setCell ⟨kn c,6,none⟩ (lk ((some i).map kn))):=HB.out.trans (hO1.below _ HB.out.size HK.out.base)
       simp only [Option.map_some,lk_some]at hK1 hF1 hB1
       have hdr:Below (wr.setCell ⟨kn c,6,none⟩ (.pointer (some ⟨kn i,0,none⟩))).heap.size (wr.setCell ⟨kn c,6,none⟩ (.pointer (some ⟨kn i,0,none⟩))) (wr.setCell ⟨kn c,6,none⟩ (.pointer (some ⟨kn i,0,none⟩))).drew:=(Below.refl _ _).drew
       have HK1:=Lib.hid (hK1.below hdr)
       have HF1:=Lib.hid (hF1.below hdr)
       have HB1:=Lib.hid (hB1.trans (hdr.mono hB1.size))
       have HPP:=Lib.hid (And.intro hP (And.intro hpar hgf))
       have HVF:=Lib.hid hvf
       clear hK1 hO1 hF1 hB1 hdr hP hks hpar hgf hvf frow HP
       go_wp2
       go_still_tail 16,(by kernel_rfl)
       go_wp2
       generalize hwx:(wr.setCell ⟨kn c,6,none⟩ (.pointer (some ⟨kn i,0,none⟩))).drew=wx at *
       obtain⟨sa,sc,hkv⟩:=ownsRow_slice (HK1.out.row i hlt)
       have hki:((⟨(gw (sz ts) i P).kids,fun q=>if q=c then some i else(gw (sz ts) i P).up q⟩:Wd).kids i)=P:=by simp [gw]
       rw [hki]at hkv
       have f0x:=HF1.out.obj.cell (i:=0) (v:=vf) rfl
       rw [HVF.out]at f0x
       have rix:=HF1.out.row HVF.out hlt
       have rcx:=HF1.out.row HVF.out hcn
       have c7x:=(HK1.out.cells hlt).2.2
       rw [hkv]at c7x
       have c7a:=cell_alloc_old c7x (.cells #[.pointer (some ⟨kn c,0,none⟩)] 69)
       have hPl:P.length≤200:=by
        have h1:=congrArg List.length HPP.out.1
        have h2:(kids (sz ts) i).length≤k:=by rw [kids_lb HNE.out hlt];exact lb_length_le _
        simp only [List.length_append,List.length_cons]at h1
        omega
       have hrow1:=HK1.out.row i hlt
       rw [hki,hkv]at hrow1
       have HOW:=Lib.hid ((World.ownsRow.alloc hrow1 (.cells #[.pointer (some ⟨kn c,0,none⟩)] 69)).drew)
       have HKV:=Lib.hid hkv
       have HGB:=Lib.hid (show vf.ownBlock=some g by rw [HVF.out];rfl)
       have m1:=World.new_ne wx _ f0x
       have m2:=World.new_ne wx _ rix
       have m3:=World.new_ne wx _ rcx
       have m4:=World.new_ne wx _ c7x
       have hcF:=HNE.out.fit c hcn
       have hcZ:=HNE.out.lam i c hlt (by omega) (by rw [HZ.out];exact hcl)
       rw [HZ.out]at hcZ
       have hcP:=HNE.out.pos c hcn
       have q4c:=(HC.out c hcn).size
       rw [(HR.out.sizes c hcn).2.1]at q4c
       have Q4C:=Lib.hid q4c
       clear hkv hki hrow1 q4c f0 ri rc c6 fr6 hwx
       refine wp_region_noPanic ?_
       refine wp_region_held_drew (S:=(fun w'=>w'.cell? ⟨W.heap.size,0,none⟩=some (.slice (some ⟨g,0,none⟩) k fcap)∧w'.cell? ⟨g,i,none⟩=some (.pointer (some ⟨kn i,0,none⟩))∧w'.cell? ⟨g,c,none⟩=some (.pointer (some ⟨kn c,0,none⟩)))) (by kernel_rfl) ?_ (fun hHeld=>?_)
       ·go_keep
       apply hT 0
       apply hT 1
       apply hT 2
       apply hT 3
       apply hT 4
       apply hT 5
       apply hT 6
       apply hT 7
       apply hT 8
       apply hT 9
       apply hT 10
       apply hT 11
       apply hT 12
       apply hT 13
       apply hT 14
       apply hT 15
       apply hT 17
       apply hT 18
       apply hT 19
       apply hT 20
       apply hT 21
       apply hT 22
       apply hT 23
       refine wpAnyH_ready (rs:=[16,24]) (by kernel_rfl) (by simp) ?_
       refine AllReadyH.cons (o:=_) rfl (fun K hK=>?_) ?_
       ·skip
        go_simp
        refine hK.out _ _ ?_ (fun hHeld=>?_)
        ·(first | go_keep | exact⟨t1,t2,t3⟩ | exact⟨HT.out.setc _ t1,HT.out.setc2 HGB.out _ t2,HT.out.setc2 HGB.out _ t3⟩)
        clear hK K
        try simp only [Act.put,List.setIfInBounds_toArray,List.set_cons_zero,List.set_cons_succ]
        refine wpAnyH_ready (rs:=[24]) (by kernel_rfl) (by simp) ?_
        refine AllReadyH.cons (o:=_) rfl (fun K hK=>?_) ?_
        ·skip
         go_simp
         refine hK.out _ _ ?_ (fun hHeld=>?_)
         ·(first | go_keep | exact⟨t1,t2,t3⟩ | exact⟨HT.out.setc _ t1,HT.out.setc2 HGB.out _ t2,HT.out.setc2 HGB.out _ t3⟩)
         clear hK K
         try simp only [Act.put,List.setIfInBounds_toArray,List.set_cons_zero,List.set_cons_succ]
         refine wpAnyH_ready (rs:=[25]) (by kernel_rfl) (by simp) ?_
         refine AllReadyH.cons (o:=_) rfl (fun K hK=>?_) ?_
         ·skip
          refine step_append_lies _ (by rfl) _ _ _ (by rfl) W.heap.size 69 j0 (.pointer none) 1 8 Tryz.underlying66 hj hy0 hy1 hy2 rfl (by decide) (.slice sa P.length sc) P.length (P.map fun y=>ptrV (kn y)) (by rfl) HOW.out ⟨wx.heap.size,0,none⟩ 1 1 [.pointer (some ⟨kn c,0,none⟩)] (by rfl) (by rfl) (World.news_of_block (cs:= #[.pointer (some ⟨kn c,0,none⟩)]) (t:=69) (fr:=(0,0)) (heap_alloc_new wx _)) (by simp [Value.oneCell']) (by omega) (by unfold maxLen;omega) (by omega) (by have :=HB1.out.size;simp;omega) (wx.heap.size+1) (by simp) ?_
          intro g9 cap9 w9 hown9 hgrow9 hat9 hlt9
          have HT:=Lib.hid (tailK HK1.out HS.out hlt HF1.out HB1.out HKV.out hgrow9 hown9 hat9 (by simp))
          have t1:=HT.out.cell0 f0x
          have t2:=HT.out.cellg HGB.out rix
          have t3:=HT.out.cellg HGB.out rcx
          have t7f:=HT.out.free
          obtain⟨t7v,t7⟩:=HT.out.cell7
          have tq:=cell_below HT.out.bel9 Q4C.out
          refine hK.out _ _ ?_ (fun hHeld=>?_)
          ·(first | go_keep | exact⟨t1,t2,t3⟩ | exact⟨HT.out.setc _ t1,HT.out.setc2 HGB.out _ t2,HT.out.setc2 HGB.out _ t3⟩)
          clear hK K
          try simp only [Act.put,List.setIfInBounds_toArray,List.set_cons_zero,List.set_cons_succ]
          apply hT 26
          apply hT 27
          refine wpAnyH_ready (rs:=[28]) (by kernel_rfl) (by simp) ?_
          refine AllReadyH.cons (o:=_) rfl (fun K hK=>?_) ?_
          ·skip
           go_simp
           refine hK.out _ _ ?_ (fun hHeld=>?_)
           ·(first | go_keep | exact⟨t1,t2,t3⟩ | exact⟨HT.out.setc _ t1,HT.out.setc2 HGB.out _ t2,HT.out.setc2 HGB.out _ t3⟩)
           clear hK K
           try simp only [Act.put,List.setIfInBounds_toArray,List.set_cons_zero,List.set_cons_succ]
           refine wpAnyH_done (by kernel_rfl) ?_ _
           refine NoPanic.normal ?_
           clear t1 t2 t3 hown9 hgrow9 hat9 hlt9
           go_wp2
           go_roundw
           case rel=>exact⟨c+sz ts c,gf,P++[c],updV kv i (.slice (some ⟨g9,0,none⟩) (P.length+1) cap9),by go_num,by omega,by omega,by have :=HPP.out.2.2;omega,Lib.hid (by have :=HPP.out.1;simpa only [List.append_assoc,List.singleton_append]using this),Lib.hid (HT.out.knots.congr (fun x _=>(gw_snoc HPP.out.2.1 x).2) (fun x _=>(gw_snoc HPP.out.2.1 x).1)),Lib.hid HT.out.forest,Lib.hid HT.out.sep,Lib.hid HT.out.bel⟩
           case measure=>simp [intOf];omega
          exact AllReadyH.nil
         exact AllReadyH.nil
        exact AllReadyH.nil
       refine AllReadyH.cons (o:=_) rfl (fun K hK=>?_) ?_
       ·skip
        go_simp
        refine hK.out _ _ ?_ (fun hHeld=>?_)
        ·(first | go_keep | exact⟨t1,t2,t3⟩ | exact⟨HT.out.setc _ t1,HT.out.setc2 HGB.out _ t2,HT.out.setc2 HGB.out _ t3⟩)
        clear hK K
        try simp only [Act.put,List.setIfInBounds_toArray,List.set_cons_zero,List.set_cons_succ]
        refine wpAnyH_ready (rs:=[16]) (by kernel_rfl) (by simp) ?_
        refine AllReadyH.cons (o:=_) rfl (fun K hK=>?_) ?_
        ·skip
         go_simp
         refine hK.out _ _ ?_ (fun hHeld=>?_)
         ·(first | go_keep | exact⟨t1,t2,t3⟩ | exact⟨HT.out.setc _ t1,HT.out.setc2 HGB.out _ t2,HT.out.setc2 HGB.out _ t3⟩)
         clear hK K
         try simp only [Act.put,List.setIfInBounds_toArray,List.set_cons_zero,List.set_cons_succ]
         refine wpAnyH_ready (rs:=[25]) (by kernel_rfl) (by simp) ?_
         refine AllReadyH.cons (o:=_) rfl (fun K hK=>?_) ?_
         ·skip
          refine step_append_lies _ (by rfl) _ _ _ (by rfl) W.heap.size 69 j0 (.pointer none) 1 8 Tryz.underlying66 hj hy0 hy1 hy2 rfl (by decide) (.slice sa P.length sc) P.length (P.map fun y=>ptrV (kn y)) (by rfl) HOW.out ⟨wx.heap.size,0,none⟩ 1 1 [.pointer (some ⟨kn c,0,none⟩)] (by rfl) (by rfl) (World.news_of_block (cs:= #[.pointer (some ⟨kn c,0,none⟩)]) (t:=69) (fr:=(0,0)) (heap_alloc_new wx _)) (by simp [Value.oneCell']) (by omega) (by unfold maxLen;omega) (by omega) (by have :=HB1.out.size;simp;omega) (wx.heap.size+1) (by simp) ?_
          intro g9 cap9 w9 hown9 hgrow9 hat9 hlt9
          have HT:=Lib.hid (tailK HK1.out HS.out hlt HF1.out HB1.out HKV.out hgrow9 hown9 hat9 (by simp))
          have t1:=HT.out.cell0 f0x
          have t2:=HT.out.cellg HGB.out rix
          have t3:=HT.out.cellg HGB.out rcx
          have t7f:=HT.out.free
          obtain⟨t7v,t7⟩:=HT.out.cell7
          have tq:=cell_below HT.out.bel9 Q4C.out
          refine hK.out _ _ ?_ (fun hHeld=>?_)
          ·(first | go_keep | exact⟨t1,t2,t3⟩ | exact⟨HT.out.setc _ t1,HT.out.setc2 HGB.out _ t2,HT.out.setc2 HGB.out _ t3⟩)
          clear hK K
          try simp only [Act.put,List.setIfInBounds_toArray,List.set_cons_zero,List.set_cons_succ]
          apply hT 26
          apply hT 27
          refine wpAnyH_ready (rs:=[28]) (by kernel_rfl) (by simp) ?_
          refine AllReadyH.cons (o:=_) rfl (fun K hK=>?_) ?_
          ·skip
           go_simp
           refine hK.out _ _ ?_ (fun hHeld=>?_)
           ·(first | go_keep | exact⟨t1,t2,t3⟩ | exact⟨HT.out.setc _ t1,HT.out.setc2 HGB.out _ t2,HT.out.setc2 HGB.out _ t3⟩)
           clear hK K
           try simp only [Act.put,List.setIfInBounds_toArray,List.set_cons_zero,List.set_cons_succ]
           refine wpAnyH_done (by kernel_rfl) ?_ _
           refine NoPanic.normal ?_
           clear t1 t2 t3 hown9 hgrow9 hat9 hlt9
           go_wp2
           go_roundw
           case rel=>exact⟨c+sz ts c,gf,P++[c],updV kv i (.slice (some ⟨g9,0,none⟩) (P.length+1) cap9),by go_num,by omega,by omega,by have :=HPP.out.2.2;omega,Lib.hid (by have :=HPP.out.1;simpa only [List.append_assoc,List.singleton_append]using this),Lib.hid (HT.out.knots.congr (fun x _=>(gw_snoc HPP.out.2.1 x).2) (fun x _=>(gw_snoc HPP.out.2.1 x).1)),Lib.hid HT.out.forest,Lib.hid HT.out.sep,Lib.hid HT.out.bel⟩
           case measure=>simp [intOf];omega
          exact AllReadyH.nil
         exact AllReadyH.nil
        exact AllReadyH.nil
       exact AllReadyH.nil
      ·obtain rfl:c=i+Z:=by omega
       have hP:=HP.out
       rw [kidsFrom_end (Nat.le_refl _),List.append_nil]at hP
       have HN2:=Lib.hid (HK.out.congr (F':=gw (sz ts) (i+1) []) (fun x hx=>by rw [hP];exact(gw_next HNE.out hlt hx).2) (fun x hx=>by rw [hP];exact(gw_next HNE.out hlt hx).1))
       clear hP HP
       have hciI:¬((i:Int)+(Z:Int)<(i:Int)+(Z:Int)):=by omega
       go_wp2
       go_roundw
       case rel=>exact⟨i+1,kv,by omega,by go_num,HN2,HF,HS,HB⟩
       case measure=>simp [intOf];omega
    ·obtain rfl:i=k:=by omega
     have HE:=Lib.hid (HK.out.congr (F':=wd0 (sz ts) i) (fun x hx=>(gw_end hx).2) (fun x hx=>(gw_end hx).1))
     go_wp2
     go_ret
     exact⟨_,vf,kn,kv,av,rfl,HE,HF,HB⟩
end Go.Proofs.YtkdomegcacgpnaaGreat
