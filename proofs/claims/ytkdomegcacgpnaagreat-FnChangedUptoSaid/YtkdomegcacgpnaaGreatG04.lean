/- Parts of a proof: AloneAll, SegAll. -/
import Derived.Test.YtkdomegcacgpnaaGreatG03
import Derived.Test.YtkdomegcacgpnaaGreatG00
import Derived.Deep.AppendLies
import Derived.Deep.RegionLaw
import Derived.Test.YtkdomegcacgpnaaGreatG02
set_option linter.unusedVariables false
set_option linter.unusedSimpArgs false
namespace Go.Proofs.YtkdomegcacgpnaaGreat
open Go.RowKit
theorem Tryz.infoAttr:(Tryz.prog.info? 119).map (fun i=>(i.zero,i.size,i.bytes))=some (some (.agg #[.string ByteArray.empty,.string ByteArray.empty,.string ByteArray.empty]),3,48):=by kernel_rfl
def attrCells(l:List (ByteArray×ByteArray)):List Value:=l.flatMap fun x=>[.string ByteArray.empty,.string x.1,.string x.2]
theorem attrCells_snoc(l:List (ByteArray×ByteArray))(x:ByteArray×ByteArray):attrCells (l++[x])=attrCells l++[.string ByteArray.empty,.string x.1,.string x.2]:=by simp [attrCells]
def tyOf(k:Int):Int:=if k=1 then 2 else if k=2 then 5 else if k=4 then 1 else if k=5 then 4 else 3
def dataOf(n:NodeD):ByteArray:=if n.kind=1 then ByteArray.empty else if n.kind=3 then n.tag else n.text
def aloneR(n:NodeD)(v:Value):NRec:=
 {par:=none,fst:=none,lst:=none,prv:=none,nxt:=none,ty:=tyOf n.kind,atom:=0,data:=dataOf n,ns:=ByteArray.empty,attr:=v}
def AlonePost(n:NodeD)(w:World)(e:Ending)(w':World):Prop:=
 ∃(g:Nat) (v:Value),e=.returned (.pointer (some ⟨g,0,none⟩))∧World.nodeAt w' g (aloneR n v)∧w'.ownsRow (g+1) 119 3 v n.attrs.length (attrCells n.attrs)∧w.heap.size≤g∧Below w.heap.size w w'
theorem take_succ_getD{α:Type}(l:List α)(d:α){k:Nat}(h:k<l.length):l.take (k+1)=l.take k++[l.getD k d]:=by
 rw [List.take_succ_eq_append_getElem h,List.getD_eq_getElem?_getD,List.getElem?_eq_getElem h];rfl
theorem alone_step{W wr w1:World}{n:NodeD}{v:Value}{k g cap:Nat}{key val:ByteArray}{O1 O2:Obj}(hbel:Below W.heap.size W wr)(hnode:World.nodeAt wr (W.heap.size+1) (aloneR n v))
  (hown:wr.ownsRow (W.heap.size+2) 119 3 v k (attrCells (n.attrs.take k))) (hgrow:(((wr.alloc O1).alloc O2).drew).grownBy w1 v.ownBlock)
  (hown1:w1.ownsRow (W.heap.size+2) 119 3 (.slice (some ⟨g,0,none⟩) (k+1) cap) (k+1) (attrCells (n.attrs.take k)++[.string ByteArray.empty,.string key,.string val]))
  (hkv:(n.attrs.getD k default).1=key∧(n.attrs.getD k default).2=val) (hk:k<n.attrs.length):
  World.nodeAt (w1.setCell ⟨W.heap.size+1,9,none⟩ (.slice (some ⟨g,0,none⟩) (k+1) cap)) (W.heap.size+1) (aloneR n (.slice (some ⟨g,0,none⟩) (k+1) cap))∧
  (w1.setCell ⟨W.heap.size+1,9,none⟩ (.slice (some ⟨g,0,none⟩) (k+1) cap)).ownsRow (W.heap.size+2) 119 3 (.slice (some ⟨g,0,none⟩) (k+1) cap) (k+1) (attrCells (n.attrs.take (k+1)))∧
  Below W.heap.size W (w1.setCell ⟨W.heap.size+1,9,none⟩ (.slice (some ⟨g,0,none⟩) (k+1) cap)):=by
 have hlt:=hnode.lt
 have hne:some (W.heap.size+1)≠v.ownBlock:=fun e=>by have :=(World.ownsRow.lt hown _ e.symm).1;omega
 have hn1:World.nodeAt w1 (W.heap.size+1) (aloneR n v):=by
  have h2:World.nodeAt (((wr.alloc O1).alloc O2).drew) (W.heap.size+1) (aloneR n v):=((hnode.alloc O1).alloc O2:World.nodeAt ((wr.alloc O1).alloc O2) _ _)
  unfold World.nodeAt at *
  rw [hgrow.block (W.heap.size+1) (by simp;omega) hne]
  exact h2
 have hs:=setCell_attr hn1 (.slice (some ⟨g,0,none⟩) (k+1) cap)
 refine⟨?_,?_,?_⟩
 ·rw [hs];exact hn1.put _
 ·refine ownsRow_setCell_below ?_ (by simp) _
  rw [take_succ_getD _ default hk,attrCells_snoc,hkv.1,hkv.2]
  exact hown1
 ·refine Below.setCell ?_ (by simp) _
  exact(((hbel.alloc hbel.size O1).alloc (by have :=hbel.size;simp;omega) O2).drew).grown hgrow (by have :=hbel.size;simp;omega) (fun q hq=>by have :=(World.ownsRow.lt hown q hq).1;omega)
set_option maxRecDepth 100000 in
set_option maxHeartbeats 4000000 in
theorem alone_elem(tag text:ByteArray)(aa:Option Addr)(al ac:Nat)(l:List (ByteArray×ByteArray))(z:Int)(w:World)(h:AttrsAt w aa al l)(hal:al≤20):
  Calls Tryz.prog 117 #[.agg #[.int .i64 3,.string tag,.string text,.slice aa al ac,.int .i64 z]] w (AlonePost ⟨3,tag,text,aa,al,ac,l,z⟩ w):=by
 have HA:=Lib.hid h
 clear h
 obtain⟨i0,hi,hz0,hz1,hz2⟩:=info_parts Tryz.infoAttr
 go_enter Tryz.func117,Tryz.ntmps117
 go_wp2
 go_loopw [37] (fun i wr=>∃(k:Nat) (v:Value),k≤al∧i=.int .i64 k∧World.nodeAt wr (w.heap.size+1) (aloneR ⟨3,tag,text,aa,al,ac,l,z⟩ v)∧wr.ownsRow (w.heap.size+2) 119 3 v k (attrCells (l.take k))∧Below w.heap.size w wr) (fun i _=>al-(intOf i).toNat)
 case atStart=>
  refine⟨0,.slice none 0 0,Nat.zero_le _,rfl,?_,World.ownsRow_nil _ _ _ _,((Below.refl _ _).alloc (Nat.le_refl _) _).alloc (by simp) _⟩
  have :=nodeAt_alloc_new (w.alloc (Obj.cells #[Value.int .i64 3,.string tag,.string text,.slice aa al ac,.int .i64 z] 38)) (aloneR ⟨3,tag,text,aa,al,ac,l,z⟩ (.slice none 0 0))
  rw [World.size_alloc]at this
  exact this
 case round=>
  obtain⟨k,v,hk,rfl,hnode,hown,hbel⟩:=hrel
  have HB:=Lib.hid hbel
  have HN:=Lib.hid hnode
  have HO:=Lib.hid hown
  have HA1:=Lib.hid (HA.out.below hbel)
  have hsz:w.heap.size+1<wr.heap.size:=hnode.lt
  have c9:=hnode.attr
  have f9:=hnode.free 9
  clear hbel hnode hown
  by_cases hlt:k<al
  ·obtain⟨q1,q2,q3,q4⟩:=HA1.out
   obtain⟨b,off,rfl,hc⟩:=q4 (by omega)
   have ck:=(hc k hlt).1
   have cv:=(hc k hlt).2
   obtain⟨key,hkey⟩:∃y,(l.getD k default).1=y:=⟨_,rfl⟩
   obtain⟨val,hval⟩:∃y,(l.getD k default).2=y:=⟨_,rfl⟩
   rw [hkey]at ck
   rw [hval]at cv
   have HKV:=Lib.hid (And.intro hkey hval)
   clear q1 q2 q3 q4 hc hkey hval
   have hne:some (w.heap.size+1)≠v.ownBlock:=fun e=>by have :=(World.ownsRow.lt HO.out _ e.symm).1;omega
   have hownW:(((wr.alloc (.cells #[.string key,.string val] 61)).alloc (.cells #[.string ByteArray.empty,.string key,.string val] 119)).drew).ownsRow (w.heap.size+2) 119 3 v k (attrCells (l.take k)):=(World.ownsRow.alloc (World.ownsRow.alloc HO.out _) _).drew
   have hnews:∀j u,[Value.string ByteArray.empty,.string key,.string val][j]? =some u→(((wr.alloc (.cells #[.string key,.string val] 61)).alloc (.cells #[.string ByteArray.empty,.string key,.string val] 119)).drew).cell? ((⟨wr.heap.size+1,0,none⟩:Addr).add j)=some u:=
    World.news_of_block (cs:= #[.string ByteArray.empty,.string key,.string val]) (t:=119) (fr:=(0,0)) (by have :=heap_alloc_new (wr.alloc (.cells #[.string key,.string val] 61)) (.cells #[.string ByteArray.empty,.string key,.string val] 119);rw [World.size_alloc]at this;exact this)
   have HW:=Lib.hid hownW
   have HNEWS:=Lib.hid hnews
   have HNE:=Lib.hid hne
   have c9':wr.cell? ⟨w.heap.size+1,9,none⟩=some v:=c9
   have hsz2:w.heap.size<wr.heap.size:=by omega
   have c9a:(wr.alloc (.cells #[.string key,.string val] 61)).cell? ⟨w.heap.size+1,9,none⟩=some v:=(World.cell?_alloc_lt wr _ ⟨w.heap.size+1,9,none⟩ hsz).trans c9'
   have c9b:((wr.alloc (.cells #[.string key,.string val] 61)).alloc (.cells #[.string ByteArray.empty,.string key,.string val] 119)).cell? ⟨w.heap.size+1,9,none⟩=some v:=(World.cell?_alloc_lt (wr.alloc (.cells #[.string key,.string val] 61)) _ ⟨w.heap.size+1,9,none⟩ (by rw [World.size_alloc];exact Nat.lt_succ_of_lt hsz)).trans c9a
   have f9a:(wr.alloc (.cells #[.string key,.string val] 61)).frozen? ⟨w.heap.size+1,9,none⟩=false:=(World.frozen?_alloc_old wr _ ⟨w.heap.size+1,9,none⟩ (Nat.ne_of_lt hsz)).trans f9
   have f9b:((wr.alloc (.cells #[.string key,.string val] 61)).alloc (.cells #[.string ByteArray.empty,.string key,.string val] 119)).frozen? ⟨w.heap.size+1,9,none⟩=false:=(World.frozen?_alloc_old (wr.alloc (.cells #[.string key,.string val] 61)) _ ⟨w.heap.size+1,9,none⟩ (by rw [World.size_alloc];exact Nat.ne_of_lt (Nat.lt_succ_of_lt hsz))).trans f9a
   clear hne hownW hnews c9
   go_wp2
   go_region_law (first | (refine step_append_lies _ rfl (.tmp 45) (.tmp 51) 112 rfl (w.heap.size+2) 119 i0 (.agg #[.string ByteArray.empty,.string ByteArray.empty,.string ByteArray.empty]) 3 48 Tryz.underlying112 hi hz0 hz1 hz2 rfl (by decide) v k (attrCells (l.take k)) (by simp [Act.eval,Act.put]) HW.out ⟨wr.heap.size+1,0,none⟩ 1 1 [.string ByteArray.empty,.string key,.string val] (by simp [Act.eval,Act.put]) rfl HNEWS.out (by simp [Value.oneCell']) (by omega) (by unfold maxLen;omega) (by omega) (by simp;omega) _ rfl ?_;intro g cap w1 hown1 hgrow hat hlt1;have hc9:w1.cell? ⟨w.heap.size+1,9,none⟩=some v:=(hgrow.cell_far ⟨w.heap.size+1,9,none⟩ (by simp;omega) HNE.out).trans c9b;have hf9:w1.frozen? ⟨w.heap.size+1,9,none⟩=false:=(hgrow.frozen_far ⟨w.heap.size+1,9,none⟩ (by simp;omega) HNE.out).trans f9b))
   all_goals
    have hst:=alone_step (n:=⟨3,tag,text,some ⟨b,off,none⟩,al,ac,l,z⟩) HB.out HN.out HO.out hgrow hown1 HKV.out (by have :=HA.out.1;simp;omega)
    have HST:=Lib.hid hst
    clear hst hown1 hgrow hat hlt1 c9' c9a c9b f9 f9a f9b
    go_wp2
    go_roundw
    case rel=>exact⟨k+1,_,by omega,by go_num,HST.out.1,HST.out.2.1,HST.out.2.2⟩
    case measure=>simp [intOf];omega
  ·obtain rfl:k=al:=by omega
   go_wp2
   go_ret
   refine⟨w.heap.size+1,v,rfl,HN.out,?_,by omega,HB.out⟩
   have :=HO.out
   rw [List.take_of_length_le (by have :=HA.out.1;omega)]at this
   rw [show l.length=k from HA.out.1]
   exact this
end Go.Proofs.YtkdomegcacgpnaaGreat
namespace Go.Proofs.YtkdomegcacgpnaaGreat
open Go.RowKit
set_option maxRecDepth 100000 in
theorem alone_1(tag text:ByteArray)(aa:Option Addr)(al ac:Nat)(z:Int)(w:World):
  Calls Tryz.prog 117 #[.agg #[.int .i64 1,.string tag,.string text,.slice aa al ac,.int .i64 z]] w (AlonePost ⟨1,tag,text,aa,al,ac,[],z⟩ w):=by
 have fin:World.nodeAt ((w.alloc (.cells #[.int .i64 1,.string tag,.string text,.slice aa al ac,.int .i64 z] 38)).alloc (aloneR ⟨1,tag,text,aa,al,ac,[],z⟩ (.slice none 0 0)).obj) (w.heap.size+1) (aloneR ⟨1,tag,text,aa,al,ac,[],z⟩ (.slice none 0 0)):=by
  have :=nodeAt_alloc_new (w.alloc (Obj.cells #[Value.int .i64 1,.string tag,.string text,.slice aa al ac,.int .i64 z] 38)) (aloneR ⟨1,tag,text,aa,al,ac,[],z⟩ (.slice none 0 0))
  rw [World.size_alloc]at this
  exact this
 have FIN:=Lib.hid fin
 clear fin
 go_enter Tryz.func117,Tryz.ntmps117
 go_wp2
 go_ret
 exact⟨w.heap.size+1,.slice none 0 0,rfl,FIN.out,World.ownsRow_nil _ _ _ _,by omega,((Below.refl _ _).alloc (Nat.le_refl _) _).alloc (by simp) _⟩
set_option maxRecDepth 100000 in
theorem alone_2(tag text:ByteArray)(aa:Option Addr)(al ac:Nat)(z:Int)(w:World):
  Calls Tryz.prog 117 #[.agg #[.int .i64 2,.string tag,.string text,.slice aa al ac,.int .i64 z]] w (AlonePost ⟨2,tag,text,aa,al,ac,[],z⟩ w):=by
 have fin:World.nodeAt ((w.alloc (.cells #[.int .i64 2,.string tag,.string text,.slice aa al ac,.int .i64 z] 38)).alloc (aloneR ⟨2,tag,text,aa,al,ac,[],z⟩ (.slice none 0 0)).obj) (w.heap.size+1) (aloneR ⟨2,tag,text,aa,al,ac,[],z⟩ (.slice none 0 0)):=by
  have :=nodeAt_alloc_new (w.alloc (Obj.cells #[Value.int .i64 2,.string tag,.string text,.slice aa al ac,.int .i64 z] 38)) (aloneR ⟨2,tag,text,aa,al,ac,[],z⟩ (.slice none 0 0))
  rw [World.size_alloc]at this
  exact this
 have FIN:=Lib.hid fin
 clear fin
 go_enter Tryz.func117,Tryz.ntmps117
 go_wp2
 go_ret
 exact⟨w.heap.size+1,.slice none 0 0,rfl,FIN.out,World.ownsRow_nil _ _ _ _,by omega,((Below.refl _ _).alloc (Nat.le_refl _) _).alloc (by simp) _⟩
set_option maxRecDepth 100000 in
theorem alone_4(tag text:ByteArray)(aa:Option Addr)(al ac:Nat)(z:Int)(w:World):
  Calls Tryz.prog 117 #[.agg #[.int .i64 4,.string tag,.string text,.slice aa al ac,.int .i64 z]] w (AlonePost ⟨4,tag,text,aa,al,ac,[],z⟩ w):=by
 have fin:World.nodeAt ((w.alloc (.cells #[.int .i64 4,.string tag,.string text,.slice aa al ac,.int .i64 z] 38)).alloc (aloneR ⟨4,tag,text,aa,al,ac,[],z⟩ (.slice none 0 0)).obj) (w.heap.size+1) (aloneR ⟨4,tag,text,aa,al,ac,[],z⟩ (.slice none 0 0)):=by
  have :=nodeAt_alloc_new (w.alloc (Obj.cells #[Value.int .i64 4,.string tag,.string text,.slice aa al ac,.int .i64 z] 38)) (aloneR ⟨4,tag,text,aa,al,ac,[],z⟩ (.slice none 0 0))
  rw [World.size_alloc]at this
  exact this
 have FIN:=Lib.hid fin
 clear fin
 go_enter Tryz.func117,Tryz.ntmps117
 go_wp2
 go_ret
 exact⟨w.heap.size+1,.slice none 0 0,rfl,FIN.out,World.ownsRow_nil _ _ _ _,by omega,((Below.refl _ _).alloc (Nat.le_refl _) _).alloc (by simp) _⟩
set_option maxRecDepth 100000 in
theorem alone_5(tag text:ByteArray)(aa:Option Addr)(al ac:Nat)(z:Int)(w:World):
  Calls Tryz.prog 117 #[.agg #[.int .i64 5,.string tag,.string text,.slice aa al ac,.int .i64 z]] w (AlonePost ⟨5,tag,text,aa,al,ac,[],z⟩ w):=by
 have fin:World.nodeAt ((w.alloc (.cells #[.int .i64 5,.string tag,.string text,.slice aa al ac,.int .i64 z] 38)).alloc (aloneR ⟨5,tag,text,aa,al,ac,[],z⟩ (.slice none 0 0)).obj) (w.heap.size+1) (aloneR ⟨5,tag,text,aa,al,ac,[],z⟩ (.slice none 0 0)):=by
  have :=nodeAt_alloc_new (w.alloc (Obj.cells #[Value.int .i64 5,.string tag,.string text,.slice aa al ac,.int .i64 z] 38)) (aloneR ⟨5,tag,text,aa,al,ac,[],z⟩ (.slice none 0 0))
  rw [World.size_alloc]at this
  exact this
 have FIN:=Lib.hid fin
 clear fin
 go_enter Tryz.func117,Tryz.ntmps117
 go_wp2
 go_ret
 exact⟨w.heap.size+1,.slice none 0 0,rfl,FIN.out,World.ownsRow_nil _ _ _ _,by omega,((Below.refl _ _).alloc (Nat.le_refl _) _).alloc (by simp) _⟩
theorem alone_any(n:NodeD)(z at_:Nat)(w:World)(hok:NodeOk n z at_)(h:AttrsAt w n.aa n.al n.attrs):
  Calls Tryz.prog 117 #[.agg #[.int .i64 n.kind,.string n.tag,.string n.text,.slice n.aa n.al n.ac,.int .i64 n.size]] w (AlonePost n w):=by
 obtain⟨k,tag,text,aa,al,ac,l,size⟩:=n
 obtain⟨hk,hb,ha⟩:=hok
 simp only at hk hb ha h ⊢
 rcases hk with ⟨rfl,_⟩ | ⟨rfl,_⟩ | rfl | ⟨rfl,_⟩ | ⟨rfl,_⟩
 ·obtain rfl:l=[]:=(hb (by decide)).2
  exact alone_1 tag text aa al ac size w
 ·obtain rfl:l=[]:=(hb (by decide)).2
  exact alone_2 tag text aa al ac size w
 ·exact alone_elem tag text aa al ac l size w h (by have :=(ha rfl).1;have :=h.1;omega)
 ·obtain rfl:l=[]:=(hb (by decide)).2
  exact alone_4 tag text aa al ac size w
 ·obtain rfl:l=[]:=(hb (by decide)).2
  exact alone_5 tag text aa al ac size w
def nodeR(E:Nat→Nat)(lo:Nat)(nb:Nat→Nat)(n:NodeD)(v:Value)(i:Nat):NRec:=
 {par:=(up E lo i).map nb,fst:=(fstK E i).map nb,lst:=(lstK E lo i).map nb,prv:=(prvK E lo i).map nb,nxt:=(nxtK E lo i).map nb,ty:=tyOf n.kind,atom:=0,data:=dataOf n,ns:=ByteArray.empty,attr:=v}
structure Seg (w:World) (E:Nat→Nat) (lo hi:Nat) (nb:Nat→Nat) (v:Nat→Value) (ts:List NodeD) (B:Nat):Prop where
 node:∀i,lo≤i→i<hi→World.nodeAt w (nb i) (nodeR E lo nb (ts.getD i default) (v i) i)
 own:∀i,lo≤i→i<hi→w.ownsRow B 119 3 (v i) (ts.getD i default).attrs.length (attrCells (ts.getD i default).attrs)
 base:∀i,lo≤i→i<hi→B≤nb i
 inj:∀i j,lo≤i→i<hi→lo≤j→j<hi→nb i=nb j→i=j
 sep:∀i j,lo≤i→i<hi→lo≤j→j<hi→i≠j→∀b,(v i).ownBlock=some b→(v j).ownBlock≠some b
theorem map_congr{nb nb':Nat→Nat}{x:Option Nat}(h:∀p,x=some p→nb p=nb' p):x.map nb=x.map nb':=by
 cases x with
 | none=>rfl
 | some p=>simp [h p rfl]
theorem nodeR_congr{E:Nat→Nat}{lo hi:Nat}{nb nb':Nat→Nat}{n:NodeD}{v:Value}{i:Nat}(hp:Part E lo hi)(h1:lo≤i)(h2:i<hi)(h:∀j,lo≤j→j<hi→nb j=nb' j):
  nodeR E lo nb n v i=nodeR E lo nb' n v i:=by
 obtain⟨a,b,c,d,e⟩:=hp.links h1 h2
 unfold nodeR
 rw [map_congr (fun p hp=>h p (a p hp).1 (a p hp).2),map_congr (fun p hp=>h p (b p hp).1 (b p hp).2),map_congr (fun p hp=>h p (c p hp).1 (c p hp).2),
  map_congr (fun p hp=>h p (d p hp).1 (d p hp).2),map_congr (fun p hp=>h p (e p hp).1 (e p hp).2)]
theorem Seg.congr{w:World}{E:Nat→Nat}{lo hi:Nat}{nb nb':Nat→Nat}{v v':Nat→Value}{ts:List NodeD}{B:Nat}(h:Seg w E lo hi nb v ts B)(hp:Part E lo hi)
  (hn:∀j,lo≤j→j<hi→nb j=nb' j) (hv:∀j,lo≤j→j<hi→v j=v' j):Seg w E lo hi nb' v' ts B:=by
 refine⟨fun i a b=>?_,fun i a b=>?_,fun i a b=>?_,fun i j a b c d e=>?_,fun i j a b c d e x hx=>?_⟩
 ·rw [←hn i a b,←hv i a b,←nodeR_congr hp a b hn];exact h.node i a b
 ·rw [←hv i a b];exact h.own i a b
 ·rw [←hn i a b];exact h.base i a b
 ·rw [←hn i a b,←hn j c d]at e;exact h.inj i j a b c d e
 ·rw [←hv i a b]at hx;rw [←hv j c d];exact h.sep i j a b c d e x hx
theorem ownsRow_base{w:World}{B B':Nat}{e:TypeId}{size:Nat}{v:Value}{n:Nat}{xs:List Value}(h:w.ownsRow B e size v n xs)(hB:B'≤B):w.ownsRow B' e size v n xs:=by
 refine⟨h.1,?_⟩
 rcases h.2 with h2 | ⟨g,cap,cur,a,b,r⟩
 ·exact .inl h2
 ·exact .inr ⟨g,cap,cur,a,Nat.le_trans hB b,r⟩
theorem ownsRow_kept{w w':World}{B:Nat}{e:TypeId}{size:Nat}{v:Value}{n:Nat}{xs:List Value}(h:w.ownsRow B e size v n xs)(hk:∀b,v.ownBlock=some b→w'.heap[b]? =w.heap[b]?):w'.ownsRow B e size v n xs:=by
 refine⟨h.1,?_⟩
 rcases h.2 with h2 | ⟨g,cap,cur,rfl,b,hg,r⟩
 ·exact .inl h2
 ·exact .inr ⟨g,cap,cur,rfl,b,by rw [hk g rfl];exact hg,r⟩
theorem ownsRow_type{w:World}{B:Nat}{e:TypeId}{size:Nat}{v:Value}{n:Nat}{xs:List Value}(h:w.ownsRow B e size v n xs){b:Nat}(hb:v.ownBlock=some b):∃cur,w.heap[b]? =some (.cells cur e (0,0)):=by
 rcases h.2 with ⟨rfl,_⟩ | ⟨g,cap,cur,rfl,_,hg,_⟩
 ·simp [Value.ownBlock]at hb
 ·simp [Value.ownBlock]at hb;subst hb;exact⟨cur,hg⟩
theorem Seg.kept{w w':World}{E:Nat→Nat}{lo hi:Nat}{nb:Nat→Nat}{v:Nat→Value}{ts:List NodeD}{B:Nat}(h:Seg w E lo hi nb v ts B)
  (hk:∀b,b<w.heap.size→(∀cur t fr,w.heap[b]? =some (.cells cur t fr)→t=117∨t=119)→w'.heap[b]? =w.heap[b]?):Seg w' E lo hi nb v ts B:=by
 refine⟨fun i a b=>?_,fun i a b=>?_,h.base,h.inj,h.sep⟩
 ·have :=h.node i a b
  unfold World.nodeAt at *
  rw [hk (nb i) (World.nodeAt.lt (h.node i a b)) (fun cur t fr hc=>by rw [this]at hc;simp [NRec.obj]at hc;exact .inl hc.2.1.symm)]
  exact this
 ·refine ownsRow_kept (h.own i a b) (fun x hx=>?_)
  obtain⟨cur,hc⟩:=ownsRow_type (h.own i a b) hx
  exact hk x (World.ownsRow.lt (h.own i a b) x hx).2 (fun cur' t fr hc'=>by rw [hc]at hc';simp at hc';exact .inr hc'.2.1.symm)
theorem Seg.grown{w w':World}{E:Nat→Nat}{lo hi:Nat}{nb:Nat→Nat}{v:Nat→Value}{ts:List NodeD}{B bl:Nat}(h:Seg w E lo hi nb v ts B)(hg:w.grownBy w' (some bl)){arr:Array Value}{t:TypeId}{fr:Nat×Nat}
  (hb:w.heap[bl]? =some (.cells arr t fr)) (h1:t≠117) (h2:t≠119):Seg w' E lo hi nb v ts B:=by
 refine h.kept (fun b hlt ht=>hg.block b hlt (fun e=>?_))
 simp at e;subst e
 rcases ht arr t fr hb with h3 | h3
 ·exact h1 h3
 ·exact h2 h3
theorem node_ne_own{w:World}{b:Nat}{r:NRec}(h:World.nodeAt w b r){B:Nat}{size:Nat}{v:Value}{n:Nat}{xs:List Value}(ho:w.ownsRow B 119 size v n xs):v.ownBlock≠some b:=by
 intro hb
 obtain⟨cur,hc⟩:=ownsRow_type ho hb
 unfold World.nodeAt at h
 rw [hc]at h
 simp [NRec.obj]at h
theorem ownsRow_putN{w:World}{b:Nat}{r r':NRec}(h:World.nodeAt w b r){B:Nat}{size:Nat}{v:Value}{n:Nat}{xs:List Value}(ho:w.ownsRow B 119 size v n xs):
  (World.putN w b r').ownsRow B 119 size v n xs:=
 ownsRow_kept ho (fun x hx=>World.heap_putN_other r' (fun e=>node_ne_own h ho (by rw [hx,e])))
def Ez(z:Nat→Nat)(lo hi i:Nat):Nat:=if i=lo then hi else i+z i
theorem Ez_full(z:Nat→Nat)(lo:Nat):Ez z lo (lo+z lo)=fun i=>i+z i:=by
 funext i
 unfold Ez
 split
 ·rename_i h;rw [h]
 ·rfl
theorem part_of{z:Nat→Nat}{n lo hi:Nat}(hz:Nest z n)(h1:lo<hi)(h2:hi≤n)(h3:∀i,lo<i→i<hi→i+z i≤hi):Part (Ez z lo hi) lo hi:=by
 refine⟨h1,by simp [Ez],fun i a b=>?_,fun i j a b c d=>?_⟩
 ·unfold Ez
  split
  ·omega
  ·have :=hz.pos i (by omega);omega
 ·unfold Ez at *
  by_cases e:i=lo
  ·subst e
   simp only [if_true]at d ⊢
   split
   ·exact Nat.le_refl _
   ·exact h3 j (by omega) d
  ·simp only [e,if_false]at d ⊢
   have :j≠lo:=by omega
   simp only [this,if_false]
   exact hz.lam i j (by omega) c d
theorem part_full{z:Nat→Nat}{n lo:Nat}(hz:Nest z n)(h:lo<n):Part (fun i=>i+z i) lo (lo+z lo):=by
 have :=part_of (lo:=lo) (hi:=lo+z lo) hz (by have :=hz.pos lo h;omega) (hz.fit lo h) (fun i a b=>hz.lam lo i h (by omega) b)
 rwa [Ez_full]at this
theorem join_of{z:Nat→Nat}{n lo k:Nat}(hz:Nest z n)(h1:lo<k)(h2:k<n)(h3:∀i,lo<i→i<k→i+z i≤k):Join (Ez z lo k) (fun i=>i+z i) (Ez z lo (k+z k)) lo k (k+z k):=
 ⟨part_of hz h1 (by omega) h3,part_full hz h2,by simp [Ez],fun i a b=>by simp [Ez,show i≠lo by omega],fun i a b=>by simp [Ez,show i≠lo by omega]⟩
end Go.Proofs.YtkdomegcacgpnaaGreat
namespace Go.Proofs.YtkdomegcacgpnaaGreat
open Go.RowKit
theorem prvK_lo{E:Nat→Nat}{lo:Nat}:prvK E lo lo=none:=by
 refine top_none (fun j hj=>?_)
 have :¬lo≤j:=by omega
 simp [this]
theorem nxtK_lo{E:Nat→Nat}{lo:Nat}:nxtK E lo lo=none:=by unfold nxtK;rw [up_lo (Nat.le_refl _)]
section
variable {E1 F E2:Nat→Nat} {lo k k':Nat} (J:Join E1 F E2 lo k k') (nb:Nat→Nat) (n:NodeD) (v:Value)
include J
theorem Join.node_k0(h:k=lo+1):nodeR E2 lo nb n v k={nodeR F k nb n v k with par:=some (nb lo)}:=by
 unfold nodeR
 rw [J.up_k,J.fst_b (Nat.le_refl _) J.pF.lt,J.lst_b (Nat.le_refl _) J.pF.lt,J.prv_k,J.nxt_k,nxtK_lo,prvK_lo,J.p1.lst_none (by rw [J.p1.root];omega)]
 rfl
theorem Join.node_k{l:Nat}(h:lstK E1 lo lo=some l):nodeR E2 lo nb n v k={nodeR F k nb n v k with par:=some (nb lo),prv:=some (nb l)}:=by
 unfold nodeR
 rw [J.up_k,J.fst_b (Nat.le_refl _) J.pF.lt,J.lst_b (Nat.le_refl _) J.pF.lt,J.prv_k,J.nxt_k,nxtK_lo,h]
 rfl
theorem Join.node_b{i:Nat}(h1:k<i)(h2:i<k'):nodeR E2 lo nb n v i=nodeR F k nb n v i:=by
 unfold nodeR
 rw [J.up_b h1 h2,J.fst_b (by omega) h2,J.lst_b (by omega) h2,J.prv_b h1 h2,J.nxt_b h1 h2]
theorem Join.node_lo0(h:k=lo+1):nodeR E2 lo nb n v lo={nodeR E1 lo nb n v lo with fst:=some (nb k),lst:=some (nb k)}:=by
 unfold nodeR
 rw [up_lo (Nat.le_refl _),up_lo (Nat.le_refl _),J.fst_lo,J.lst_lo,prvK_lo,prvK_lo,nxtK_lo,nxtK_lo]
 rw [←h]
 rfl
theorem Join.node_lo(h:lo+1<k):nodeR E2 lo nb n v lo={nodeR E1 lo nb n v lo with lst:=some (nb k)}:=by
 unfold nodeR
 rw [up_lo (Nat.le_refl _),up_lo (Nat.le_refl _),J.fst_lo,J.fst_lo1 h,J.lst_lo,prvK_lo,prvK_lo,nxtK_lo,nxtK_lo]
 rfl
theorem Join.node_l{l:Nat}(h:lstK E1 lo lo=some l):nodeR E2 lo nb n v l={nodeR E1 lo nb n v l with nxt:=some (nb k)}:=by
 obtain⟨a,b,c,d⟩:=J.p1.lst_end (Nat.le_refl _) J.p1.lt h
 rw [J.p1.root]at b d
 unfold nodeR
 rw [J.up_a a b,J.fst_a a b,J.lst_a a b,J.prv_a a b,J.nxt_a a b,if_pos ⟨c,d⟩]
 rfl
theorem Join.node_a{i:Nat}(h1:lo<i)(h2:i<k)(h3:lstK E1 lo lo≠some i):nodeR E2 lo nb n v i=nodeR E1 lo nb n v i:=by
 unfold nodeR
 rw [J.up_a h1 h2,J.fst_a h1 h2,J.lst_a h1 h2,J.prv_a h1 h2,J.nxt_a h1 h2,if_neg]
 rintro⟨a,b⟩
 refine h3 ?_
 refine top_mk (by rw [J.p1.root];exact h2) (by simp [h1,a]) (fun j c d=>?_)
 rw [J.p1.root]at d
 by_cases h4:up E1 lo j=some lo
 ·have :=up_some h4
  have :=this.2.2.2 i h1 c
  have h5:=J.p1.pos j (by omega) d
  omega
 ·simp [h4]
end
section
variable {E1 F E2:Nat→Nat} {lo k k':Nat} {w:World} {nb:Nat→Nat} {v:Nat→Value} {ts:List NodeD} {B B':Nat}
structure Ahead (w:World) (lo k:Nat) (nb:Nat→Nat) (v:Nat→Value) (B':Nat):Prop where
 node:∀i,lo≤i→i<k→nb i<B'
 own:∀i,lo≤i→i<k→∀b,(v i).ownBlock=some b→b<B'
theorem seg_join_props(J:Join E1 F E2 lo k k')(h1:Seg w E1 lo k nb v ts B)(hF:Seg w F k k' nb v ts B')(hB:B≤B')(ha:Ahead w lo k nb v B'):
  (∀i,lo≤i→i<k'→B≤nb i)∧(∀i j,lo≤i→i<k'→lo≤j→j<k'→nb i=nb j→i=j)∧
  (∀i j,lo≤i→i<k'→lo≤j→j<k'→i≠j→∀b,(v i).ownBlock=some b→(v j).ownBlock≠some b)∧
  (∀i,lo≤i→i<k'→w.ownsRow B 119 3 (v i) (ts.getD i default).attrs.length (attrCells (ts.getD i default).attrs)):=by
 refine⟨fun i a b=>?_,fun i j a b c d e=>?_,fun i j a b c d e x hx=>?_,fun i a b=>?_⟩
 ·by_cases h:i<k
  ·exact h1.base i a h
  ·have :=hF.base i (by omega) b;omega
 ·by_cases h:i<k <;> by_cases h':j<k
  ·exact h1.inj i j a h c h' e
  ·have :=ha.node i a h;have :=hF.base j (by omega) d;omega
  ·have :=ha.node j c h';have :=hF.base i (by omega) b;omega
  ·exact hF.inj i j (by omega) b (by omega) d e
 ·by_cases h:i<k <;> by_cases h':j<k
  ·exact h1.sep i j a h c h' e x hx
  ·have h3:=ha.own i a h x hx
   intro hj
   have :=(World.ownsRow.lt (hF.own j (by omega) d) x hj).1
   omega
  ·intro hj
   have h3:=ha.own j c h' x hj
   have :=(World.ownsRow.lt (hF.own i (by omega) b) x hx).1
   omega
  ·exact hF.sep i j (by omega) b (by omega) d e x hx
 ·by_cases h:i<k
  ·exact h1.own i a h
  ·exact ownsRow_base (hF.own i (by omega) b) hB
theorem seg_join0(J:Join E1 F E2 lo k k')(hk:k=lo+1)(h1:Seg w E1 lo k nb v ts B)(hF:Seg w F k k' nb v ts B')(hB:B≤B')(ha:Ahead w lo k nb v B'):
  Seg (World.putN (World.putN w (nb lo) {nodeR E1 lo nb (ts.getD lo default) (v lo) lo with fst:=some (nb k),lst:=some (nb k)}) (nb k) {nodeR F k nb (ts.getD k default) (v k) k with par:=some (nb lo)}) E2 lo k' nb v ts B:=by
 obtain⟨p1,p2,p3,p4⟩:=seg_join_props J h1 hF hB ha
 have hl:=J.p1.lt
 have hk':=J.pF.lt
 have nlo:=h1.node lo (Nat.le_refl _) hl
 have nk:=hF.node k (Nat.le_refl _) hk'
 have hne:nb k≠nb lo:=fun e=>by have :=p2 k lo (by omega) hk' (Nat.le_refl _) (by omega) e;omega
 refine⟨fun i a b=>?_,fun i a b=>?_,p1,p2,p3⟩
 ·by_cases e:i=k
  ·subst e
   rw [J.node_k0 nb _ _ hk]
   exact(nk.other _ hne).put _
  ·have hik:nb i≠nb k:=fun e'=>e (p2 i k a b (by omega) hk' e')
   by_cases e2:i=lo
   ·subst e2
    rw [J.node_lo0 nb _ _ hk]
    exact(nlo.put _).other _ hik
   ·have hil:nb i≠nb lo:=fun e'=>e2 (p2 i lo a b (Nat.le_refl _) (by omega) e')
    rw [J.node_b nb _ _ (by omega) b]
    exact((hF.node i (by omega) b).other _ hil).other _ hik
 ·exact ownsRow_putN (nk.other _ hne) (ownsRow_putN nlo (p4 i a b))
theorem seg_join(J:Join E1 F E2 lo k k'){l:Nat}(hl:lstK E1 lo lo=some l)(h1:Seg w E1 lo k nb v ts B)(hF:Seg w F k k' nb v ts B')(hB:B≤B')(ha:Ahead w lo k nb v B'):
  Seg (World.putN (World.putN (World.putN w (nb l) {nodeR E1 lo nb (ts.getD l default) (v l) l with nxt:=some (nb k)}) (nb lo) {nodeR E1 lo nb (ts.getD lo default) (v lo) lo with lst:=some (nb k)})
   (nb k) {nodeR F k nb (ts.getD k default) (v k) k with par:=some (nb lo),prv:=some (nb l)}) E2 lo k' nb v ts B:=by
 obtain⟨p1,p2,p3,p4⟩:=seg_join_props J h1 hF hB ha
 obtain⟨la,lb,lc,ld⟩:=J.p1.lst_end (Nat.le_refl _) J.p1.lt hl
 rw [J.p1.root]at lb ld
 have hk':=J.pF.lt
 have hlo:lo+1<k:=by omega
 have nlo:=h1.node lo (Nat.le_refl _) (by omega)
 have nl:=h1.node l (by omega) lb
 have nk:=hF.node k (Nat.le_refl _) hk'
 have h1ne:nb k≠nb lo:=fun e=>by have :=p2 k lo (by omega) hk' (Nat.le_refl _) (by omega) e;omega
 have h2ne:nb lo≠nb l:=fun e=>by have :=p2 lo l (Nat.le_refl _) (by omega) (by omega) (by omega) e;omega
 have h3ne:nb k≠nb l:=fun e=>by have :=p2 k l (by omega) hk' (by omega) (by omega) e;omega
 refine⟨fun i a b=>?_,fun i a b=>?_,p1,p2,p3⟩
 ·by_cases e:i=k
  ·subst e
   rw [J.node_k nb _ _ hl]
   exact((nk.other _ h3ne).other _ h1ne).put _
  ·have hik:nb i≠nb k:=fun e'=>e (p2 i k a b (by omega) hk' e')
   by_cases e2:i=lo
   ·subst e2
    rw [J.node_lo nb _ _ hlo]
    exact((nlo.other _ h2ne).put _).other _ hik
   ·have hil:nb i≠nb lo:=fun e'=>e2 (p2 i lo a b (Nat.le_refl _) (by omega) e')
    by_cases e3:i=l
    ·subst e3
     rw [J.node_l nb _ _ hl]
     exact((nl.put _).other _ hil).other _ hik
    ·have hill:nb i≠nb l:=fun e'=>e3 (p2 i l a b (by omega) (by omega) e')
     by_cases e4:i<k
     ·rw [J.node_a nb _ _ (by omega) e4 (fun e'=>by rw [hl]at e';simp at e';exact e3 e'.symm)]
      exact(((h1.node i a e4).other _ hill).other _ hil).other _ hik
     ·rw [J.node_b nb _ _ (by omega) b]
      exact(((hF.node i (by omega) b).other _ hill).other _ hil).other _ hik
 ·exact ownsRow_putN ((nk.other _ h3ne).other _ h1ne) (ownsRow_putN (nlo.other _ h2ne) (ownsRow_putN nl (p4 i a b)))
end
end Go.Proofs.YtkdomegcacgpnaaGreat
