/- Parts of a proof: KvAttr, Without, GetPtr, Reattr. -/
import Derived.Test.YtkdomegcacgpnaaGreatG10
import Derived.Test.YtkdomegcacgpnaaGreatG27
import Derived.Test.YtkdomegcacgpnaaGreatG08
import Derived.Test.YtkdomegcacgpnaaGreatG09
import Derived.Test.YtkdomegcacgpnaaGreatG04
set_option linter.unusedVariables false
set_option linter.unusedSimpArgs false
namespace Go.Proofs.YtkdomegcacgpnaaGreat
open Go.RowKit
def AttrIs(l:KVs)(key:ByteArray)(w:World)(e:Ending)(w':World):Prop:=e=.returned (.tuple #[.string ((lookKV l key).getD ByteArray.empty),.bool (lookKV l key).isSome])∧Hid (Below w.heap.size w w')
set_option maxRecDepth 100000 in
set_option maxHeartbeats 1000000 in
theorem attrIs_any(k z:Int)(tag text:ByteArray)(aa:Option Addr)(al ac:Nat)(l:KVs)(key:ByteArray)(w:World)(h:AttrsAt w aa al l):
  Calls Tryz.prog 10 #[.agg #[.int .i64 k,.string tag,.string text,.slice aa al ac,.int .i64 z],.string key] w (AttrIs l key w):=by
 have hm:=h.2.1
 unfold maxLen at hm
 have hll:=h.1
 have hb0:Below w.heap.size w (w.alloc (.cells #[.int .i64 k,.string tag,.string text,.slice aa al ac,.int .i64 z] 38)):=(Below.refl _ _).alloc (Nat.le_refl _) _
 have cb:(w.alloc (.cells #[.int .i64 k,.string tag,.string text,.slice aa al ac,.int .i64 z] 38)).cell? ⟨w.heap.size,3,none⟩=some (.slice aa al ac):=cell_alloc_new' _ _ _ rfl rfl
 have h0:=h.below hb0
 have HA:=Lib.hid h0
 have HB:=Lib.hid hb0
 clear h hb0 h0
 subst hll
 go_enter Tryz.func10,Tryz.ntmps10
 go_wp2
 go_loop [6] (fun i=>∃n:Nat,n≤l.length∧i=.int .i64 (n:Int)∧NoneBefore l key n) (fun i=>l.length-(intOf i).toNat)
 case atStart=>exact⟨0,by omega,by go_num,fun j hj=>by omega⟩
 case round=>
  obtain⟨n,hn,rfl,hno⟩:=hrel
  have HNO:=Lib.hid hno
  clear hno
  by_cases hlt:n<l.length
  ·obtain⟨_,_,_,hcc⟩:=HA.out
   obtain⟨b,off,rfl,hc⟩:=hcc (by omega)
   obtain⟨c1,c2⟩:=hc n hlt
   have hnI:(n:Int)<(l.length:Int):=by omega
   obtain⟨x,hx⟩:∃x,(l.getD n default).1=x:=⟨_,rfl⟩
   obtain⟨y,hy⟩:∃y,(l.getD n default).2=y:=⟨_,rfl⟩
   rw [hx]at c1
   rw [hy]at c2
   have HX:=Lib.hid (And.intro hx hy)
   clear hx hy hcc hc
   cases hke:(x.toList==key.toList)
   ·have HN2:=Lib.hid (HNO.out.succ HX.out.1 hke)
    go_wp2
    go_round
    case rel=>exact⟨n+1,by omega,by go_num,HN2.out⟩
    case measure=>simp [intOf];omega
   ·have hfin:lookKV l key=some y:=by rw [←HX.out.2];exact look_at hlt HNO.out (by rw [HX.out.1];exact hke)
    have HFIN:=Lib.hid hfin
    clear hfin
    go_wp2
    go_ret2
    exact⟨by rw [HFIN.out];rfl,HB⟩
  ·obtain rfl:n=l.length:=by omega
   have HFIN:=Lib.hid (look_none HNO.out)
   go_wp2
   go_ret2
   exact⟨by rw [HFIN.out];rfl,HB⟩
theorem kvCells_set:∀(l:KVs) (k:Nat) (v:ByteArray),k<l.length→(kvCells l).set (k*2+1) (.string v)=kvCells (l.set k ((l.getD k default).1,v)):=by
 intro l
 induction l with
 | nil=>intro k v h;simp at h
 | cons x r ih=>
  intro k v h
  have hc:∀(y:ByteArray×ByteArray) (q:KVs),kvCells (y::q)=.string y.1::.string y.2::kvCells q:=fun y q=>by simp [kvCells]
  cases k with
  | zero=>rw [hc];simp [hc]
  | succ k=>
   have hk:k<r.length:=by simpa using h
   rw [hc,show(k+1)*2+1=(k*2+1)+1+1 by omega,List.set_cons_succ,List.set_cons_succ,ih k v hk,List.set_cons_succ,hc]
   simp
def WithPost(l:KVs)(w:World)(e:Ending)(w':World):Prop:=∃pv,e=.returned pv∧Hid (OwnKV w' w.heap.size pv l)∧Hid (Below w.heap.size w w')
set_option maxRecDepth 100000 in
set_option maxHeartbeats 2000000 in
theorem withAttr_any(aa:Option Addr)(al ac:Nat)(l:KVs)(key val:ByteArray)(w:World)(h:AttrsAt w aa al l)(hal:al≤1000):
  Calls Tryz.prog 112 #[.slice aa al ac,.string key,.string val] w (WithPost (setKV l key val) w):=by
 obtain⟨i0,hi,hz0,hz1,hz2⟩:=info_parts Tryz.infoKV
 have hll:=h.1
 have hE:(w.alloc (.cells #[] 61)).ownsRow w.heap.size 61 2 (.slice (some ⟨w.heap.size,0,none⟩) 0 0) 0 []:=owns_empty2 w w.heap.size (Nat.le_refl _) 61
 have hb0:Below w.heap.size w (w.alloc (.cells #[] 61)):=(Below.refl _ _).alloc (Nat.le_refl _) _
 have hAT:=h.below hb0
 have HE:=Lib.hid hE
 have HAT:=Lib.hid hAT
 have HB0:=Lib.hid hb0
 clear hE hAT hb0 h
 subst hll
 go_enter Tryz.func112,Tryz.ntmps112
 go_wp2_with (at_builtin;refine wpList_append_kv rfl _ _ 36 rfl w.heap.size 61 i0 (.agg #[.string ByteArray.empty,.string ByteArray.empty]) 32 Tryz.underlying36 hi hz0 hz1 hz2 rfl (some ⟨w.heap.size,0,none⟩) 0 0 [] rfl HE.out aa l.length ac l rfl HAT.out (by unfold maxLen;omega) (by omega) (by simp) ?_)
 intro b2 c2 w3 hown3 hgrow3
 have hs3:=hgrow3.size
 simp only [World.size_alloc]at hs3
 have HB3:Hid (Below w.heap.size w w3):=Lib.hid (HB0.out.grown hgrow3 (by simp) (fun q hq=>by simp [Value.ownBlock]at hq;omega))
 have HO3:Hid (w3.ownsRow w.heap.size 61 2 (.slice b2 l.length c2) l.length (kvCells l)):=Lib.hid (by simpa using hown3)
 clear hown3 hgrow3
 go_wp2
 go_loop [8] (fun i=>∃n:Nat,n≤l.length∧i=.int .i64 (n:Int)∧NoneBefore l key n) (fun i=>l.length-(intOf i).toNat)
 case atStart=>exact⟨0,by omega,by go_num,fun j hj=>by omega⟩
 case round=>
  obtain⟨n,hn,rfl,hno⟩:=hrel
  have HNO:=Lib.hid hno
  clear hno
  by_cases hlt:n<l.length
  ·obtain⟨g,rfl⟩:∃g,b2=some ⟨g,0,none⟩:=by
    rcases HO3.out.2 with ⟨_,h2⟩ | ⟨g0,c0_,cur,hv,_⟩
    ·omega
    ·simp at hv;exact⟨g0,hv.1⟩
   obtain⟨k1,k2⟩:=kvCells_get l n hlt
   have hadd:∀j,(⟨g,0,none⟩:Addr).add j=⟨g,j,none⟩:=fun j=>by unfold Addr.add;split <;> simp_all
   have c1:=World.ownsRow.cells (h:=HO3.out) (g:=g) rfl _ _ k1
   have c2':=World.ownsRow.cells (h:=HO3.out) (g:=g) rfl _ _ k2
   rw [hadd]at c1 c2'
   have cf:=own_free HO3.out (n*2+1)
   have hnI:(n:Int)<(l.length:Int):=by omega
   obtain⟨x,hx⟩:∃x,(l.getD n default).1=x:=⟨_,rfl⟩
   rw [hx]at c1
   have HX:=Lib.hid hx
   obtain⟨y,hy⟩:∃y,(l.getD n default).2=y:=⟨_,rfl⟩
   rw [hy]at c2'
   clear hx hy k1 k2 hadd
   cases hke:(x.toList==key.toList)
   ·have HN2:=Lib.hid (HNO.out.succ HX.out hke)
    go_wp2
    go_round
    case rel=>exact⟨n+1,by omega,by go_num,HN2.out⟩
    case measure=>simp [intOf];omega
   ·have hset:=ownsRow_set HO3.out (i:=n*2+1) (by omega) (.string val)
    rw [kvCells_set l n val hlt,←set_at val hlt HNO.out (by rw [HX.out];exact hke)]at hset
    have hlen:(setKV l key val).length=l.length:=by rw [set_at val hlt HNO.out (by rw [HX.out];exact hke),List.length_set]
    have HSET:Hid (OwnKV (w3.setCell ⟨g,n*2+1,none⟩ (.string val)) w.heap.size (.slice (some ⟨g,0,none⟩) l.length c2) (setKV l key val)):=Lib.hid (by unfold OwnKV;rw [hlen];exact hset)
    have HBS:Hid (Below w.heap.size w (w3.setCell ⟨g,n*2+1,none⟩ (.string val))):=Lib.hid (Below.setCell (p:=⟨g,n*2+1,none⟩) HB3.out (World.ownsRow.lt HO3.out g rfl).1 _)
    clear hset hlen
    go_wp2
    go_ret
    exact⟨_,rfl,HSET,HBS⟩
  ·obtain rfl:n=l.length:=by omega
   have hown:=World.ownsRow.alloc HO3.out (.cells #[.string key,.string val] 61)
   have hnews:∀j u,[Value.string key,.string val][j]? =some u→(w3.alloc (.cells #[.string key,.string val] 61)).cell? ((⟨w3.heap.size,0,none⟩:Addr).add j)=some u:=
    World.news_of_block (cs:= #[.string key,.string val]) (t:=61) (fr:=(0,0)) (heap_alloc_new w3 _)
   have HW:=Lib.hid hown
   have HNEWS:=Lib.hid hnews
   have HSN:=Lib.hid (set_none val HNO.out)
   clear hown hnews
   go_wp2_with (at_builtin;refine wpList_append_lies _ rfl _ _ 36 rfl w.heap.size 61 i0 (.agg #[.string ByteArray.empty,.string ByteArray.empty]) 2 32 Tryz.underlying36 hi hz0 hz1 hz2 rfl (by decide) (.slice b2 l.length c2) l.length (kvCells l) rfl HW.out ⟨w3.heap.size,0,none⟩ 1 1 [.string key,.string val] rfl rfl HNEWS.out (by simp [Value.oneCell']) (by omega) (by unfold maxLen;omega) (by omega) (by simp;omega) _ rfl ?_)
   intro g6 cap6 w6 hown6 hgrow6 hat6 hlt6
   have HB6:Hid (Below w.heap.size w w6):=Lib.hid ((HB3.out.alloc (by omega) _).grown hgrow6 (by simp;omega) (fun q hq=>(World.ownsRow.lt HW.out q hq).1))
   have HO6:Hid (OwnKV w6 w.heap.size (.slice (some ⟨g6,0,none⟩) (l.length+1) cap6) (setKV l key val)):=Lib.hid (by
    unfold OwnKV
    rw [HSN.out,kvCells_snoc]
    simpa using hown6)
   clear hown6 hgrow6 hat6 hlt6
   go_wp2
   go_ret
   exact⟨_,rfl,HO6,HB6⟩
def remKV(l:KVs)(key:ByteArray):KVs:=l.filter fun x=>x.1.toList !=key.toList
theorem rem_step{l:KVs}{key x y:ByteArray}{k:Nat}(hk:k<l.length)(hx:(l.getD k default).1=x)(hy:(l.getD k default).2=y):remKV (l.take (k+1)) key=if(x.toList !=key.toList)=true then remKV (l.take k) key++[(x,y)]else remKV (l.take k) key:=by
 have e:l.take (k+1)=l.take k++[(x,y)]:=by
  rw [List.take_add_one,List.getElem?_eq_getElem hk]
  rw [List.getD_eq_getElem?_getD,List.getElem?_eq_getElem hk]at hx hy
  have :l[k]=(x,y):=Prod.ext hx hy
  rw [this]
  rfl
 rw [e]
 unfold remKV
 rw [List.filter_append]
 cases hq:(x.toList !=key.toList) <;> simp [hq]
theorem rem_len(l:KVs)(key:ByteArray):(remKV l key).length≤l.length:=List.length_filter_le _ _
set_option maxRecDepth 100000 in
set_option maxHeartbeats 2000000 in
theorem withoutAttr_any(aa:Option Addr)(al ac:Nat)(l:KVs)(key:ByteArray)(w:World)(h:AttrsAt w aa al l)(hal:al≤1000):
  Calls Tryz.prog 113 #[.slice aa al ac,.string key] w (WithPost (remKV l key) w):=by
 obtain⟨i0,hi,hz0,hz1,hz2⟩:=info_parts Tryz.infoKV
 have hll:=h.1
 have HAT:=Lib.hid h
 clear h
 subst hll
 go_enter Tryz.func113,Tryz.ntmps113
 go_wp2
 go_loopw [5,6] (fun pv iv wr=>∃k:Nat,k≤l.length∧iv=.int .i64 (k:Int)∧Hid (OwnKV wr w.heap.size pv (remKV (l.take k) key))∧Hid (Below w.heap.size w wr)) (fun _ iv _=>l.length-(intOf iv).toNat)
 case atStart=>exact⟨0,by omega,by go_num,Lib.hid (World.ownsRow_nil _ _ _ _),Lib.hid (Below.refl _ _)⟩
 case round=>
  obtain⟨k,hk,rfl,HO,HB⟩:=hrel
  by_cases hlt:k<l.length
  ·obtain⟨_,_,_,hcc⟩:=HAT.out
   obtain⟨b,off,rfl,hc⟩:=hcc (by omega)
   obtain⟨c1,c2⟩:=hc k hlt
   have c1:=cell_below HB.out c1
   have c2:=cell_below HB.out c2
   obtain⟨x,hx⟩:∃x,(l.getD k default).1=x:=⟨_,rfl⟩
   obtain⟨y,hy⟩:∃y,(l.getD k default).2=y:=⟨_,rfl⟩
   have hst:=rem_step (key:=key) hlt hx hy
   rw [hx]at c1
   rw [hy]at c2
   have hkI:(k:Int)<(l.length:Int):=by omega
   have hm:(remKV (l.take k) key).length≤1000:=Nat.le_trans (rem_len _ _) (by simp;omega)
   have HST:=Lib.hid hst
   obtain⟨pa,pc,rfl⟩:=ownsRow_slice HO.out
   obtain⟨M,hM⟩:∃M,(remKV (l.take k) key).length=M:=⟨_,rfl⟩
   have HM:=Lib.hid hM
   rw [hM]at hm ⊢
   clear hx hy hcc hc hst hM
   cases hq:(x.toList==key.toList)
   ·have hke:(x.toList !=key.toList)=true:=by simp [bne,hq]
    have hbs:=HB.out.size
    have hown0:wr.ownsRow w.heap.size 61 2 (.slice pa M pc) M (kvCells (remKV (l.take k) key)):=by
     have h1:=HO.out
     unfold OwnKV at h1
     rw [HM.out]at h1
     exact h1
    have hown:=World.ownsRow.alloc hown0 (.cells #[.string x,.string y] 61)
    have hnews:∀j u,[Value.string x,.string y][j]? =some u→(wr.alloc (.cells #[.string x,.string y] 61)).cell? ((⟨wr.heap.size,0,none⟩:Addr).add j)=some u:=
     World.news_of_block (cs:= #[.string x,.string y]) (t:=61) (fr:=(0,0)) (heap_alloc_new wr _)
    have HW:=Lib.hid hown
    have HNEWS:=Lib.hid hnews
    clear hown hown0 hnews HO
    go_wp2_with (at_builtin;refine wpList_append_lies _ rfl _ _ 36 rfl w.heap.size 61 i0 (.agg #[.string ByteArray.empty,.string ByteArray.empty]) 2 32 Tryz.underlying36 hi hz0 hz1 hz2 rfl (by decide) (.slice pa M pc) M (kvCells (remKV (l.take k) key)) rfl HW.out ⟨wr.heap.size,0,none⟩ 1 1 [.string x,.string y] rfl rfl HNEWS.out (by simp [Value.oneCell']) (by omega) (by unfold maxLen;omega) (by omega) (by simp;omega) _ rfl ?_)
    intro g6 cap6 w6 hown6 hgrow6 hat6 hlt6
    have HB6:Hid (Below w.heap.size w w6):=Lib.hid ((HB.out.alloc hbs _).grown hgrow6 (by simp;omega) (fun q hq=>(World.ownsRow.lt HW.out q hq).1))
    have HO6:Hid (OwnKV w6 w.heap.size (.slice (some ⟨g6,0,none⟩) (M+1) cap6) (remKV (l.take (k+1)) key)):=Lib.hid (by
     unfold OwnKV
     rw [HST.out,hke,if_pos rfl,kvCells_snoc,List.length_append,HM.out]
     simpa using hown6)
    clear hown6 hgrow6 hat6 hlt6
    go_wp2
    refine⟨?rel,?measure⟩
    case rel=>exact⟨k+1,by omega,by go_num,HO6,HB6⟩
    case measure=>simp [intOf];omega
   ·have hke:(x.toList !=key.toList)=false:=by simp [bne,hq]
    have HN2:=Lib.hid (show OwnKV wr w.heap.size (.slice pa M pc) (remKV (l.take (k+1)) key) by rw [HST.out,hke,if_neg (by simp),←HM.out];exact HO.out)
    go_wp2
    refine⟨?rel,?measure⟩
    case rel=>exact⟨k+1,by omega,by go_num,HN2,HB⟩
    case measure=>simp [intOf];omega
  ·obtain rfl:k=l.length:=by omega
   have h1:=HO.out
   rw [List.take_length]at h1
   have H1:=Lib.hid h1
   clear h1
   go_wp2
   go_ret
   exact⟨_,rfl,H1,HB⟩
theorem attrCells_set:∀(l:KVs) (k:Nat) (y:ByteArray),k<l.length→(attrCells l).set (k*3+2) (.string y)=attrCells (l.set k ((l.getD k default).1,y)):=by
 intro l
 induction l with
 | nil=>intro k y h;simp at h
 | cons x l ih=>
  intro k y h
  have hc:∀z (r:KVs),attrCells (z::r)=[.string ByteArray.empty,.string z.1,.string z.2]++attrCells r:=fun z r=>by simp [attrCells]
  cases k with
  | zero=>simp [hc]
  | succ k=>
   have h':k<l.length:=by simpa using h
   rw [hc,List.set_cons_succ,hc]
   rw [show(k+1)*3+2=(k*3+2)+3 by omega]
   simp only [List.cons_append,List.nil_append,List.set_cons_succ,ih k y h',List.getD_cons_succ]
theorem nodeAt_below{w w':World}{b:Nat}{r:NRec}(h:World.nodeAt w b r)(hb:Below w.heap.size w w'):World.nodeAt w' b r:=by
 have hl:=h.lt
 unfold World.nodeAt at h ⊢
 rw [hb.block b hl]
 exact h
def GapPost(g:Nat)(l:KVs)(key:ByteArray)(w:World)(e:Ending)(w':World):Prop:=
 ((e=.returned (.pointer none)∧NoneBefore l key l.length)∨∃k,k<l.length∧e=.returned (.pointer (some ⟨g,k*3,none⟩))∧NoneBefore l key k∧((l.getD k default).1.toList==key.toList)=true)∧Hid (Below w.heap.size w w')
set_option maxRecDepth 100000 in
set_option maxHeartbeats 2000000 in
theorem getPtr_any(n g cap:Nat)(a:Option Addr)(r:NRec)(l:KVs)(key:ByteArray)(w:World)(hn:World.nodeAt w n r)(hv:r.attr=.slice a l.length cap)(hm:l.length≤9223372036854775807)(ha:0<l.length→a=some ⟨g,0,none⟩)
  (hc:∀i,i<l.length→w.cell? ⟨g,i*3,none⟩=some (.string ByteArray.empty)∧w.cell? ⟨g,i*3+1,none⟩=some (.string (l.getD i default).1)∧w.cell? ⟨g,i*3+2,none⟩=some (.string (l.getD i default).2)):
  Calls Tryz.prog 71 #[.string key,.pointer (some ⟨n,0,none⟩)] w (GapPost g l key w):=by
 have k9:=hn.attr
 rw [hv]at k9
 have HA:=Lib.hid ha
 have HC:=Lib.hid hc
 clear hn hv ha hc
 go_enter Tryz.func71,Tryz.ntmps71
 go_wp2
 go_loopw [14] (fun i wr=>∃k:Nat,k≤l.length∧i=.int .i64 (k:Int)∧NoneBefore l key k∧Below w.heap.size w wr) (fun i _=>l.length-(intOf i).toNat)
 case atStart=>exact⟨0,by omega,by go_num,fun j hj=>by omega,Below.refl _ _⟩
 case round=>
  obtain⟨k,hk,rfl,hno,hbel⟩:=hrel
  have HBEL:=Lib.hid hbel
  have HNO:=Lib.hid hno
  clear hbel hno
  by_cases hlt:k<l.length
  ·obtain rfl:=HA.out (by omega)
   obtain⟨c0,c1,c2⟩:=HC.out k hlt
   have c0:=cell_below HBEL.out c0
   have c1:=cell_below HBEL.out c1
   have c2:=cell_below HBEL.out c2
   have c9:=cell_below HBEL.out k9
   obtain⟨x,hxx⟩:∃x,(l.getD k default).1=x:=⟨_,rfl⟩
   obtain⟨y,hyy⟩:∃y,(l.getD k default).2=y:=⟨_,rfl⟩
   rw [hxx]at c1
   rw [hyy]at c2
   have hbo:∀o,Below w.heap.size w (wr.alloc o):=fun o=>HBEL.out.alloc HBEL.out.size o
   have HBO:=Lib.hid hbo
   have HX:=Lib.hid hxx
   have hkI:(k:Int)<(l.length:Int):=by omega
   clear hxx hyy hbo
   cases hke:(x.toList==key.toList)
   ·have HKE:=Lib.hid (HNO.out.succ HX.out hke)
    go_wp2
    go_roundw
    case rel=>exact⟨k+1,by omega,by go_num,HKE.out,HBO.out _⟩
    case measure=>simp [intOf];omega
   ·have hke2:((l.getD k default).1.toList==key.toList)=true:=by rw [HX.out];exact hke
    have HKE:=Lib.hid hke2
    have c9a:=cell_alloc_old c9 (.cells #[.string ByteArray.empty,.string x,.string y] 119)
    clear hke2
    go_wp2
    go_ret
    exact⟨.inr ⟨k,hlt,by simp [Addr.add],HNO.out,HKE.out⟩,Lib.hid (HBO.out _)⟩
  ·obtain rfl:k=l.length:=by omega
   go_wp2
   go_ret
   exact⟨.inl ⟨rfl,HNO.out⟩,HBEL⟩
structure Reattr (B g:Nat) (r:NRec) (w w':World) (v1:Value) (A:KVs):Prop where
 node:World.nodeAt w' g {r with attr:=v1}
 own:w'.ownsRow B 119 3 v1 A.length (attrCells A)
 keep:∀k,k<w.heap.size→k≠g→r.attr.ownBlock≠some k→w'.heap[k]? =w.heap[k]?
 size:w.heap.size≤w'.heap.size
 bel:∀B',B'≤B→B'≤g→Below B' w w'
 at_:∀b,v1.ownBlock=some b→r.attr.ownBlock=some b∨w.heap.size≤b
theorem Reattr.refl{B g:Nat}{r:NRec}{w:World}{l:KVs}(hn:World.nodeAt w g r)(ho:w.ownsRow B 119 3 r.attr l.length (attrCells l)):Reattr B g r w w r.attr l:=
 ⟨hn,ho,fun _ _ _ _=>rfl,Nat.le_refl _,fun _ _ _=>Below.refl _ _,fun b h=>.inl h⟩
theorem Reattr.below{B g:Nat}{r:NRec}{w w1 w2:World}{v1:Value}{A:KVs}(h:Reattr B g r w w1 v1 A)(hb:Below w1.heap.size w1 w2):Reattr B g r w w2 v1 A:=
 ⟨nodeAt_below h.node hb,ownsRow_kept h.own (fun k hk=>hb.block k (World.ownsRow.lt h.own k hk).2),fun k hk h1 h2=>(hb.block k (Nat.lt_of_lt_of_le hk h.size)).trans (h.keep k hk h1 h2),Nat.le_trans h.size hb.size,
  fun B' h1 h2=>(h.bel B' h1 h2).trans (hb.mono (by have :=h.node.lt;omega)),h.at_⟩
theorem Reattr.trans{B g:Nat}{r:NRec}{w w1 w2:World}{v1 v2:Value}{A A2:KVs}(h:Reattr B g r w w1 v1 A)(h2:Reattr B g {r with attr:=v1} w1 w2 v2 A2):Reattr B g r w w2 v2 A2:=by
 refine⟨h2.node,h2.own,fun k hk h3 h4=>?_,Nat.le_trans h.size h2.size,fun B' h3 h4=>(h.bel B' h3 h4).trans (h2.bel B' h3 h4),fun b hb=>?_⟩
 ·rw [h2.keep k (Nat.lt_of_lt_of_le hk h.size) h3 (fun e=>?_)]
  ·exact h.keep k hk h3 h4
  ·rcases h.at_ k e with h5 | h5
   ·exact h4 h5
   ·omega
 ·rcases h2.at_ b hb with h5 | h5
  ·exact h.at_ b h5
  ·exact .inr (Nat.le_trans h.size h5)
theorem Reattr.ahead{B g:Nat}{r:NRec}{w w1 w2:World}{v1:Value}{A:KVs}(hb:Below w.heap.size w w1)(hg:g<w.heap.size)(hB:B≤w.heap.size)(h:Reattr B g r w1 w2 v1 A):Reattr B g r w w2 v1 A:=
 ⟨h.node,h.own,fun k hk h1 h2=>(h.keep k (Nat.lt_of_lt_of_le hk hb.size) h1 h2).trans (hb.block k hk),Nat.le_trans hb.size h.size,fun B' h1 h2=>(hb.mono (by omega)).trans (h.bel B' h1 h2),fun b h1=>(h.at_ b h1).imp id (fun h2=>Nat.le_trans hb.size h2)⟩
theorem UnattrK.re{K:List UInt8}{B g:Nat}{r:NRec}{l:KVs}{w w':World}{v1:Value}{A:KVs}(h:UnattrK K B g r l w w' v1 A):Reattr B g r w w' v1 A:=
 ⟨h.node,h.own,fun k hk h1 h2=>h.keep k hk h1 (fun _=>h2),h.size,h.bel,fun b hb=>.inl (by rw [←h.same];exact hb)⟩
theorem reattr_app{B g g2 n cap2:Nat}{r:NRec}{w w2:World}{l A:KVs}(hn:World.nodeAt w g r)(ho:w.ownsRow B 119 3 r.attr l.length (attrCells l))(hgrow:w.grownBy w2 r.attr.ownBlock)
  (hA:A.length=n) (hown:w2.ownsRow B 119 3 (.slice (some ⟨g2,0,none⟩) n cap2) n (attrCells A)) (hat:r.attr.ownBlock=some g2∨g2=w.heap.size):
  Reattr B g r w (w2.setCell ⟨g,9,none⟩ (.slice (some ⟨g2,0,none⟩) n cap2)) (.slice (some ⟨g2,0,none⟩) n cap2) A:=by
 have hne:r.attr.ownBlock≠some g:=node_ne_own hn ho
 have hlt:=hn.lt
 have hn2:World.nodeAt w2 g r:=by
  unfold World.nodeAt at hn ⊢
  rw [hgrow.block g hlt (fun e=>hne e.symm)]
  exact hn
 have hs:=setCell_attr hn2 (.slice (some ⟨g2,0,none⟩) n cap2)
 have hne2:Value.ownBlock (.slice (some ⟨g2,0,none⟩) n cap2)≠some g:=node_ne_own hn2 hown
 subst hA
 refine⟨by rw [hs];exact hn2.put _,?_,fun k hk h1 h2=>?_,?_,fun B' h1 h2=>?_,fun b hb=>?_⟩
 ·exact ownsRow_kept hown (fun q hq=>by rw [heap_setCell_other _ _ _ _ (fun e=>hne2 (by rw [hq];exact congrArg some e))])
 ·rw [heap_setCell_other _ _ _ _ h1]
  exact hgrow.block k hk (fun e=>h2 e.symm)
 ·simpa using hgrow.size
 ·refine Below.setCell ?_ (by simpa using h2) _
  exact(Below.refl _ w).grown hgrow (by omega) (fun q hq=>Nat.le_trans h1 (World.ownsRow.lt ho q hq).1)
 ·have e:g2=b:=by
   simp only [Value.ownBlock]at hb
   first | exact Option.some.inj hb | (rw [if_pos rfl]at hb;exact Option.some.inj hb) | simpa using hb
  subst e
  rcases hat with h | h
  ·exact .inl h
  ·exact .inr (by omega)
end Go.Proofs.YtkdomegcacgpnaaGreat
