/- Parts of a proof: ClsDom, ClassesS, UWordsBig, UWordIn. -/
import Derived.Test.YtkdomegcacgpnaaGreatG31
import Derived.Test.YtkdomegcacgpnaaGreatG17
import Derived.Test.YtkdomegcacgpnaaGreatG29
set_option linter.unusedVariables false
set_option linter.unusedSimpArgs false
namespace Go.Proofs.YtkdomegcacgpnaaGreat
open Go.RowKit
def Wc(l:KVs):Wds:=wl (ClsVal l).data.toList
def togW(W N:Wds):Wds:=lessW W N++N.filter fun x=>decide (x∉W)
theorem lessW_nil(W:Wds):lessW W []=W:=List.filter_eq_self.2 (fun x _=>by simp)
theorem togW_nil(W:Wds):togW W []=W:=by simp [togW,lessW_nil]
theorem moreW_nil(W:Wds):moreW W []=W:=by simp [moreW]
theorem tog_mem{W N:Wds}{w:List UInt8}(hw:w∉N):w∈togW W N↔w∈W:=by
 unfold togW lessW
 simp [hw]
theorem tog_nodup{W N:Wds}(h:W.Nodup)(hn:N.Nodup):(togW W N).Nodup:=by
 unfold togW
 rw [List.nodup_append]
 refine⟨less_nodup N h,List.Nodup.sublist List.filter_sublist hn,fun a ha b hb=>?_⟩
 rintro rfl
 unfold lessW at ha
 simp at ha hb
 exact hb.2 ha.1
theorem tog_snoc{W N:Wds}{w:List UInt8}(hw:w∉N):(w∈W→(togW W N).filter (fun x=>x !=w)=togW W (N++[w]))∧(w∉W→togW W N++[w]=togW W (N++[w])):=by
 constructor
 ·intro h
  unfold togW
  rw [List.filter_append,less_snoc,List.filter_append (p:=fun x=>decide (x∉W))]
  have h1:([w].filter fun x=>decide (x∉W))=[]:=by simp [h]
  have h2:(N.filter fun x=>decide (x∉W)).filter (fun x=>x !=w)=N.filter fun x=>decide (x∉W):=List.filter_eq_self.2 fun x hx=>by
   simp
   rintro rfl
   exact hw (List.mem_filter.1 hx).1
  rw [h1,h2,List.append_nil]
 ·intro h
  unfold togW
  have h1:lessW W (N++[w])=lessW W N:=by
   rw [←less_snoc]
   refine List.filter_eq_self.2 fun x hx=>?_
   simp
   rintro rfl
   unfold lessW at hx
   exact h (List.mem_filter.1 hx).1
  have h2:([w].filter fun x=>decide (x∉W))=[w]:=by simp [h]
  rw [h1,List.filter_append,h2,List.append_assoc]
def LabC(op:Wds→Wds→Wds)(N:Wds)(m s:Nat)(lab lab':Nat→NodeD)(done:List Nat):Prop:=
 ∀i,(i∉done→lab' i=lab i)∧(i∈done→∃A,lab' i={lab i with attrs:=A}∧GoodC A (op (Wc (lab i).attrs) N) m s∧NearC (lab i).attrs A)
structure OnlyC (B n:Nat) (nb:Nat→Nat) (v:Nat→Value) (w w':World):Prop where
 size:w.heap.size≤w'.heap.size
 block:∀k,k<w.heap.size→(∀i,i<n→k≠nb i)→(∀i,i<n→(v i).ownBlock≠some k)→w'.heap[k]? =w.heap[k]?
 below:∀B',B'≤B→(∀i,i<n→B'≤nb i)→Below B' w w'
theorem OnlyC.refl(B n:Nat)(nb:Nat→Nat)(v:Nat→Value)(w:World):OnlyC B n nb v w w:=⟨Nat.le_refl _,fun _ _ _ _=>rfl,fun _ _ _=>Below.refl _ _⟩
theorem OnlyC.ahead{B n:Nat}{nb:Nat→Nat}{v:Nat→Value}{w w1 w2:World}(hb:Below w.heap.size w w1)(hB:∀B',B'≤B→(∀i,i<n→B'≤nb i)→B'≤w.heap.size)(h:OnlyC B n nb v w1 w2):OnlyC B n nb v w w2:=
 ⟨Nat.le_trans hb.size h.size,fun k hk h1 h2=>(h.block k (Nat.lt_of_lt_of_le hk hb.size) h1 h2).trans (hb.block k hk),fun B' h1 h2=>(hb.mono (hB B' h1 h2)).trans (h.below B' h1 h2)⟩
theorem DomAt.reattr{B:Nat}{w w':World}{n:Nat}{nb:Nat→Nat}{v:Nat→Value}{lab:Nat→NodeD}{F:Wd}(h:DomAt B w n nb v lab F){i:Nat}(hi:i<n){v1:Value}{A:KVs}(hu:Reattr B (nb i) (linkR F nb (lab i) (v i) i) w w' v1 A):
  DomAt B w' n nb (fun j=>if j=i then v1 else v j) (fun j=>if j=i then{lab i with attrs:=A}else lab j) F:=by
 have hfar:∀j,j<n→j≠i→∀b,(v j).ownBlock=some b→v1.ownBlock≠some b:=fun j hj hne b hb e=>by
  rcases hu.at_ b e with h1 | h1
  ·exact h.sep j i hj hi hne b hb h1
  ·have :=(World.ownsRow.lt (h.own j hj) b hb).2
   omega
 refine⟨fun j hj=>?_,fun j hj=>?_,h.base,h.inj,fun j k hj hk hne b hb=>?_⟩
 ·by_cases e:j=i
  ·subst e
   simp only [if_true]
   exact hu.node
  ·simp only [if_neg e]
   have h1:=h.node j hj
   unfold World.nodeAt at h1 ⊢
   rw [hu.keep (nb j) (World.nodeAt.lt (h.node j hj)) (h.ne hj hi e) (node_ne_own (h.node j hj) (h.own i hi))]
   exact h1
 ·by_cases e:j=i
  ·subst e
   simp only [if_true]
   exact hu.own
  ·simp only [if_neg e]
   exact ownsRow_kept (h.own j hj) (fun q hq=>hu.keep q (World.ownsRow.lt (h.own j hj) q hq).2 (fun e2=>node_ne_own (h.node i hi) (h.own j hj) (by rw [hq,e2])) (h.sep j i hj hi e q hq))
 ·by_cases ej:j=i
  ·subst ej
   simp only [if_true]at hb
   simp only [if_neg (Ne.symm hne)]
   exact fun e=>hfar k hk (Ne.symm hne) b e hb
  ·simp only [if_neg ej]at hb
   by_cases ek:k=i
   ·subst ek
    simp only [if_true]
    exact hfar j hj ej b hb
   ·simp only [if_neg ek]
    exact h.sep j k hj hk hne b hb
structure ClsMid (op:Wds→Wds→Wds) (N:Wds) (m s:Nat) (B n:Nat) (nb:Nat→Nat) (v:Nat→Value) (lab:Nat→NodeD) (F:Wd) (w wr:World) (done:List Nat) (v':Nat→Value) (lab':Nat→NodeD):Prop where
 dom:DomAt B wr n nb v' lab' F
 labs:LabC op N m s lab lab' done
 only :OnlyC B n nb v w wr
 own:∀i,i<n→∀b,(v' i).ownBlock=some b→(v i).ownBlock=some b∨w.heap.size≤b
theorem ClsMid.start{op:Wds→Wds→Wds}{N:Wds}{m s B n:Nat}{nb:Nat→Nat}{v:Nat→Value}{lab:Nat→NodeD}{F:Wd}{w:World}(h:DomAt B w n nb v lab F):ClsMid op N m s B n nb v lab F w w [] v lab:=
 ⟨h,fun i=>⟨fun _=>rfl,fun hi=>by simp at hi⟩,OnlyC.refl _ _ _ _ _,fun i hi b hb=>.inl hb⟩
theorem ClsMid.step{op:Wds→Wds→Wds}{N:Wds}{m s B n:Nat}{nb:Nat→Nat}{v:Nat→Value}{lab:Nat→NodeD}{F:Wd}{w wr w':World}{done:List Nat}{v':Nat→Value}{lab':Nat→NodeD}(h:ClsMid op N m s B n nb v lab F w wr done v' lab'){x:Nat}(hx:x<n)(hnd:x∉done){v1:Value}{A:KVs}
  (hu:Reattr B (nb x) (linkR F nb (lab' x) (v' x) x) wr w' v1 A) (hg:GoodC A (op (Wc (lab x).attrs) N) m s) (hn:NearC (lab x).attrs A):
  ClsMid op N m s B n nb v lab F w w' (done++[x]) (fun j=>if j=x then v1 else v' j) (fun j=>if j=x then{lab' x with attrs:=A}else lab' j):=by
 have hlx:=(h.labs x).1 hnd
 refine⟨h.dom.reattr hx hu,fun i=>⟨fun hi=>?_,fun hi=>?_⟩,⟨Nat.le_trans h.only.size hu.size,fun k hk h1 h2=>?_,fun B' h1 h2=>(h.only.below B' h1 h2).trans (hu.bel B' h1 (h2 x hx))⟩,fun i hi b hb=>?_⟩
 ·simp only [List.mem_append,List.mem_singleton,not_or]at hi
  simp only [if_neg hi.2]
  exact(h.labs i).1 hi.1
 ·by_cases e:i=x
  ·subst e
   exact⟨A,by simp only [if_true,hlx],hg,hn⟩
  ·simp only [if_neg e]
   simp only [List.mem_append,List.mem_singleton]at hi
   rcases hi with hi | hi
   ·exact(h.labs i).2 hi
   ·exact absurd hi e
 ·rw [hu.keep k (Nat.lt_of_lt_of_le hk h.only.size) (h1 x hx) (fun e=>?_)]
  ·exact h.only.block k hk h1 h2
  ·rcases h.own x hx k e with h3 | h3
   ·exact h2 x hx h3
   ·omega
 ·by_cases e:i=x
  ·subst e
   simp only [if_true]at hb
   rcases hu.at_ b hb with h3 | h3
   ·exact h.own i hi b h3
   ·exact .inr (Nat.le_trans h.only.size h3)
  ·simp only [if_neg e]at hb
   exact h.own i hi b hb
def ManyPost(op:Wds→Wds→Wds)(N:Wds)(m s:Nat)(sp B n:Nat)(nb:Nat→Nat)(v:Nat→Value)(lab:Nat→NodeD)(F:Wd)(l:List Nat)(w:World)(e:Ending)(w':World):Prop:=
 e=.returned (.pointer (some ⟨sp,0,none⟩))∧∃v' lab',Hid (DomAt B w' n nb v' lab' F)∧Hid (LabC op N m s lab lab' l)∧Hid (OnlyC B n nb v w w')∧Hid (∀i,i<n→∀b,(v' i).ownBlock=some b→(v i).ownBlock=some b∨w.heap.size≤b)
theorem take_name{ws:List ByteArray}{j:Nat}(h:j<ws.length):(ws.map (·.data.toList)).take (j+1)=(ws.map (·.data.toList)).take j++[(ws.getD j ByteArray.empty).data.toList]:=by
 rw [List.take_add_one,List.getD_eq_getElem?_getD,List.getElem?_map,List.getElem?_eq_getElem h]
 rfl
theorem ne_of_words{r:ByteArray}{W:Wds}(h:wl r.data.toList=W)(h0:W≠[]):r.toList.isEmpty=false:=by
 cases hE:r.toList.isEmpty
 ·rfl
 ·rw [nil_of hE,wl_nil]at h
  exact absurd h.symm h0
theorem inW_iff(ws:List ByteArray)(x:ByteArray):∀n,n≤ws.length→(inW ws x n=true↔x.data.toList∈(ws.take n).map (·.data.toList))
 | 0,_=>by simp [inW]
 | n+1,h=>by
  have ih:=inW_iff ws x n (by omega)
  rw [List.map_take,take_name (by omega),←List.map_take]
  simp only [inW,Bool.or_eq_true,ih,List.mem_append,List.mem_singleton,beq_iff_eq,ByteArray.toList_eq]
  exact⟨fun h=>h.imp id (fun e=>e.symm),fun h=>h.imp id (fun e=>e.symm)⟩
theorem inW_all(ws:List ByteArray)(x:ByteArray):inW ws x ws.length=decide (x.data.toList∈ws.map (·.data.toList)):=by
 have h:=inW_iff ws x ws.length (Nat.le_refl _)
 rw [List.take_length]at h
 by_cases e:x.data.toList∈ws.map (·.data.toList)
 ·rw [h.2 e,decide_eq_true e]
 ·rw [decide_eq_false e]
  cases hq:inW ws x ws.length
  ·rfl
  ·exact absurd (h.1 hq) e
def keep1(o:Int)(xs:List ByteArray)(x:ByteArray):Bool:=(o==14) || !inW xs x xs.length
def keep2(o:Int)(ws:List ByteArray)(x:ByteArray):Bool:=(o !=15) && !inW ws x ws.length
def flatS(l:List ByteArray):List UInt8:=l.flatMap fun x=>32::x.data.toList
theorem flat_snoc(l:List ByteArray)(x:ByteArray):flatS (l++[x])=flatS l++32::x.data.toList:=by simp [flatS]
theorem kept_step(p:ByteArray→Bool){ws:List ByteArray}{k:Nat}(hk:k<ws.length):(ws.take (k+1)).filter p=if p (ws.getD k ByteArray.empty)then(ws.take k).filter p++[ws.getD k ByteArray.empty]else(ws.take k).filter p:=by
 have e:ws.take (k+1)=ws.take k++[ws.getD k ByteArray.empty]:=by
  rw [List.take_add_one,List.getD_eq_getElem?_getD,List.getElem?_eq_getElem hk]
  rfl
 rw [e,List.filter_append]
 generalize ws.getD k ByteArray.empty=y
 cases hq:p y <;> simp [hq]
def classesF(o:Int)(had:ByteArray)(xs:List ByteArray):List ByteArray:=(wordsF had).filter (keep1 o xs)++xs.filter (keep2 o (wordsF had))
theorem wst_size(s:ByteArray):∀k,∀x∈(wst s k).2,x.size≤s.size:=by
 intro k
 induction k with
 | zero=>intro x hx;simp [wst]at hx
 | succ k ih=>
  intro x hx
  simp only [wst]at hx
  split at hx
  ·split at hx
   ·split at hx
    ·rcases List.mem_append.1 hx with h | h
     ·exact ih x h
     ·simp at h
      subst h
      simp
      omega
    ·exact ih x hx
   ·exact ih x hx
  ·split at hx
   ·rcases List.mem_append.1 hx with h | h
    ·exact ih x h
    ·simp at h
     subst h
     simp
     omega
   ·exact ih x hx
theorem wst_flat(s:ByteArray):∀k,k≤s.size+1→(flatS (wst s k).2).length≤(wst s k).1∧(wst s k).1≤k:=by
 intro k
 induction k with
 | zero=>intro _;simp [wst,flatS]
 | succ k ih=>
  intro hk
  obtain⟨h1,h2⟩:=ih (by omega)
  have hpush:(flatS ((wst s k).2++[s.extract (wst s k).1 k])).length≤k+1:=by
   rw [flat_snoc,List.length_append,List.length_cons]
   have :(s.extract (wst s k).1 k).data.toList.length=min k s.size-(wst s k).1:=by
    show((s.extract (wst s k).1 k).data.toList).length=_
    rw [Array.length_toList]
    exact ByteArray.size_extract
   omega
  simp only [wst]
  split
  ·split
   ·split
    ·exact⟨hpush,Nat.le_refl _⟩
    ·exact⟨Nat.le_trans h1 (Nat.le_trans h2 (Nat.le_succ k)),Nat.le_refl _⟩
   ·exact⟨h1,Nat.le_trans h2 (Nat.le_succ k)⟩
  ·split
   ·exact⟨hpush,Nat.le_refl _⟩
   ·exact⟨Nat.le_trans h1 (Nat.le_trans h2 (Nat.le_succ k)),Nat.le_refl _⟩
theorem flat_filter(p:ByteArray→Bool)(l:List ByteArray):(flatS (l.filter p)).length≤(flatS l).length:=by
 induction l with
 | nil=>simp [flatS]
 | cons x r ih=>
  have e:∀(y:ByteArray) (q:List ByteArray),(flatS (y::q)).length=1+y.data.toList.length+(flatS q).length:=fun y q=>by
   simp [flatS];omega
  cases hq:p x
  ·rw [List.filter_cons_of_neg (by simp [hq]),e];omega
  ·rw [List.filter_cons_of_pos hq,e,e];omega
theorem flat_app(a b:List ByteArray):(flatS (a++b)).length=(flatS a).length+(flatS b).length:=by
 unfold flatS
 rw [List.flatMap_append,List.length_append]
theorem flat_take(k:Nat)(l:List ByteArray):(flatS (l.take k)).length≤(flatS l).length:=by
 have h:=flat_app (l.take k) (l.drop k)
 rw [List.take_append_drop]at h
 omega
theorem kept_size{had r:ByteArray}{p:ByteArray→Bool}{k:Nat}(h:r.data.toList=flatS (((wordsF had).take k).filter p)):r.size≤had.size+1:=by
 have h1:r.size=(flatS (((wordsF had).take k).filter p)).length:=by rw [←h,Array.length_toList];rfl
 have h2:=flat_filter p ((wordsF had).take k)
 have h3:=flat_take k (wordsF had)
 have h4:=wst_flat had (had.size+1) (Nat.le_refl _)
 have h5:wordsF had=(wst had (had.size+1)).2:=rfl
 rw [h5]at h1 h2 h3
 omega
def ClassesPost(o:Int)(had:ByteArray)(xs:List ByteArray)(w:World)(e:Ending)(w':World):Prop:=∃r:ByteArray,e=.returned (.string r)∧Hid (r.data.toList=(flatS (classesF o had xs)).drop 1)∧r.size≤had.size+1200000000000∧Hid (Below w.heap.size w w')
set_option maxRecDepth 100000 in
set_option maxHeartbeats 2000000 in
theorem classes_any(o:Int)(had:ByteArray)(xs:List ByteArray)(a:Option Addr)(c:Nat)(w:World)(hs:had.size≤16000000000000)(h:StrCells w a xs.length xs)(hn:xs.length≤1048576)(hz:∀x∈xs,x.size≤1048576):
  Calls Tryz.prog 115 #[.int .i64 o,.string had,.slice a xs.length c] w (ClassesPost o had xs w):=by
 have hwl:=wordsF_len had
 have hwz:∀x∈wordsF had,x.size≤16000000000000:=fun x hx=>Nat.le_trans (wst_size had _ x hx) hs
 have hX:=h
 have HX:=Lib.hid hX
 have HZ:=Lib.hid hz
 have HWZ:=Lib.hid hwz
 have HSZ:=Lib.hid hs
 have hsz:=hs
 clear hX h hz hwz
 go_enter Tryz.func115,Tryz.ntmps115
 go_wp2_with fail
 refine(words_any had w HSZ.out).mono ?_
 rintro e w1 ⟨wv,rfl,hown,hb⟩
 obtain⟨wa,wc,rfl,hcap,hcells⟩:=hown.out.open
 obtain⟨ws,hws⟩:∃ws,wordsF had=ws:=⟨_,rfl⟩
 rw [hws]at hwl hcells hcap
 have HWS:=Lib.hid hws
 have HC:=Lib.hid hcells
 have HX1:=Lib.hid (HX.out.below hb.out)
 have hwlen:ws.length≤16000000000001:=by have :=HSZ.out;omega
 rw [hws]at HWZ
 rw [hws]
 clear hown hws hcells HX
 go_wp2
 go_loop [8,9] (fun ov i=>∃(k:Nat) (r:ByteArray),k≤ws.length∧ov=.string r∧i=.int .i64 (k:Int)∧Hid (r.data.toList=flatS ((ws.take k).filter (keep1 o xs)))∧r.size≤16000000000001) (fun _ i=>ws.length-(intOf i).toNat)
 case atStart=>exact⟨0,⟨#[]⟩,by omega,rfl,by go_num,Lib.hid rfl,by simp [ByteArray.size]⟩
 case round=>
  obtain⟨k,r,hk,rfl,rfl,hr,hrz⟩:=hrel
  by_cases hlt:k<ws.length
  ·obtain⟨b,off,rfl,hc⟩:=HC.out.2 (by omega)
   have ck:=hc k hlt
   have hstep:=kept_step (keep1 o xs) hlt
   have hyz:(ws.getD k ByteArray.empty).size≤16000000000000:=HWZ.out _ (by rw [List.getD_eq_getElem?_getD,List.getElem?_eq_getElem hlt];exact List.getElem_mem _)
   obtain⟨y,hy⟩:∃y,ws.getD k ByteArray.empty=y:=⟨_,rfl⟩
   rw [hy]at ck hstep hyz
   have hkI:(k:Int)<(ws.length:Int):=by omega
   have hkp:keep1 o xs y=((o==14) || !inW xs y xs.length):=rfl
   obtain⟨b14,h14⟩:∃b14,(o==14)=b14:=⟨_,rfl⟩
   obtain⟨q,hq⟩:∃q,inW xs y xs.length=q:=⟨_,rfl⟩
   rw [h14,hq]at hkp
   have HIW:=Lib.hid (isWord_any a xs.length c xs y w1 HX1.out)
   have HQ:=Lib.hid hq
   have hno:keep1 o xs y=false→r.data.toList=flatS ((ws.take (k+1)).filter (keep1 o xs)):=fun e=>by rw [hstep,e];exact hr.out
   have hyes:keep1 o xs y=true→(r++((ByteArray.mk #[32])++y)).data.toList=flatS ((ws.take (k+1)).filter (keep1 o xs)):=fun e=>by
    rw [hstep,e,if_pos rfl,flat_snoc,cat_list,cat_list,hr.out];rfl
   have z1:¬9223372036854775807<(ByteArray.mk #[32]).size+y.size:=by have :(ByteArray.mk #[32]).size=1:=rfl;omega
   have z2:¬9223372036854775807<r.size+((ByteArray.mk #[32])++y).size:=by
    have :(ByteArray.mk #[32]).size=1:=rfl
    rw [ByteArray.size_append];omega
   have HSZ2:=Lib.hid (show keep1 o xs y=true→(r++((ByteArray.mk #[32])++y)).size≤16000000000001 from fun e=>by
    have h1:=hyes e
    rw [←HWS.out]at h1
    have :=kept_size h1
    have :=HSZ.out
    omega)
   have HNO:=Lib.hid hno
   have HYES:=Lib.hid hyes
   have HKP:=Lib.hid hkp
   clear hc hy hr hstep hq hno hyes hkp
   cases b14
   ·go_wp2_with fail
    refine HIW.out.mono ?_
    rintro e w9 ⟨bb,hbb,rfl,rfl⟩
    rw [HQ.out]at hbb
    subst hbb
    cases bb
    ·have HYY:=Lib.hid (HYES.out (by rw [HKP.out];rfl))
     have HS2:=HSZ2.out (by rw [HKP.out];rfl)
     clear HNO HYES HKP HQ HIW HSZ2
     go_wp2
     go_round
     case rel=>exact⟨k+1,_,by omega,rfl,by go_num,HYY,HS2⟩
     case measure=>simp [intOf];omega
    ·have HYY:=Lib.hid (HNO.out (by rw [HKP.out];rfl))
     clear HNO HYES HKP HQ HIW z1 z2
     go_wp2
     go_round
     case rel=>exact⟨k+1,_,by omega,rfl,by go_num,HYY,by omega⟩
     case measure=>simp [intOf];omega
   ·have HYY:=Lib.hid (HYES.out (by rw [HKP.out];rfl))
    have HS2:=HSZ2.out (by rw [HKP.out];rfl)
    clear HNO HYES HKP HQ HIW HSZ2
    go_wp2
    go_round
    case rel=>exact⟨k+1,_,by omega,rfl,by go_num,HYY,HS2⟩
    case measure=>simp [intOf];omega
  ·obtain rfl:k=ws.length:=by omega
   rw [List.take_length]at hr
   have hr1:r.size≤had.size+1:=by
    have h1:=hr.out
    rw [←HWS.out,←List.take_length (l:=wordsF had)]at h1
    exact kept_size h1
   clear hlt hrz
   go_wp2
   go_loop [8,10] (fun ov i=>∃(k:Nat) (r:ByteArray),k≤xs.length∧ov=.string r∧i=.int .i64 (k:Int)∧Hid (r.data.toList=flatS (ws.filter (keep1 o xs)++(xs.take k).filter (keep2 o ws)))∧r.size≤had.size+1+1048577*k) (fun _ i=>xs.length-(intOf i).toNat)
   case atStart=>exact⟨0,r,by omega,rfl,by go_num,Lib.hid (by rw [hr.out];simp),by omega⟩
   case round=>
    clear hr hr1 hk
    obtain⟨k,r,hk,rfl,rfl,hr,hrz⟩:=hrel
    by_cases hlt:k<xs.length
    ·obtain⟨b,off,rfl,hc⟩:=HX1.out.2 (by omega)
     have ck:=hc k hlt
     have hstep:=kept_step (keep2 o ws) hlt
     have hyz:(xs.getD k ByteArray.empty).size≤1048576:=HZ.out _ (by rw [List.getD_eq_getElem?_getD,List.getElem?_eq_getElem hlt];exact List.getElem_mem _)
     obtain⟨y,hy⟩:∃y,xs.getD k ByteArray.empty=y:=⟨_,rfl⟩
     rw [hy]at ck hstep hyz
     have hkI:(k:Int)<(xs.length:Int):=by omega
     have hkp:keep2 o ws y=((o !=15) && !inW ws y ws.length):=rfl
     obtain⟨b15,h15⟩:∃b15,(o !=15)=b15:=⟨_,rfl⟩
     obtain⟨q,hq⟩:∃q,inW ws y ws.length=q:=⟨_,rfl⟩
     rw [h15,hq]at hkp
     have HIW:=Lib.hid (isWord_any wa ws.length wc ws y w1 HC.out)
     have HQ:=Lib.hid hq
     have hno:keep2 o ws y=false→r.data.toList=flatS (ws.filter (keep1 o xs)++(xs.take (k+1)).filter (keep2 o ws)):=fun e=>by rw [hstep,e];exact hr.out
     have hyes:keep2 o ws y=true→(r++((ByteArray.mk #[32])++y)).data.toList=flatS (ws.filter (keep1 o xs)++(xs.take (k+1)).filter (keep2 o ws)):=fun e=>by
      rw [hstep,e,if_pos rfl,←List.append_assoc,flat_snoc,cat_list,cat_list,hr.out];rfl
     have z1:¬9223372036854775807<(ByteArray.mk #[32]).size+y.size:=by have :(ByteArray.mk #[32]).size=1:=rfl;omega
     have z2:¬9223372036854775807<r.size+((ByteArray.mk #[32])++y).size:=by
      have :(ByteArray.mk #[32]).size=1:=rfl
      rw [ByteArray.size_append];omega
     have HSZ2:=Lib.hid (show(r++((ByteArray.mk #[32])++y)).size≤had.size+1+1048577*(k+1) by
      have :(ByteArray.mk #[32]).size=1:=rfl
      rw [ByteArray.size_append,ByteArray.size_append];omega)
     have HNO:=Lib.hid hno
     have HYES:=Lib.hid hyes
     have HKP:=Lib.hid hkp
     clear hc hy hr hstep hq hno hyes hkp
     cases b15
     ·have HYY:=Lib.hid (HNO.out (by rw [HKP.out];rfl))
      clear HNO HYES HKP HQ HIW z1 z2
      go_wp2
      go_round
      case rel=>exact⟨k+1,_,by omega,rfl,by go_num,HYY,by omega⟩
      case measure=>simp [intOf];omega
     ·go_wp2_with fail
      refine HIW.out.mono ?_
      rintro e w9 ⟨bb,hbb,rfl,rfl⟩
      rw [HQ.out]at hbb
      subst hbb
      cases bb
      ·have HYY:=Lib.hid (HYES.out (by rw [HKP.out];rfl))
       clear HNO HYES HKP HQ HIW
       go_wp2
       go_round
       case rel=>exact⟨k+1,_,by omega,rfl,by go_num,HYY,HSZ2.out⟩
       case measure=>simp [intOf];omega
      ·have HYY:=Lib.hid (HNO.out (by rw [HKP.out];rfl))
       clear HNO HYES HKP HQ HIW z1 z2
       go_wp2
       go_round
       case rel=>exact⟨k+1,_,by omega,rfl,by go_num,HYY,by omega⟩
       case measure=>simp [intOf];omega
    ·obtain rfl:k=xs.length:=by omega
     rw [List.take_length]at hr
     have hfin:=hr.out
     have hcf:classesF o had xs=ws.filter (keep1 o xs)++xs.filter (keep2 o ws):=by unfold classesF;rw [HWS.out]
     have HCF:=Lib.hid hcf
     have hr1:r.size≤had.size+1200000000000:=by omega
     have hl:r.data.toList.length=r.size:=by simp
     by_cases h0:r.size=0
     ·have hnil:r=⟨#[]⟩:=by
       cases r with
       | mk d=>
        have :d= #[]:=Array.eq_empty_of_size_eq_zero h0
        rw [this]
      subst hnil
      have HFIN:=Lib.hid hfin
      clear hfin hcf hl h0 hr hlt hrz
      go_wp2
      go_ret
      exact⟨_,rfl,Lib.hid (by rw [HCF.out,←HFIN.out];rfl),Nat.zero_le _,hb⟩
     ·have he:r.toList.isEmpty=false:=by
       rw [ByteArray.toList_eq]
       cases hq:r.data.toList with
       | nil=>rw [hq]at hl;simp at hl;omega
       | cons x l=>rfl
      have h1:(1:Int)≤(r.size:Int):=by omega
      have HFIN:=Lib.hid hfin
      clear hfin hcf hl h0 hr hlt hrz
      go_wp2
      go_ret
      exact⟨_,rfl,Lib.hid (by rw [HCF.out,←HFIN.out];simp;exact List.take_of_length_le (by simp)),by simp;omega,hb⟩
def printB(b:UInt8):Prop:=32<b.toNat∧b.toNat≤126
instance (b:UInt8):Decidable (printB b):=by unfold printB;infer_instance
def printF(s:ByteArray):Bool:=decide (s.data.toList≠[]∧∀b∈s.data.toList,printB b)
theorem printF_no{s:ByteArray}{b:UInt8}(hb:b∈s.data.toList)(h:¬printB b):printF s=false:=decide_eq_false fun e=>h (e.2 b hb)
theorem byte_mem{s:ByteArray}{k:Nat}(h:k<s.size):s[k]∈s.data.toList:=by
 rw [Array.mem_toList_iff]
 exact Array.getElem_mem (by exact h)
set_option maxRecDepth 100000 in
set_option maxHeartbeats 1000000 in
theorem printable_any(s:ByteArray)(w:World)(hs:s.size≤9223372036854775807):
  Calls Tryz.prog 111 #[.string s] w (BoolIs (printF s) w):=by
 go_enter Tryz.func111,Tryz.ntmps111
 go_wp2
 go_loop [3] (fun i=>∃k:Nat,k≤s.size∧i=.int .i64 (k:Int)∧∀j (h:j<s.size),j<k→printB s[j]) (fun i=>s.size-(intOf i).toNat)
 case atStart=>exact⟨0,by omega,by go_num,fun j _ h=>by omega⟩
 case round=>
  obtain⟨k,hk,rfl,hno⟩:=hrel
  have HNO:=Lib.hid hno
  clear hno
  by_cases hlt:k<s.size
  ·have hkI:(k:Int)<(s.size:Int):=by omega
   by_cases h1:32<s[k].toNat
   ·have e1:decide ((s[k].toNat:Int)≤32)=false:=by simp;omega
    have e1n:decide (s[k].toNat≤32)=false:=by simp;omega
    by_cases h2:s[k].toNat≤126
    ·have e2:decide ((126:Int)<(s[k].toNat:Int))=false:=by simp;omega
     have e2n:decide (126<s[k].toNat)=false:=by simp;omega
     have HNX:=Lib.hid (show ∀j (h:j<s.size),j<k+1→printB s[j] from fun j hj hjk=>by
      by_cases e:j=k
      ·subst e;exact⟨h1,h2⟩
      ·exact HNO.out j hj (by omega))
     clear h1 h2
     go_wp2
     go_round
     case rel=>exact⟨k+1,by omega,by go_num,HNX.out⟩
     case measure=>simp [intOf];omega
    ·have e2:decide ((126:Int)<(s[k].toNat:Int))=true:=by simp;omega
     have e2n:decide (126<s[k].toNat)=true:=by simp;omega
     have HP:=Lib.hid (printF_no (byte_mem hlt) (fun e=>h2 e.2))
     clear h1 h2
     go_wp2
     go_ret
     exact⟨by rw [HP.out];rfl,rfl⟩
   ·have e1:decide ((s[k].toNat:Int)≤32)=true:=by simp;omega
    have e1n:decide (s[k].toNat≤32)=true:=by simp;omega
    have HP:=Lib.hid (printF_no (byte_mem hlt) (fun e=>h1 e.1))
    clear h1
    go_wp2
    go_ret
    exact⟨by rw [HP.out];rfl,rfl⟩
  ·obtain rfl:k=s.size:=by omega
   have hall:∀b∈s.data.toList,printB b:=fun b hb=>by
    rw [Array.mem_toList_iff]at hb
    obtain⟨j,hj,e⟩:=Array.getElem_of_mem hb
    rw [←e]
    exact HNO.out j hj hj
   have HALL:=Lib.hid hall
   clear hall hlt
   cases hE:s.toList.isEmpty
   ·have hne:s.data.toList≠[]:=fun e=>by
     have :=size_pos hE
     rw [size_list,e]at this
     simp at this
    have hE2:(s.toList !=[])=true:=by rw [bne,beq_eq_false_iff_ne.2 (by rw [ByteArray.toList_eq];exact hne)];rfl
    have HP:=Lib.hid (show printF s=true from decide_eq_true ⟨hne,HALL.out⟩)
    clear hne
    go_wp2
    go_ret
    exact⟨by rw [HP.out];rfl,rfl⟩
   ·have hE2:(s.toList !=[])=false:=by rw [ByteArray.toList_eq,nil_of hE];rfl
    have HP:=Lib.hid (show printF s=false from decide_eq_false fun e=>e.1 (nil_of hE))
    go_wp2
    go_ret
    exact⟨by rw [HP.out];rfl,rfl⟩
end Go.Proofs.YtkdomegcacgpnaaGreat
