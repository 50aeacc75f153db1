/- Parts of a proof: InsPure, AttrPure, KV, Knot, AppendNone. -/
import Derived.Test.YtkdomegcacgpnaaGreatG07
import Derived.Test.YtkdomegcacgpnaaGreatG00
import Derived.Test.YtkdomegcacgpnaaGreatG04
import Derived.Deep.AppendLies
import Derived.Test.YtkdomegcacgpnaaGreatG06
import Derived.Test.YtkdomegcacgpnaaGreatG01
import Derived.Laws.AppendOwn
set_option linter.unusedVariables false
set_option linter.unusedSimpArgs false
namespace Go.Proofs.YtkdomegcacgpnaaGreat
def offL(T A:List Nat):List Nat:=A.filter (fun y=> !T.contains y)
theorem offL_nil(A:List Nat):offL [] A=A:=List.filter_eq_self.2 (fun y _=>by simp)
theorem offL_append(T A B:List Nat):offL T (A++B)=offL T A++offL T B:=by simp [offL]
theorem offL_snoc(T A:List Nat)(w:Nat):(offL T A).filter (fun y=>y !=w)=offL (T++[w]) A:=by
 unfold offL
 rw [List.filter_filter]
 refine List.filter_congr (fun y _=>?_)
 by_cases e:y=w <;> by_cases h:y∈T <;> simp [e,h]
theorem offL_keep{T:List Nat}{x:Nat}(h:x∉T):offL T [x]=[x]:=by simp [offL,h]
theorem offL_cons{T:List Nat}{x:Nat}(h:x∉T)(b:List Nat):offL T (x::b)=x::offL T b:=by simp [offL,h]
theorem offL_congr{T T':List Nat}(h:∀y,y∈T↔y∈T')(A:List Nat):offL T A=offL T' A:=by
 unfold offL
 refine List.filter_congr (fun y _=>?_)
 by_cases e:y∈T
 ·simp [e,(h y).1 e]
 ·have e2:y∉T':=fun h2=>e ((h y).2 h2)
  simp [e,e2]
def Wd.off(F:Wd)(T:List Nat):Wd:=⟨fun q=>offL T (F.kids q),fun y=>if y∈T then none else F.up y⟩
theorem off_nil(F:Wd):F.off []=F:=by
 cases F
 simp only [Wd.off,Wd.mk.injEq]
 exact⟨funext fun q=>offL_nil _,funext fun y=>by simp⟩
theorem off_snoc(F:Wd)(T:List Nat)(w:Nat):F.off (T++[w])=(F.off T).cut w:=by
 simp only [Wd.off,Wd.cut,Wd.mk.injEq]
 refine⟨funext fun q=>(offL_snoc T _ w).symm,funext fun y=>?_⟩
 by_cases e:y=w <;> by_cases h:y∈T <;> simp [e,h]
theorem cutsW_off(F:Wd)(T:List Nat):cutsW F T=F.off T:=by
 have key:∀n,n≤T.length→cutsW F (T.take n)=F.off (T.take n):=by
  intro n
  induction n with
  | zero=>intro _;exact(off_nil F).symm
  | succ n ih=>
   intro h
   have h1:=ih (by omega)
   rw [List.take_add_one,List.getElem?_eq_getElem (by omega),Option.toList_some,cutsW_snoc,off_snoc,h1]
 have :=key T.length (Nat.le_refl _)
 rwa [List.take_length]at this
theorem off_congr(F:Wd){T T':List Nat}(h:∀y,y∈T↔y∈T'):F.off T=F.off T':=by
 simp only [Wd.off,Wd.mk.injEq]
 refine⟨funext fun q=>offL_congr h _,funext fun y=>?_⟩
 by_cases e:y∈T
 ·rw [if_pos e,if_pos ((h y).1 e)]
 ·rw [if_neg e,if_neg (fun h2=>e ((h y).2 h2))]
def Wd.ins(H:Wd)(p:Nat)(A T B:List Nat):Wd:=⟨fun q=>if q=p then A++(T++B)else H.kids q,fun y=>if y∈T then some p else H.up y⟩
theorem ins_nil{H:Wd}{p:Nat}{A B:List Nat}(h:H.kids p=A++B):H.ins p A [] B=H:=by
 cases H with
 | mk kids up=>
  simp only [Wd.ins,Wd.mk.injEq]
  refine⟨funext fun q=>?_,funext fun y=>by simp⟩
  by_cases e:q=p
  ·subst e;rw [if_pos rfl,List.nil_append];exact h.symm
  ·rw [if_neg e]
theorem ins_put(H:Wd)(p:Nat)(A T B:List Nat)(w:Nat):(H.ins p A T B).put p (A.length+T.length) w=H.ins p A (T++[w]) B:=by
 simp only [Wd.ins,Wd.put,Wd.mk.injEq]
 refine⟨funext fun q=>?_,funext fun y=>?_⟩
 ·by_cases e:q=p
  ·subst e
   simp only [if_pos]
   have e1:A++(T++B)=(A++T)++B:=by simp
   have e2:A.length+T.length=(A++T).length:=by simp
   rw [e1,e2,List.take_left',List.drop_left']
   ·simp
   ·rfl
   ·rfl
  ·simp only [if_neg e]
 ·by_cases e:y=w <;> by_cases h:y∈T <;> simp [e,h]
theorem ins_put_front(H:Wd)(p:Nat)(A T B:List Nat)(w:Nat):(H.ins p A T B).put p A.length w=H.ins p A (w::T) B:=by
 simp only [Wd.ins,Wd.put,Wd.mk.injEq]
 refine⟨funext fun q=>?_,funext fun y=>?_⟩
 ·by_cases e:q=p
  ·subst e
   simp
  ·simp only [if_neg e]
 ·by_cases e:y=w <;> by_cases h:y∈T <;> simp [e,h]
theorem ins_cut(H:Wd)(p:Nat)(A T B:List Nat){w:Nat}(h:w∉T):(H.ins p A T B).cut w=(H.cut w).ins p (A.filter (fun y=>y !=w)) T (B.filter (fun y=>y !=w)):=by
 simp only [Wd.ins,Wd.cut,Wd.mk.injEq]
 refine⟨funext fun q=>?_,funext fun y=>?_⟩
 ·by_cases e:q=p
  ·subst e
   simp only [if_true,List.filter_append]
   rw [filter_none h]
  ·simp only [if_neg e]
 ·by_cases e:y=w
  ·subst e;simp [h]
  ·by_cases h2:y∈T <;> simp [e,h2]
theorem anc_back{F G:Wd}{T:List Nat}(hup:∀y,y∉T→G.up y=F.up y){w y:Nat}(h:Anc G w y):(∀v∈T,¬Anc F v y)→Anc F w y:=by
 induction h with
 | refl=>intro _;exact .refl
 | @step y p hu _ ih=>
  intro hv
  have hy:y∉T:=fun hm=>hv y hm .refl
  have hu2:F.up y=some p:=by rw [←hup y hy];exact hu
  exact .step hu2 (ih (fun v hm ha=>hv v hm (.step hu2 ha)))
theorem ins_up(F:Wd)(p:Nat)(A T T' B:List Nat)(hT:∀y,y∈T↔y∈T'):∀y,y∉T'→((F.off T).ins p A T' B).up y=F.up y:=fun y hy=>by
 simp only [Wd.ins,Wd.off,if_neg hy,if_neg (fun h=>hy ((hT y).1 h))]
theorem move_ok{n:Nat}{F:Wd}(hF:WOk n F){p:Nat}(hp:p<n){A0 B0:List Nat}(h0:F.kids p=A0++B0){T T':List Nat}(hT:∀y,y∈T↔y∈T'){W:List Nat}(hTW:∀y∈T,y∈W)(hW:∀v∈W,¬Anc F v p){w:Nat}(hw:w∈W)(hwT:w∉T)(hwn:w<n)
  (hG:WOk n ((F.off T).ins p (offL T A0) T' (offL T B0))):
  WOk n (((F.off T).ins p (offL T A0) T' (offL T B0)).cut w)∧((F.off T).ins p (offL T A0) T' (offL T B0)).cut w=(F.off (T++[w])).ins p (offL (T++[w]) A0) T' (offL (T++[w]) B0)∧
   ¬Anc (((F.off T).ins p (offL T A0) T' (offL T B0)).cut w) w p∧w≠p:=by
 have hwT':w∉T':=fun h=>hwT ((hT w).2 h)
 refine⟨hG.cut w,?_,fun ha=>?_,fun e=>hW w hw (by rw [e];exact .refl)⟩
 ·rw [ins_cut _ _ _ _ _ hwT',←off_snoc,offL_snoc,offL_snoc]
 ·have h1:=ha.of_cut
  refine hW w hw (anc_back (T:=T') (ins_up F p _ T T' _ hT) h1 (fun v hv=>hW v (hTW v ((hT v).2 hv))))
theorem off_up{F:Wd}{T:List Nat}{y:Nat}(h:y∉T):(F.off T).up y=F.up y:=by simp only [Wd.off,if_neg h]
theorem off_in{F:Wd}{T:List Nat}{y:Nat}(h:y∈T):(F.off T).up y=none:=by simp only [Wd.off,if_pos h]
end Go.Proofs.YtkdomegcacgpnaaGreat
namespace Go.Proofs.YtkdomegcacgpnaaGreat
open Go.RowKit
abbrev KVs:=List (ByteArray×ByteArray)
def setKV:KVs→ByteArray→ByteArray→KVs
 | [],key,val=>[(key,val)]
 | x::r,key,val=>if x.1.toList=key.toList then(x.1,val)::r else x::setKV r key val
def lookKV:KVs→ByteArray→Option ByteArray
 | [],_=>none
 | x::r,key=>if x.1.toList=key.toList then some x.2 else lookKV r key
def DistKV(l:KVs):Prop:=l.Pairwise fun x y=>x.1.toList≠y.1.toList
theorem look_set(l:KVs)(k v k':ByteArray):lookKV (setKV l k v) k'=if k.toList=k'.toList then some v else lookKV l k':=by
 induction l with
 | nil=>simp [setKV,lookKV]
 | cons x r ih=>
  simp only [setKV]
  by_cases h:x.1.toList=k.toList
  ·rw [if_pos h]
   simp only [lookKV]
   by_cases h2:k.toList=k'.toList
   ·rw [if_pos (h.trans h2),if_pos h2]
   ·rw [if_neg (fun e=>h2 (h.symm.trans e)),if_neg h2,if_neg (fun e=>h2 (h.symm.trans e))]
  ·rw [if_neg h]
   simp only [lookKV]
   rw [ih]
   by_cases h2:x.1.toList=k'.toList
   ·rw [if_pos h2,if_neg (fun e=>h (h2.trans e.symm)),if_pos h2]
   ·rw [if_neg h2,if_neg h2]
theorem mem_set{l:KVs}{k v:ByteArray}{y:ByteArray×ByteArray}(h:y∈setKV l k v):(∃x∈l,x.1.toList=y.1.toList)∨y.1.toList=k.toList:=by
 induction l with
 | nil=>simp [setKV]at h;subst h;exact .inr rfl
 | cons x r ih=>
  simp only [setKV]at h
  by_cases hx:x.1.toList=k.toList
  ·rw [if_pos hx]at h
   rcases List.mem_cons.mp h with h | h
   ·subst h;exact .inl ⟨x,by simp,rfl⟩
   ·exact .inl ⟨y,by simp [h],rfl⟩
  ·rw [if_neg hx]at h
   rcases List.mem_cons.mp h with h | h
   ·subst h;exact .inl ⟨y,by simp,rfl⟩
   ·rcases ih h with ⟨z,hz,he⟩ | he
    ·exact .inl ⟨z,by simp [hz],he⟩
    ·exact .inr he
theorem dist_set{l:KVs}(h:DistKV l)(k v:ByteArray):DistKV (setKV l k v):=by
 unfold DistKV at *
 induction l with
 | nil=>simp [setKV]
 | cons x r ih=>
  rw [List.pairwise_cons]at h
  simp only [setKV]
  by_cases hx:x.1.toList=k.toList
  ·rw [if_pos hx,List.pairwise_cons]
   exact⟨h.1,h.2⟩
  ·rw [if_neg hx,List.pairwise_cons]
   refine⟨fun y hy=>?_,ih h.2⟩
   rcases mem_set hy with ⟨z,hz,he⟩ | he
   ·rw [←he];exact h.1 z hz
   ·rw [he];exact hx
theorem look_mem{l:KVs}(h:DistKV l){p:ByteArray×ByteArray}(hp:p∈l):lookKV l p.1=some p.2:=by
 unfold DistKV at h
 induction l with
 | nil=>cases hp
 | cons x r ih=>
  rw [List.pairwise_cons]at h
  simp only [lookKV]
  rcases List.mem_cons.mp hp with e | e
  ·subst e;rw [if_pos rfl]
  ·rw [if_neg (h.1 p e),ih h.2 e]
theorem length_some{l:KVs}{k:ByteArray}(v:ByteArray){y:ByteArray}(h:lookKV l k=some y):(setKV l k v).length=l.length:=by
 induction l with
 | nil=>simp [lookKV]at h
 | cons x r ih=>
  simp only [lookKV]at h
  simp only [setKV]
  by_cases hx:x.1.toList=k.toList
  ·rw [if_pos hx];simp
  ·rw [if_neg hx]at h ⊢
   simp only [List.length_cons,ih h]
theorem length_none{l:KVs}{k:ByteArray}(v:ByteArray)(h:lookKV l k=none):(setKV l k v).length=l.length+1:=by
 induction l with
 | nil=>simp [setKV]
 | cons x r ih=>
  simp only [lookKV]at h
  simp only [setKV]
  by_cases hx:x.1.toList=k.toList
  ·rw [if_pos hx]at h;simp at h
  ·rw [if_neg hx]at h ⊢
   simp only [List.length_cons,ih h]
theorem length_set_le(l:KVs)(k v:ByteArray):(setKV l k v).length≤l.length+1∧l.length≤(setKV l k v).length∧0<(setKV l k v).length:=by
 cases h:lookKV l k with
 | none=>rw [length_none v h];omega
 | some y=>
  rw [length_some v h]
  cases l with
  | nil=>simp [lookKV]at h
  | cons x r=>simp
def NoneBefore(l:KVs)(key:ByteArray)(n:Nat):Prop:=∀j,j<n→((l.getD j default).1.toList==key.toList)=false
theorem NoneBefore.succ{l:KVs}{key x:ByteArray}{n:Nat}(h:NoneBefore l key n)(hx:(l.getD n default).1=x)(hk:(x.toList==key.toList)=false):NoneBefore l key (n+1):=by
 intro j hj
 by_cases e:j=n
 ·subst e;rw [hx];exact hk
 ·exact h j (by omega)
theorem set_none{l:KVs}{key:ByteArray}(val:ByteArray)(h:NoneBefore l key l.length):setKV l key val=l++[(key,val)]:=by
 induction l with
 | nil=>rfl
 | cons x r ih=>
  have h0:=h 0 (by simp)
  have h0':x.1.toList≠key.toList:=by simpa using h0
  simp only [setKV,List.cons_append]
  rw [if_neg h0',ih fun j hj=>by simpa using h (j+1) (by simpa using hj)]
theorem set_at{l:KVs}{key:ByteArray}(val:ByteArray){k:Nat}(hk:k<l.length)(h:NoneBefore l key k)(he:((l.getD k default).1.toList==key.toList)=true):setKV l key val=l.set k ((l.getD k default).1,val):=by
 induction l generalizing k with
 | nil=>simp at hk
 | cons x r ih=>
  simp only [setKV]
  cases k with
  | zero=>
   have he':x.1.toList=key.toList:=by simpa using he
   rw [if_pos he'];simp
  | succ k=>
   have h0:=h 0 (by omega)
   have h0':x.1.toList≠key.toList:=by simpa using h0
   rw [if_neg h0',ih (by simpa using hk) (fun j hj=>by simpa using h (j+1) (by omega)) (by simpa using he)]
   simp
theorem look_none{l:KVs}{key:ByteArray}(h:NoneBefore l key l.length):lookKV l key=none:=by
 induction l with
 | nil=>rfl
 | cons x r ih=>
  have h0:=h 0 (by simp)
  have h0':x.1.toList≠key.toList:=by simpa using h0
  simp only [lookKV]
  rw [if_neg h0',ih fun j hj=>by simpa using h (j+1) (by simpa using hj)]
theorem look_at{l:KVs}{key:ByteArray}{k:Nat}(hk:k<l.length)(h:NoneBefore l key k)(he:((l.getD k default).1.toList==key.toList)=true):lookKV l key=some (l.getD k default).2:=by
 induction l generalizing k with
 | nil=>simp at hk
 | cons x r ih=>
  simp only [lookKV]
  cases k with
  | zero=>
   have he':x.1.toList=key.toList:=by simpa using he
   rw [if_pos he'];simp
  | succ k=>
   have h0:=h 0 (by omega)
   have h0':x.1.toList≠key.toList:=by simpa using h0
   rw [if_neg h0',ih (by simpa using hk) (fun j hj=>by simpa using h (j+1) (by omega)) (by simpa using he)]
   simp
theorem dist_of{l:KVs}(h:∀i,i<l.length→∀j,j<i→((l.getD j default).1.toList==(l.getD i default).1.toList)=false):DistKV l:=by
 unfold DistKV
 rw [List.pairwise_iff_getElem]
 intro i j hi hj hij
 have :=h j hj i hij
 rw [List.getD_eq_getElem?_getD,List.getD_eq_getElem?_getD,List.getElem?_eq_getElem hi,List.getElem?_eq_getElem hj]at this
 simpa using this
theorem Tryz.infoKV:(Tryz.prog.info? 61).map (fun i=>(i.zero,i.size,i.bytes))=some (some (.agg #[.string ByteArray.empty,.string ByteArray.empty]),2,32):=by kernel_rfl
def kvCells(l:KVs):List Value:=l.flatMap fun x=>[.string x.1,.string x.2]
theorem kvCells_snoc(l:KVs)(x:ByteArray×ByteArray):kvCells (l++[x])=kvCells l++[.string x.1,.string x.2]:=by simp [kvCells]
def OwnKV(w:World)(B:Nat)(v:Value)(l:KVs):Prop:=w.ownsRow B 61 2 v l.length (kvCells l)
theorem kvCells_get:∀(l:KVs) (i:Nat),i<l.length→(kvCells l)[i*2]? =some (.string (l.getD i default).1)∧(kvCells l)[i*2+1]? =some (.string (l.getD i default).2):=by
 intro l
 induction l with
 | nil=>intro i hi;simp at hi
 | cons x l ih=>
  intro i hi
  have hc:kvCells (x::l)=[.string x.1,.string x.2]++kvCells l:=by simp [kvCells]
  rw [hc]
  cases i with
  | zero=>simp
  | succ i=>
   have hi':i<l.length:=by simpa using hi
   obtain⟨h1,h2⟩:=ih i hi'
   rw [show(i+1)*2=2+i*2 by omega]
   refine⟨?_,?_⟩
   ·rw [List.getElem?_append_right (by simp)];simpa using h1
   ·rw [List.getElem?_append_right (by simp;omega)];simpa [show 2+i*2+1-2=i*2+1 by omega]using h2
theorem OwnKV.at_{w:World}{B:Nat}{v:Value}{l:KVs}(h:OwnKV w B v l)(hs:∀x∈l,x.1.size≤maxLen∧x.2.size≤maxLen):∃a cap,v=.slice a l.length cap∧AttrsAt w a l.length l:=by
 rcases h.2 with ⟨rfl,h0⟩ | ⟨g,cap,cur,rfl,hb,hg,hn,hm,hcs,ht⟩
 ·exact⟨none,0,by rw [h0],rfl,by rw [h0];exact Nat.zero_le _,hs,fun h=>by omega⟩
 ·refine⟨_,cap,rfl,rfl,by omega,hs,fun hl=>⟨g,0,rfl,fun i hi=>?_⟩⟩
  have hadd:∀j,(⟨g,0,none⟩:Addr).add j=⟨g,0+j,none⟩:=fun j=>by unfold Addr.add;split <;> simp_all
  obtain⟨h1,h2⟩:=kvCells_get l i hi
  have c1:=World.ownsRow.cells (h:=h) (g:=g) rfl _ _ h1
  have c2:=World.ownsRow.cells (h:=h) (g:=g) rfl _ _ h2
  rw [hadd]at c1 c2
  exact⟨c1,by rw [Nat.add_assoc];exact c2⟩
theorem OwnKV.below{w w':World}{B:Nat}{v:Value}{l:KVs}(h:OwnKV w B v l)(hb:Below w.heap.size w w'):OwnKV w' B v l:=ownsRow_kept h (fun k hk=>hb.block k (World.ownsRow.lt h k hk).2)
theorem ownsRow_slice{w:World}{B:Nat}{e:TypeId}{size:Nat}{v:Value}{n:Nat}{xs:List Value}(h:w.ownsRow B e size v n xs):∃a c,v=.slice a n c:=by
 rcases h.2 with ⟨rfl,rfl⟩ | ⟨g,cap,cur,rfl,_⟩
 ·exact⟨_,_,rfl⟩
 ·exact⟨_,_,rfl⟩
def knotCells(z:Int)(n:NodeD)(av:Value)(u:Option Nat)(kv:Value):Array Value:=
 #[.int .i64 z,.int .i64 n.kind,.string n.tag,.string n.text,av,.int .i64 n.size,lk u,kv]
structure Knots (B:Nat) (w:World) (n:Nat) (kn:Nat→Nat) (kv av:Nat→Value) (pl:Nat→Int) (lab:Nat→NodeD) (F:Wd):Prop where
 node:∀i,i<n→World.objAt w (kn i) (knotCells (pl i) (lab i) (av i) ((F.up i).map kn) (kv i)) 97
 row:∀i,i<n→w.ownsRow B 69 1 (kv i) (F.kids i).length ((F.kids i).map fun y=>ptrV (kn y))
 attrs:∀i,i<n→OwnKV w B (av i) (lab i).attrs
 base:∀i,i<n→B≤kn i
 inj:∀i j,i<n→j<n→kn i=kn j→i=j
theorem objAt_ne_own{w:World}{b:Nat}{cs:Array Value}{t:TypeId}(h:World.objAt w b cs t){B:Nat}{e:TypeId}{size:Nat}{v:Value}{n:Nat}{xs:List Value}(ho:w.ownsRow B e size v n xs)(hne:t≠e):v.ownBlock≠some b:=by
 intro hb
 obtain⟨cur,hc⟩:=ownsRow_type ho hb
 unfold World.objAt at h
 rw [hc]at h
 simp only [Option.some.injEq,Obj.cells.injEq]at h
 exact hne h.2.1.symm
theorem Knots.below{B:Nat}{w w':World}{n:Nat}{kn:Nat→Nat}{kv av:Nat→Value}{pl:Nat→Int}{lab:Nat→NodeD}{F:Wd}(h:Knots B w n kn kv av pl lab F)(hb:Below w.heap.size w w'):Knots B w' n kn kv av pl lab F:=
 ⟨fun i hi=>(h.node i hi).below hb (h.node i hi).lt,fun i hi=>ownsRow_kept (h.row i hi) (fun k hk=>hb.block k (World.ownsRow.lt (h.row i hi) k hk).2),fun i hi=>(h.attrs i hi).below hb,h.base,h.inj⟩
theorem Knots.congr{B:Nat}{w:World}{n:Nat}{kn:Nat→Nat}{kv av:Nat→Value}{pl:Nat→Int}{lab:Nat→NodeD}{F F':Wd}(h:Knots B w n kn kv av pl lab F)(hk:∀i,i<n→F'.kids i=F.kids i)(hu:∀i,i<n→F'.up i=F.up i):Knots B w n kn kv av pl lab F':=
 ⟨fun i hi=>by rw [hu i hi];exact h.node i hi,fun i hi=>by rw [hk i hi];exact h.row i hi,h.attrs,h.base,h.inj⟩
structure OnlyK (n:Nat) (kn:Nat→Nat) (w w':World):Prop where
 size:w.heap.size≤w'.heap.size
 block:∀k,k<w.heap.size→(∀i,i<n→k≠kn i)→w'.heap[k]? =w.heap[k]?
 below:∀B,B≤w.heap.size→(∀i,i<n→B≤kn i)→Below B w w'
theorem OnlyK.refl(n:Nat)(kn:Nat→Nat)(w:World):OnlyK n kn w w:=⟨Nat.le_refl _,fun _ _ _=>rfl,fun _ _ _=>Below.refl _ _⟩
theorem OnlyK.trans{n:Nat}{kn:Nat→Nat}{a b c:World}(h:OnlyK n kn a b)(h':OnlyK n kn b c):OnlyK n kn a c:=
 ⟨Nat.le_trans h.size h'.size,fun k hk hn=>(h'.block k (Nat.lt_of_lt_of_le hk h.size) hn).trans (h.block k hk hn),fun B hB hn=>(h.below B hB hn).trans (h'.below B (Nat.le_trans hB h.size) hn)⟩
theorem OnlyK.of_below{n:Nat}{kn:Nat→Nat}{w w':World}(h:Below w.heap.size w w'):OnlyK n kn w w':=⟨h.size,fun k hk _=>h.block k hk,fun B hB _=>h.mono hB⟩
theorem OnlyK.set{n:Nat}{kn:Nat→Nat}{a w:World}(h:OnlyK n kn a w){i:Nat}(hi:i<n){cs:Array Value}{t:TypeId}(ho:World.objAt w (kn i) cs t)(o:Nat)(v:Value):OnlyK n kn a (w.setCell ⟨kn i,o,none⟩ v):=by
 have hs:(w.setCell ⟨kn i,o,none⟩ v).heap.size=w.heap.size:=by rw [setCell_heap ho];simp
 refine⟨by rw [hs];exact h.size,fun k hk hn=>?_,fun B hB hn=>ho.setBelow o v (h.below B hB hn) (hn i hi)⟩
 rw [setCell_heap ho]
 have :(w.heap.setIfInBounds (kn i) (.cells (cs.setIfInBounds o v) t (0,0)))[k]? =w.heap[k]? :=Array.getElem?_setIfInBounds_ne (Ne.symm (hn i hi))
 rw [this]
 exact h.block k hk hn
theorem setCell_block{w:World}{b:Nat}{cs:Array Value}{t:TypeId}(h:World.objAt w b cs t)(o:Nat)(v:Value){k:Nat}(hk:k≠b):(w.setCell ⟨b,o,none⟩ v).heap[k]? =w.heap[k]? :=by
 rw [setCell_heap h]
 exact Array.getElem?_setIfInBounds_ne (Ne.symm hk)
def updV(f:Nat→Value)(x:Nat)(v:Value):Nat→Value:=fun i=>if i=x then v else f i
theorem Knots.set7{B:Nat}{w:World}{n:Nat}{kn:Nat→Nat}{kv av:Nat→Value}{pl:Nat→Int}{lab:Nat→NodeD}{F:Wd}(h:Knots B w n kn kv av pl lab F){p:Nat}(hp:p<n){v:Value}{l:List Nat}(hv:w.ownsRow B 69 1 v l.length (l.map fun y=>ptrV (kn y))):
  Knots B (w.setCell ⟨kn p,7,none⟩ v) n kn (updV kv p v) av pl lab ⟨fun q=>if q=p then l else F.kids q,F.up⟩:=by
 have hop:=h.node p hp
 have hkeep:∀{e:TypeId} {size:Nat} {u:Value} {m:Nat} {xs:List Value},97≠e→w.ownsRow B e size u m xs→(w.setCell ⟨kn p,7,none⟩ v).ownsRow B e size u m xs:=fun hne ho=>ownsRow_kept ho (fun k hk=>setCell_block hop 7 v (fun e=>objAt_ne_own hop ho hne (by rw [hk,e])))
 refine⟨fun i hi=>?_,fun i hi=>?_,fun i hi=>hkeep (by decide) (h.attrs i hi),h.base,h.inj⟩
 ·unfold updV
  by_cases e:i=p
  ·subst e
   rw [if_pos rfl]
   exact hop.set 7 v
  ·rw [if_neg e]
   have :=h.node i hi
   unfold World.objAt at this ⊢
   rw [setCell_block hop 7 v (fun he=>e (h.inj i p hi hp he))]
   exact this
 ·unfold updV
  by_cases e:i=p
  ·subst e
   simp only [if_true]
   exact hkeep (by decide) hv
  ·simp only [if_neg e]
   exact hkeep (by decide) (h.row i hi)
theorem Knots.set6{B:Nat}{w:World}{n:Nat}{kn:Nat→Nat}{kv av:Nat→Value}{pl:Nat→Int}{lab:Nat→NodeD}{F:Wd}(h:Knots B w n kn kv av pl lab F){x:Nat}(hx:x<n)(u:Option Nat):
  Knots B (w.setCell ⟨kn x,6,none⟩ (lk (u.map kn))) n kn kv av pl lab ⟨F.kids,fun q=>if q=x then u else F.up q⟩:=by
 have hop:=h.node x hx
 have hkeep:∀{e:TypeId} {size:Nat} {v:Value} {m:Nat} {xs:List Value},97≠e→w.ownsRow B e size v m xs→(w.setCell ⟨kn x,6,none⟩ (lk (u.map kn))).ownsRow B e size v m xs:=fun hne ho=>ownsRow_kept ho (fun k hk=>setCell_block hop 6 _ (fun e=>objAt_ne_own hop ho hne (by rw [hk,e])))
 refine⟨fun i hi=>?_,fun i hi=>hkeep (by decide) (h.row i hi),fun i hi=>hkeep (by decide) (h.attrs i hi),h.base,h.inj⟩
 by_cases e:i=x
 ·subst e
  simp only [if_true]
  exact hop.set 6 _
 ·simp only [if_neg e]
  have :=h.node i hi
  unfold World.objAt at this ⊢
  rw [setCell_block hop 6 _ (fun he=>e (h.inj i x hi hx he))]
  exact this
theorem Knots.cells{B:Nat}{w:World}{n:Nat}{kn:Nat→Nat}{kv av:Nat→Value}{pl:Nat→Int}{lab:Nat→NodeD}{F:Wd}(h:Knots B w n kn kv av pl lab F){i:Nat}(hi:i<n):
  w.cell? ⟨kn i,0,none⟩=some (.int .i64 (pl i))∧w.cell? ⟨kn i,6,none⟩=some (lk ((F.up i).map kn))∧w.cell? ⟨kn i,7,none⟩=some (kv i):=
 ⟨(h.node i hi).cell rfl,(h.node i hi).cell rfl,(h.node i hi).cell rfl⟩
theorem Knots.alive{B:Nat}{w:World}{n:Nat}{kn:Nat→Nat}{kv av:Nat→Value}{pl:Nat→Int}{lab:Nat→NodeD}{F:Wd}(h:Knots B w n kn kv av pl lab F){i:Nat}(hi:i<n):Alive w (kn i):=⟨_,_,h.node i hi⟩
theorem Knots.ne{B:Nat}{w:World}{n:Nat}{kn:Nat→Nat}{kv av:Nat→Value}{pl:Nat→Int}{lab:Nat→NodeD}{F:Wd}(h:Knots B w n kn kv av pl lab F){i j:Nat}(hi:i<n)(hj:j<n)(e:i≠j):kn i≠kn j:=fun he=>e (h.inj i j hi hj he)
theorem own_open{w:World}{B:Nat}{e:TypeId}{v:Value}{l:List Nat}{kn:Nat→Nat}(h:w.ownsRow B e 1 v l.length (l.map fun y=>ptrV (kn y))):
  ∃a cap g,v=.slice a l.length cap∧l.length≤cap∧cap≤9223372036854775807∧(0<l.length→a=some ⟨g,0,none⟩)∧(∀i,i<l.length→w.cell? ⟨g,i,none⟩=some (.pointer (some ⟨kn (l.getD i 0),0,none⟩)))∧(a=none∨a=some ⟨g,0,none⟩)∧(a=none→cap=0):=by
 rcases h.2 with ⟨rfl,h0⟩ | ⟨g,cap,cur,rfl,hb,hg,hn,hm,hcs,ht⟩
 ·exact⟨none,0,0,by rw [h0],by omega,by omega,fun h=>by omega,fun i hi=>by omega,.inl rfl,fun _=>rfl⟩
 ·refine⟨_,cap,g,rfl,hn,hm,fun _=>rfl,fun i hi=>?_,.inr rfl,fun h=>by cases h⟩
  have :=h.cells (g:=g) rfl i (ptrV (kn (l.getD i 0))) (by simp [List.getD,hi])
  rwa [show(⟨g,0,none⟩:Addr).add i=⟨g,i,none⟩ by unfold Addr.add;split <;> simp_all]at this
theorem nodup_len:∀(n:Nat) (l:List Nat),l.Nodup→(∀x∈l,x<n)→l.length≤n
 | 0,l,_,h=>by
  cases l with
  | nil=>exact Nat.le_refl _
  | cons a r=>have :=h a (List.mem_cons_self ..);omega
 | n+1,l,hd,h=>by
  by_cases hm:n∈l
  ·obtain⟨a,b,rfl⟩:=List.append_of_mem hm
   obtain⟨h1,h2,h3,_⟩:=nd_parts hd
   have :=nodup_len n (a++b) h3 (fun x hx=>by
    have h4:x<n+1:=h x (by
     rw [List.mem_append,List.mem_cons]
     rw [List.mem_append]at hx
     rcases hx with hx | hx
     ·exact .inl hx
     ·exact .inr (.inr hx))
    have h5:x≠n:=fun e=>by
     subst e
     rw [List.mem_append]at hx
     rcases hx with hx | hx
     ·exact h1 hx
     ·exact h2 hx
    omega)
   rw [List.length_append]at this
   rw [List.length_append,List.length_cons]
   omega
  ·have :=nodup_len n l hd (fun x hx=>by
    have h4:=h x hx
    have h5:x≠n:=fun e=>hm (e▸hx)
    omega)
   omega
theorem WOk.few{n:Nat}{F:Wd}(h:WOk n F)(x:Nat):(F.kids x).length≤n:=nodup_len n _ (h.nd x) (fun y hy=>(h.lt x y hy).2)
theorem Tryz.knot_info:∃j,Tryz.prog.info? 97=some j∧j.size≠0:=by
 have h:(Tryz.prog.info? 97).map (fun i=>decide (i.size≠0))=some true:=by kernel_rfl
 obtain⟨i,hi,hz⟩:=Option.map_eq_some_iff.1 h
 exact⟨i,hi,of_decide_eq_true hz⟩
theorem eqlK_same(w:World)(b:Nat):(binOp .eql 69 (.pointer (some ⟨b,0,none⟩)) (.pointer (some ⟨b,0,none⟩))).run Tryz.prog w=.ok (.bool true) w:=by
 obtain⟨j,hj,_⟩:=Tryz.knot_info
 exact run_eql_ptr_same w _ Tryz.underlying69 hj
theorem eqlK_other{w:World}{a b:Nat}(ha:Alive w a)(hb:Alive w b)(hne:a≠b):(binOp .eql 69 (.pointer (some ⟨a,0,none⟩)) (.pointer (some ⟨b,0,none⟩))).run Tryz.prog w=.ok (.bool false) w:=by
 obtain⟨j,hj,hz⟩:=Tryz.knot_info
 obtain⟨ca,ta,ha⟩:=ha
 obtain⟨cb,tb,hb⟩:=hb
 exact run_eql_ptr_other w Tryz.underlying69 hj hz (by simp [hne]) ha hb
theorem Tryz.infoKnotP:(Tryz.prog.info? 69).map (fun i=>(i.zero,i.size,i.bytes))=some (some (.pointer none),1,8):=by kernel_rfl
def KIntPost(z:Int)(w:World)(e:Ending)(w':World):Prop:=e=.returned (.int .i64 z)∧w=w'
set_option maxRecDepth 100000 in
set_option maxHeartbeats 1000000 in
theorem place_none{B:Nat}{w:World}{n:Nat}{kn:Nat→Nat}{kv av:Nat→Value}{pl:Nat→Int}{lab:Nat→NodeD}{F:Wd}(h:Knots B w n kn kv av pl lab F){x:Nat}(hx:x<n)(hu:F.up x=none):
  Calls Tryz.prog 107 #[.pointer (some ⟨kn x,0,none⟩)] w (KIntPost (-1) w):=by
 have c6:=(h.cells hx).2.1
 rw [hu]at c6
 simp only [Option.map_none,lk_none]at c6
 clear h
 go_enter Tryz.func107,Tryz.ntmps107
 go_wp2
 go_ret
 exact⟨rfl,rfl⟩
set_option maxRecDepth 100000 in
set_option maxHeartbeats 1000000 in
theorem place_some{B:Nat}{w:World}{n:Nat}{kn:Nat→Nat}{kv av:Nat→Value}{pl:Nat→Int}{lab:Nat→NodeD}{F:Wd}(h:Knots B w n kn kv av pl lab F)(hF:WOk n F){x p:Nat}{a b:List Nat}(hl:F.kids p=a++x::b):
  Calls Tryz.prog 107 #[.pointer (some ⟨kn x,0,none⟩)] w (KIntPost (a.length:Int) w):=by
 have hu:F.up x=some p:=(hF.iff p x).1 (by rw [hl];simp)
 obtain⟨hx,hp⟩:=hF.lt p x (by rw [hl];simp) |>.symm
 have c6:=(h.cells hx).2.1
 have c7:=(h.cells hp).2.2
 rw [hu]at c6
 simp only [Option.map_some,lk_some]at c6
 have hrow:=h.row p hp
 obtain⟨s,cap,g,hv,hcap,hcm,hs,hc,_,_⟩:=own_open hrow
 have hlen:(F.kids p).length=a.length+1+b.length:=by rw [hl];simp;omega
 have hs:=hs (by omega)
 have hnd:=hF.nd p
 rw [hl]at hnd
 obtain⟨n1,_⟩:=nd_parts hnd
 have hcx:w.cell? ⟨g,a.length,none⟩=some (.pointer (some ⟨kn x,0,none⟩)):=by
  have :=hc a.length (by omega)
  rw [hl]at this
  simpa [List.getD]using this
 have hca:∀k,k<a.length→∃y,y<n∧y≠x∧w.cell? ⟨g,k,none⟩=some (.pointer (some ⟨kn y,0,none⟩)):=fun k hk=>by
  have h1:=hc k (by omega)
  have hm:(F.kids p).getD k 0∈a:=by
   rw [hl,List.getD_eq_getElem?_getD,List.getElem?_append_left hk,List.getElem?_eq_getElem hk]
   exact List.getElem_mem _
  exact⟨_,(hF.lt p _ (getD_mem' (by omega))).2,fun e=>n1 (e▸hm),h1⟩
 have hkc:=hF.few p
 rw [hv]at c7
 rw [hs]at c7
 obtain⟨L,hL⟩:∃L,(F.kids p).length=L:=⟨_,rfl⟩
 rw [hL]at c7 hlen hcap
 have hLm:L≤9223372036854775807:=by omega
 have HCA:=Lib.hid hca
 have HAL:=Lib.hid (fun(i:Nat) (hi:i<n)=>h.alive hi)
 have HNE:=Lib.hid (fun(i j:Nat) (hi:i<n) (hj:j<n) (e:i≠j)=>h.ne hi hj e)
 have HX:=Lib.hid hx
 have heq:=eqlK_same w (kn x)
 clear h hF hu hl hrow hv hcap hs hc hnd n1 hca hL hkc hx hp
 go_enter Tryz.func107,Tryz.ntmps107
 go_wp2
 go_loop [3] (fun i=>∃k:Nat,k≤a.length∧i=.int .i64 (k:Int)) (fun i=>a.length-(intOf i).toNat)
 case atStart=>exact⟨0,by omega,by go_num⟩
 case round=>
  obtain⟨k,hk,rfl⟩:=hrel
  have hkI:(k:Int)<(L:Int):=by omega
  by_cases hlt:k<a.length
  ·obtain⟨y,hy,hyx,ck⟩:=HCA.out k hlt
   have heq2:=eqlK_other (HAL.out y hy) (HAL.out x HX.out) (HNE.out y x hy HX.out hyx)
   clear hyx hy
   go_wp2
   go_round
   case rel=>exact⟨k+1,by omega,by go_num⟩
   case measure=>simp [intOf];omega
  ·obtain rfl:k=a.length:=by omega
   go_wp2
   go_ret
   exact⟨rfl,rfl⟩
section
variable {P:Program} {w:World}
theorem run_append_none2(t ty e:TypeId)(i:TypeInfo)(ht:P.underlying t=some (.slice e))(hi:P.info? e=some i)(b b':Option Addr)(n c c':Nat)(hc:n≤c):
  (Builtin.append_ #[t,t] ty #[.slice b n c,.slice b' 0 c']).run P w=.ok (.slice b n c) w:=by
 cases b <;> cases b' <;> simp [Builtin.append_,run_underlying ht,sizeOf,typeInfo,hi,Builtin.lenOf,hc,Builtin.firstCells,storeCells,Result.andThen,loadCells,loadCellsFrom]
theorem wp_append_none2{o:Oper}{a:Act}{K:Act→World→Prop}{Q:Exit→Act→World→Prop}(s x:Operand)(t:TypeId)
  (ho:o.op=.call {callee:=.builtin .append,args:= #[s,x],argTypes:= #[t,t]})
  (e:TypeId) (i:TypeInfo) (ht:P.underlying t=some (.slice e)) (hi:P.info? e=some i) (b b':Option Addr) (n c c':Nat) (hc:n≤c)
  (hs:a.eval s=.slice b n c) (hx:a.eval x=.slice b' 0 c') (h:K (a.put o.dst (.slice b n c)) w):o.wp P a w K Q:=by
 have hr:=run_append_none2 (P:=P) (w:=w) t o.type e i ht hi b b' n c c' hc
 unfold Oper.wp execOp
 simp only [ho,resolve,invoke,builtin,Sem.run_bind,Sem.run_pure,Result.andThen_ok,List.map_toArray,List.map_cons,List.map_nil,hs,hx,hr]
 exact h
theorem wp_append_reads{o:Oper}{a:Act}{K:Act→World→Prop}{Q:Exit→Act→World→Prop}(s x:Operand)(t:TypeId)
  (ho:o.op=.call {callee:=.builtin .append,args:= #[s,x],argTypes:= #[t,t]})
  (base:Nat) (e:TypeId) (i:TypeInfo) (z:Value) (bytes:Nat) (ht:P.underlying t=some (.slice e)) (hi:P.info? e=some i) (hz:i.zero=some z)
  (hsize:i.size=1) (hby:i.bytes=bytes) (hzs:z.cells.size=1)
  (b:Option Addr) (n c:Nat) (xs:List Value) (hs:a.eval s=.slice b n c) (hown:w.ownsRow base e 1 (.slice b n c) n xs)
  (b':Option Addr) (m c':Nat) (news:List Value) (hx:a.eval x=.slice b' m c') (hrow:Row w b' m news) (h1:∀u∈news,u.oneCell'=true)
  (h63:n+m≤maxLen) (hbytes:(n+m)*bytes≤140737488355328) (hbase:base≤w.heap.size)
  (h:∀b2 c2 w',w'.ownsRow base e 1 (.slice b2 (n+m) c2) (n+m) (xs++news)→w.grownBy w' (Value.slice b n c).ownBlock→K (a.put o.dst (.slice b2 (n+m) c2)) w'):o.wp P a w K Q:=by
 obtain⟨r1,r2,r3⟩:=hrow
 by_cases hm:m=0
 ·subst hm
  have hnil:news=[]:=List.eq_nil_of_length_eq_zero r1
  subst hnil
  have hnc:n≤c:=by
   rcases hown.2 with ⟨hv,_⟩ | ⟨g,cap,cur,hv,_,_,hn,_⟩
   ·simp at hv;omega
   ·simp at hv;omega
  refine wp_append_none2 s x t ho e i ht hi b b' n c c' hnc hs hx ?_
  exact h b c w (by simpa using hown) ⟨rfl,rfl,rfl,Nat.le_refl _,fun _ _ _=>rfl⟩
 ·obtain⟨bb,off,rfl,hc⟩:=r3 (by omega)
  refine wp_append_lies w s x t ho base e i z 1 bytes ht hi hz hsize hby hzs (by omega) (.slice b n c) n xs hs hown ⟨bb,off,none⟩ m c' news hx (by omega) (fun j u hj=>?_) h1 (by omega) h63 hbytes hbase _ rfl (fun g cap w' h2 h3 _ _=>h (some ⟨g,0,none⟩) cap w' h2 h3)
  have hjl:j<news.length:=(List.getElem?_eq_some_iff.1 hj).1
  have hadd:(⟨bb,off,none⟩:Addr).add j=⟨bb,off+j,none⟩:=by unfold Addr.add;split <;> simp_all
  rw [hadd,hc j (by omega),List.getD_eq_getElem?_getD,hj]
  rfl
theorem wpList_append_reads{ops:Array Oper}{rest:List Oper}{o:Oper}{a:Act}{Q:Exit→Act→World→Prop}(hgd:o.guard=none)(s x:Operand)(t:TypeId)
  (ho:o.op=.call {callee:=.builtin .append,args:= #[s,x],argTypes:= #[t,t]})
  (base:Nat) (e:TypeId) (i:TypeInfo) (z:Value) (bytes:Nat) (ht:P.underlying t=some (.slice e)) (hi:P.info? e=some i) (hz:i.zero=some z)
  (hsize:i.size=1) (hby:i.bytes=bytes) (hzs:z.cells.size=1)
  (b:Option Addr) (n c:Nat) (xs:List Value) (hs:a.eval s=.slice b n c) (hown:w.ownsRow base e 1 (.slice b n c) n xs)
  (b':Option Addr) (m c':Nat) (news:List Value) (hx:a.eval x=.slice b' m c') (hrow:Row w b' m news) (h1:∀u∈news,u.oneCell'=true)
  (h63:n+m≤maxLen) (hbytes:(n+m)*bytes≤140737488355328) (hbase:base≤w.heap.size)
  (h:∀b2 c2 w',w'.ownsRow base e 1 (.slice b2 (n+m) c2) (n+m) (xs++news)→w.grownBy w' (Value.slice b n c).ownBlock→wpList P ops Q rest (a.put o.dst (.slice b2 (n+m) c2)) w'):wpList P ops Q (o::rest) a w:=
 wpList_plain hgd fun _ hK=>wp_append_reads s x t ho base e i z bytes ht hi hz hsize hby hzs b n c xs hs hown b' m c' news hx hrow h1 h63 hbytes hbase fun b2 c2 w' h2 h3=>hK _ _ (h b2 c2 w' h2 h3)
theorem step_append_reads{ops:Array Oper}{o:Oper}{a:Act}{K:Act→World→Prop}{Q:Exit→Act→World→Prop}{E:Prop}(hgd:o.guard=none)(s x:Operand)(t:TypeId)
  (ho:o.op=.call {callee:=.builtin .append,args:= #[s,x],argTypes:= #[t,t]})
  (base:Nat) (e:TypeId) (i:TypeInfo) (z:Value) (bytes:Nat) (ht:P.underlying t=some (.slice e)) (hi:P.info? e=some i) (hz:i.zero=some z)
  (hsize:i.size=1) (hby:i.bytes=bytes) (hzs:z.cells.size=1)
  (b:Option Addr) (n c:Nat) (xs:List Value) (hs:a.eval s=.slice b n c) (hown:w.ownsRow base e 1 (.slice b n c) n xs)
  (b':Option Addr) (m c':Nat) (news:List Value) (hx:a.eval x=.slice b' m c') (hrow:Row w b' m news) (h1:∀u∈news,u.oneCell'=true)
  (h63:n+m≤maxLen) (hbytes:(n+m)*bytes≤140737488355328) (hbase:base≤w.heap.size)
  (h:∀b2 c2 w',w'.ownsRow base e 1 (.slice b2 (n+m) c2) (n+m) (xs++news)→w.grownBy w' (Value.slice b n c).ownBlock→K (a.put o.dst (.slice b2 (n+m) c2)) w'):
  if Region.wanted o (yielded ops a.tmps)=true then Oper.wp P o a w K Q else E:=by
 have hw:Region.wanted o (yielded ops a.tmps)=true:=by simp [Region.wanted,hgd]
 rw [if_pos hw]
 exact wp_append_reads s x t ho base e i z bytes ht hi hz hsize hby hzs b n c xs hs hown b' m c' news hx hrow h1 h63 hbytes hbase h
end
theorem owns_empty(w:World)(B:Nat)(hB:B≤w.heap.size)(e:TypeId):(w.alloc (.cells #[] e)).ownsRow B e 1 (.slice (some ⟨w.heap.size,0,none⟩) 0 0) 0 []:=
 ⟨rfl,.inr ⟨w.heap.size,0, #[],rfl,hB,heap_alloc_new w _,Nat.le_refl _,Nat.zero_le _,rfl,rfl⟩⟩
end Go.Proofs.YtkdomegcacgpnaaGreat
