/- Parts of a proof: RemSay, GoIndex, UClsPure, JoinZ, UClsText. -/
import Derived.Test.YtkdomegcacgpnaaGreatG09
import Derived.Test.YtkdomegcacgpnaaGreatG08
import Derived.Test.YtkdomegcacgpnaaGreatG30
import Derived.BigGuardPart
import Derived.Shelf.Strings.OnBuilder
import Derived.Test.YtkdomegcacgpnaaGreatProg
import Derived.Test.YtkdomegcacgpnaaGreatG29
set_option linter.unusedVariables false
set_option linter.unusedSimpArgs false
namespace Go.Proofs.YtkdomegcacgpnaaGreat
theorem dist_at{l:KVs}(h:DistKV l){a b:Nat}(ha:a<l.length)(hb:b<l.length)(hne:a≠b):(l.getD a default).1.toList≠(l.getD b default).1.toList:=by
 unfold DistKV at h
 rw [List.pairwise_iff_getElem]at h
 rw [List.getD_eq_getElem?_getD,List.getD_eq_getElem?_getD,List.getElem?_eq_getElem ha,List.getElem?_eq_getElem hb]
 rcases Nat.lt_or_gt_of_ne hne with h1 | h1
 ·exact h a b ha hb h1
 ·exact fun e=>h b a hb ha h1 e.symm
theorem dist_mk{l:KVs}(h:∀a b,a<l.length→b<l.length→a<b→(l.getD a default).1.toList≠(l.getD b default).1.toList):DistKV l:=by
 unfold DistKV
 rw [List.pairwise_iff_getElem]
 intro a b ha hb hab
 have :=h a b ha hb hab
 rw [List.getD_eq_getElem?_getD,List.getD_eq_getElem?_getD,List.getElem?_eq_getElem ha,List.getElem?_eq_getElem hb]at this
 exact this
theorem swap_get{l:KVs}{i j:Nat}{e:ByteArray×ByteArray}(hj:j+1<l.length):((l.set i e).dropLast).getD j default=if j=i then e else l.getD j default:=by
 rw [List.getD_eq_getElem?_getD,List.getElem?_dropLast,List.length_set,if_pos (by omega),List.getElem?_set]
 by_cases h:i=j
 ·subst h
  rw [if_pos rfl,if_pos (by omega),if_pos rfl]
  rfl
 ·rw [if_neg h,if_neg (Ne.symm h),List.getD_eq_getElem?_getD]
structure RemSayK (K:List UInt8) (l l':KVs):Prop where
 dist:DistKV l'
 mem:∀x,x∈l'↔x∈l∧(x.1.toList==K)=false
 len:l'.length≤l.length
abbrev RemSay:=RemSayK [99,108,97,115,115]
theorem getD_mem_kv{l:KVs}{j:Nat}(h:j<l.length):l.getD j default∈l:=by
 rw [List.getD_eq_getElem?_getD,List.getElem?_eq_getElem h];exact List.getElem_mem _
theorem mem_getD_kv{l:KVs}{x:ByteArray×ByteArray}(h:x∈l):∃j,j<l.length∧l.getD j default=x:=by
 obtain⟨j,hj,e⟩:=List.getElem_of_mem h
 exact⟨j,hj,by rw [List.getD_eq_getElem?_getD,List.getElem?_eq_getElem hj];exact e⟩
theorem remK_say{K:List UInt8}{l l':KVs}(hd:DistKV l)(h:RemK K l l'):RemSayK K l l':=by
 rcases h with ⟨hn,rfl⟩ | ⟨i,hi,hc,rfl⟩
 ·exact⟨hd,fun x=>⟨fun hx=>⟨hx,hn x hx⟩,fun hx=>hx.1⟩,Nat.le_refl _⟩
 ·have hlen:((l.set i (l.getD (l.length-1) default)).dropLast).length=l.length-1:=by simp
  have hcls:∀j,j<l.length→j≠i→((l.getD j default).1.toList==K)=false:=fun j hj hne=>by
   have h1:=dist_at hd hj hi hne
   have h2:=eq_of_beq hc
   rw [h2]at h1
   simpa using h1
  have hidx:∀j,j+1<l.length→∃k,k<l.length∧k≠i∧((l.set i (l.getD (l.length-1) default)).dropLast).getD j default=l.getD k default∧((j=i∧k=l.length-1)∨(j≠i∧k=j)):=fun j hj=>by
   rw [swap_get hj]
   by_cases e:j=i
   ·exact⟨l.length-1,by omega,by omega,by rw [if_pos e],.inl ⟨e,rfl⟩⟩
   ·exact⟨j,by omega,e,by rw [if_neg e],.inr ⟨e,rfl⟩⟩
  refine⟨dist_mk (fun a b ha hb hab=>?_),fun x=>⟨fun hx=>?_,fun hx=>?_⟩,by rw [hlen];omega⟩
  ·rw [hlen]at ha hb
   obtain⟨ka,a1,a2,a3,a4⟩:=hidx a (by omega)
   obtain⟨kb,b1,b2,b3,b4⟩:=hidx b (by omega)
   rw [a3,b3]
   refine dist_at hd a1 b1 ?_
   rcases a4 with ⟨_,e1⟩ | ⟨_,e1⟩ <;> rcases b4 with ⟨_,e2⟩ | ⟨_,e2⟩ <;> omega
  ·obtain⟨j,hj,rfl⟩:=mem_getD_kv hx
   rw [hlen]at hj
   obtain⟨k,a1,a2,a3,_⟩:=hidx j (by omega)
   rw [a3]
   exact⟨getD_mem_kv a1,hcls k a1 a2⟩
  ·obtain⟨hx1,hx2⟩:=hx
   obtain⟨k,hk,rfl⟩:=mem_getD_kv hx1
   have hki:k≠i:=fun e=>by rw [e,hc]at hx2;cases hx2
   by_cases hl:k+1<l.length
   ·have h1:=swap_get (i:=i) (e:=l.getD (l.length-1) default) hl
    rw [if_neg hki]at h1
    rw [←h1]
    exact getD_mem_kv (by rw [hlen];omega)
   ·have hk2:k=l.length-1:=by omega
    have h1:=swap_get (l:=l) (i:=i) (j:=i) (e:=l.getD (l.length-1) default) (by omega)
    rw [if_pos rfl]at h1
    have h2:=getD_mem_kv (l:=(l.set i (l.getD (l.length-1) default)).dropLast) (j:=i) (by rw [hlen];omega)
    rw [h1]at h2
    rw [hk2]
    exact h2
theorem remC_say{l l':KVs}(hd:DistKV l)(h:RemC l l'):RemSay l l':=remK_say hd h
end Go.Proofs.YtkdomegcacgpnaaGreat
namespace Go.Proofs.YtkdomegcacgpnaaGreat
open Go.RowKit
def standsAt(s p:ByteArray)(i:Nat):Bool:=(s.extract i (i+p.size)).toList==p.toList
theorem standsAt_list{s p:ByteArray}{i:Nat}(hi:i+p.size≤s.size):standsAt s p i=true↔∃A B,A.length=i∧s.data.toList=A++p.data.toList++B:=by
 unfold standsAt
 rw [beq_iff_eq,ByteArray.toList_eq,ByteArray.toList_eq,extract_list,show i+p.size-i=p.size by omega]
 have hl:s.data.toList.length=s.size:=(size_list s).symm
 have hp:p.data.toList.length=p.size:=(size_list p).symm
 constructor
 ·intro h
  refine⟨s.data.toList.take i,(s.data.toList.drop i).drop p.size,by rw [List.length_take];omega,?_⟩
  rw [←h,List.append_assoc,List.take_append_drop,List.take_append_drop]
 ·rintro⟨A,B,h1,h2⟩
  rw [h2,List.append_assoc,List.drop_left' h1,List.take_left' hp]
def InL(P L:List UInt8):Prop:=∃A B,L=A++P++B
def FoundPost(s p:ByteArray)(w:World)(e:Ending)(w':World):Prop:=∃z:Int,e=.returned (.int .i64 z)∧((z= -1∧¬InL p.data.toList s.data.toList)∨∃A B,z=(A.length:Int)∧s.data.toList=A++p.data.toList++B)∧w=w'
set_option maxRecDepth 100000 in
set_option maxHeartbeats 1000000 in
theorem goIndex_any(s p:ByteArray)(w:World)(hs:s.size≤4611686018427387904)(hp:p.size≤3000000):
  Calls Tryz.prog 126 #[.string s,.string p] w (FoundPost s p w):=by
 go_enter Tryz.func126,Tryz.ntmps126
 go_wp2
 go_loop [5] (fun i=>∃k:Nat,k≤s.size+1∧i=.int .i64 k∧Hid (∀j,j<k→j+p.size≤s.size→standsAt s p j=false)) (fun i=>s.size+1-(intOf i).toNat)
 case atStart=>exact⟨0,by omega,rfl,Lib.hid (fun j hj=>by omega)⟩
 case round=>
  obtain⟨k,hk,rfl,HF⟩:=hrel
  by_cases hlt:k+p.size≤s.size
  ·have hltI:decide ((k:Int)+(p.size:Int)≤(s.size:Int))=true:=by simp;omega
   cases hb:standsAt s p k
   ·have HB:=Lib.hid hb
    unfold standsAt at hb
    go_wp2
    go_round
    case rel=>exact⟨k+1,by omega,by go_num,Lib.hid (fun j hj hj2=>by
     rcases Nat.lt_or_ge j k with h | h
     ·exact HF.out j h hj2
     ·obtain rfl:j=k:=by omega
      exact HB.out)⟩
    case measure=>simp [intOf];omega
   ·have HB:=Lib.hid hb
    unfold standsAt at hb
    go_wp2
    go_ret
    obtain⟨A,B,h1,h2⟩:=(standsAt_list hlt).1 HB.out
    exact⟨_,rfl,.inr ⟨A,B,by rw [h1],h2⟩,rfl⟩
  ·have hltI:decide ((k:Int)+(p.size:Int)≤(s.size:Int))=false:=by simp;omega
   go_wp2
   go_ret
   refine⟨-1,rfl,.inl ⟨rfl,?_⟩,rfl⟩
   rintro⟨A,B,h⟩
   have hl:=congrArg List.length h
   simp only [List.length_append,←size_list]at hl
   have h1:A.length+p.size≤s.size:=by omega
   have h2:=(standsAt_list h1).2 ⟨A,B,rfl,h⟩
   rw [HF.out A.length (by omega) h1]at h2
   cases h2
def InPost(s p:ByteArray)(w:World)(e:Ending)(w':World):Prop:=∃b:Bool,e=.returned (.bool b)∧(b=true↔InL p.data.toList s.data.toList)∧w=w'
set_option maxRecDepth 100000 in
theorem goContains_any(s p:ByteArray)(w:World)(hs:s.size≤4611686018427387904)(hp:p.size≤3000000):
  Calls Tryz.prog 77 #[.string s,.string p] w (InPost s p w):=by
 have HI:=Lib.hid (goIndex_any s p w hs hp)
 go_enter Tryz.func77,Tryz.ntmps77
 go_wp2_with fail
 refine HI.out.mono ?_
 rintro e w1 ⟨z,rfl,hz,rfl⟩
 rcases hz with ⟨rfl,hn⟩ | ⟨A,B,rfl,h⟩
 ·have HN:=Lib.hid hn
  clear hn
  go_wp2
  go_ret
  exact⟨false,rfl,by simpa using HN.out,rfl⟩
 ·have HN:=Lib.hid (show InL p.data.toList s.data.toList from⟨A,B,h⟩)
  clear h
  have hd:decide ((0:Int)≤(A.length:Int))=true:=by simp
  go_wp2
  go_ret
  exact⟨true,rfl,by simpa using HN.out,rfl⟩
end Go.Proofs.YtkdomegcacgpnaaGreat
namespace Go.Proofs.YtkdomegcacgpnaaGreat
abbrev Wds:=List (List UInt8)
def clsB(b:UInt8):Prop:=b.toNat<128∧b.toNat≠11∧b.toNat≠12
structure Cls (c:List UInt8) (W:Wds) (n:Nat):Prop where
 pad:Padded c
 words:wl c=W
 asc:∀b∈c,clsB b
 len:c.length≤n
structure NameOk (w:List UInt8):Prop where
 ne:w≠[]
 sp:NoSp w
 asc:∀b∈w,clsB b
 len:w.length≤1048576
theorem trB_cls{b:UInt8}(h:clsB b):clsB (trB b):=by
 unfold trB
 split
 ·exact⟨by decide,by decide,by decide⟩
 ·exact h
theorem trB_blank{b:UInt8}(h:clsB b)(hs:spaceB (trB b)=true):trB b=32:=by
 unfold trB at *
 split at hs
 ·rename_i h1;rw [if_pos h1]
 ·rename_i h1
  rw [if_neg h1]
  unfold spaceB spaceI at hs
  simp only [Bool.or_eq_true,beq_iff_eq]at hs
  have h9:b.toNat≠9:=fun e=>h1 (.inl (UInt8.toNat_inj.1 e))
  have h13:b.toNat≠13:=fun e=>h1 (.inr (.inl (UInt8.toNat_inj.1 e)))
  have h10:b.toNat≠10:=fun e=>h1 (.inr (.inr (UInt8.toNat_inj.1 e)))
  have h12:=h.2.2
  apply UInt8.toNat_inj.1
  show b.toNat=32
  omega
theorem cls_start{v:List UInt8}{n:Nat}(h:∀b∈v,clsB b)(hl:v.length+2≤n):Cls ((32::(v++[32])).map trB) (wl v) n:=by
 have hb:∀b∈32::(v++[32]),clsB b:=fun b hb=>by
  simp at hb
  rcases hb with rfl | hb | rfl
  ·exact⟨by decide,by decide,by decide⟩
  ·exact h b hb
  ·exact⟨by decide,by decide,by decide⟩
 refine⟨⟨fun b hm hs=>?_,⟨(v++[32]).map trB,rfl⟩,⟨(32::v).map trB,by simp;rfl⟩⟩,?_,fun b hm=>?_,by simpa using hl⟩
 ·obtain⟨a,ha,rfl⟩:=List.mem_map.1 hm
  exact trB_blank (hb a ha) hs
 ·rw [wl_tr,wl_space (by decide)]
  have :=wl_app (s:=32) (by decide) v []
  rw [wl_nil,List.append_nil]at this
  exact this
 ·obtain⟨a,ha,rfl⟩:=List.mem_map.1 hm
  exact trB_cls (hb a ha)
theorem Cls.in_{c:List UInt8}{W:Wds}{n:Nat}(h:Cls c W n){w:List UInt8}(hw:NameOk w):InL (32::(w++[32])) c↔w∈W:=by
 constructor
 ·rintro⟨A,B,e⟩
  rw [←h.words,e,wl_occ hw.sp hw.ne]
  simp
 ·intro hm
  rw [←h.words]at hm
  obtain⟨A,B,e⟩:=h.pad.at_ hm
  exact⟨A,B,e⟩
theorem Cls.more{c:List UInt8}{W:Wds}{n:Nat}(h:Cls c W n){w:List UInt8}(hw:NameOk w):Cls (c++(w++[32])) (W++[w]) (n+1048577):=by
 refine⟨h.pad.more hw.sp,by rw [h.pad.wl_more hw.sp hw.ne,h.words],fun b hb=>?_,?_⟩
 ·simp at hb
  rcases hb with hb | hb | rfl
  ·exact h.asc b hb
  ·exact hw.asc b hb
  ·exact⟨by decide,by decide,by decide⟩
 ·have :=h.len
  have :=hw.len
  simp
  omega
theorem Cls.once{c:List UInt8}{W:Wds}{n:Nat}(h:Cls c W n)(hd:W.Nodup){w:List UInt8}(hw:NameOk w){A B:List UInt8}(e:c=A++(32::(w++[32]))++B):¬InL (32::(w++[32])) B:=by
 rintro⟨X,Y,rfl⟩
 have h1:=h.words
 rw [e,wl_occ hw.sp hw.ne,wl_occ hw.sp hw.ne]at h1
 rw [←h1]at hd
 have h2:=(List.nodup_append.1 hd).2.1
 rw [List.nodup_cons]at h2
 exact h2.1 (by simp)
theorem Cls.less{c:List UInt8}{W:Wds}{n:Nat}(h:Cls c W n)(hd:W.Nodup){w:List UInt8}(hw:NameOk w){r:List UInt8}(hr:(¬InL (32::(w++[32])) c∧r=c)∨∃A B,c=A++(32::(w++[32]))++B∧r=A++[32]++B):Cls r (W.filter (fun x=>x !=w)) n:=by
 rcases hr with ⟨hno,rfl⟩ | ⟨A,B,e,rfl⟩
 ·have hn:w∉W:=fun hm=>hno ((h.in_ hw).2 hm)
  have :W.filter (fun x=>x !=w)=W:=List.filter_eq_self.2 fun x hx=>by
   simp
   rintro rfl
   exact hn hx
  rw [this]
  exact h
 ·have h1:=h.words
  rw [e,wl_occ hw.sp hw.ne]at h1
  have hd':=hd
  rw [←h1]at hd'
  have hA:w∉wl A:=fun hm=>by
   have :=(List.nodup_append.1 hd').2.2 w hm w (by simp)
   exact this rfl
  have hB:w∉wl B:=by
   have h2:=(List.nodup_append.1 hd').2.1
   rw [List.nodup_cons]at h2
   exact h2.1
  have hf:W.filter (fun x=>x !=w)=wl A++wl B:=by
   rw [←h1,List.filter_append,List.filter_cons_of_neg (by simp)]
   rw [List.filter_eq_self.2 (fun x hx=>by simp;rintro rfl;exact hA hx),List.filter_eq_self.2 (fun x hx=>by simp;rintro rfl;exact hB hx)]
  have hc:A++[32]++B=A++32::B:=by simp
  rw [hc]
  refine⟨Padded.cut (w:=w) (e▸h.pad),by rw [wl_cut,hf],fun b hb=>h.asc b ?_,?_⟩
  ·rw [e]
   simp at hb ⊢
   rcases hb with hb | hb | hb
   ·exact .inl hb
   ·exact .inr (.inl hb)
   ·exact .inr (.inr (.inr (.inr hb)))
  ·have :=h.len
   rw [e]at this
   simp at this ⊢
   omega
def lessW(W N:Wds):Wds:=W.filter fun x=>decide (x∉N)
def moreW(W N:Wds):Wds:=W++N.filter fun x=>decide (x∉W)
theorem less_snoc(W N:Wds)(w:List UInt8):(lessW W N).filter (fun x=>x !=w)=lessW W (N++[w]):=by
 unfold lessW
 rw [List.filter_filter]
 congr 1
 funext x
 by_cases h1:x∈N
 ·simp [h1]
 ·by_cases h2:x=w
  ·simp [h2]
  ·simp [h1,h2]
theorem more_snoc(W N:Wds)(w:List UInt8)(hw:w∉N):(w∈moreW W N→moreW W (N++[w])=moreW W N)∧(w∉moreW W N→moreW W (N++[w])=moreW W N++[w]):=by
 unfold moreW
 constructor
 ·intro h
  simp at h
  have hW:w∈W:=by
   rcases h with h | h
   ·exact h
   ·exact absurd h.1 hw
  rw [List.filter_append]
  simp [hW]
 ·intro h
  simp at h
  rw [List.filter_append]
  simp [h.1]
theorem less_nodup{W:Wds}(N:Wds)(h:W.Nodup):(lessW W N).Nodup:=List.Nodup.sublist List.filter_sublist h
theorem more_nodup{W N:Wds}(h:W.Nodup)(hn:N.Nodup):(moreW W N).Nodup:=by
 unfold moreW
 rw [List.nodup_append]
 refine⟨h,List.Nodup.sublist List.filter_sublist hn,fun a ha b hb=>?_⟩
 rintro rfl
 simp at hb
 exact hb.2 ha
theorem mem_more{W N:Wds}{x:List UInt8}:x∈moreW W N↔x∈W∨x∈N:=by
 unfold moreW
 simp
 constructor
 ·rintro(h | h)
  ·exact .inl h
  ·exact .inr h.1
 ·rintro(h | h)
  ·exact .inl h
  ·by_cases h2:x∈W
   ·exact .inl h2
   ·exact .inr ⟨h,h2⟩
def ClsVal(l:KVs):ByteArray:=(lookKV l clsK).getD ByteArray.empty
structure GoodC (l:KVs) (W:Wds) (m s:Nat):Prop where
 dist:DistKV l
 words:wl (ClsVal l).data.toList=W
 nodup:W.Nodup
 asc:∀b∈(ClsVal l).data.toList,clsB b
 len:l.length≤m
 size:∀x∈l,x.1.size≤200∧x.2.size≤s
def NearC(l l2:KVs):Prop:=(∀x∈l,x.1.toList≠clsK.toList→lookKV l2 x.1=some x.2)∧∀x∈l2,x.1.toList≠clsK.toList→lookKV l x.1=some x.2
theorem look_eq{l:KVs}:∀{k v:ByteArray},lookKV l k=some v→∃x∈l,x.1.toList=k.toList∧x.2=v:=by
 induction l with
 | nil=>intro k v h;simp [lookKV]at h
 | cons x r ih=>
  intro k v h
  simp only [lookKV]at h
  split at h
  ·rename_i h1
   exact⟨x,by simp,h1,by simpa using h⟩
  ·obtain⟨y,hy,h2⟩:=ih h
   exact⟨y,by simp [hy],h2⟩
theorem look_key{l:KVs}{k k':ByteArray}(h:k.toList=k'.toList):lookKV l k=lookKV l k':=by
 induction l with
 | nil=>rfl
 | cons x r ih=>simp only [lookKV,h,ih]
theorem near_set{l:KVs}(hd:DistKV l)(v:ByteArray):NearC l (setKV l clsK v):=by
 constructor
 ·intro x hx hne
  rw [look_set,if_neg (fun e=>hne e.symm)]
  exact look_mem hd hx
 ·intro x hx hne
  have h1:=look_mem (dist_set hd clsK v) hx
  rw [look_set,if_neg (fun e=>hne e.symm)]at h1
  exact h1
theorem val_mem{l:KVs}{x:ByteArray×ByteArray}(h:lookKV l clsK=some x.2):ClsVal l=x.2:=by unfold ClsVal;rw [h];rfl
theorem mem_set2{l:KVs}{k v:ByteArray}{y:ByteArray×ByteArray}(h:y∈setKV l k v):(∃x∈l,x.1=y.1∧y.2=v)∨y∈l∨y=(k,v):=by
 induction l with
 | nil=>simp [setKV]at h;exact .inr (.inr h)
 | cons x r ih=>
  simp only [setKV]at h
  by_cases hx:x.1.toList=k.toList
  ·rw [if_pos hx]at h
   rcases List.mem_cons.mp h with h | h
   ·subst h;exact .inl ⟨x,by simp,rfl,rfl⟩
   ·exact .inr (.inl (by simp [h]))
  ·rw [if_neg hx]at h
   rcases List.mem_cons.mp h with h | h
   ·subst h;exact .inr (.inl (by simp))
   ·rcases ih h with ⟨z,hz,he⟩ | he | he
    ·exact .inl ⟨z,by simp [hz],he⟩
    ·exact .inr (.inl (by simp [he]))
    ·exact .inr (.inr he)
theorem bare_sub{c:List UInt8}{b:UInt8}(h:b∈bareL c):b∈c:=by
 unfold bareL at h
 rw [List.mem_reverse]at h
 have h1:=(List.dropWhile_sublist spaceB).mem h
 rw [List.mem_reverse]at h1
 exact(List.dropWhile_sublist spaceB).mem h1
theorem bare_len(c:List UInt8):(bareL c).length≤c.length:=by
 unfold bareL
 rw [List.length_reverse]
 have h1:=(List.dropWhile_sublist spaceB (l:=(c.dropWhile spaceB).reverse)).length_le
 have h2:=(List.dropWhile_sublist spaceB (l:=c)).length_le
 rw [List.length_reverse]at h1
 omega
theorem sets_good{l l1 l2:KVs}{k:Nat}{val:ByteArray}{c:List UInt8}{W0 W:Wds}{m s n:Nat}(hg:GoodC l W0 m s)(hat:ClsAt l l1 k val)(hc:Cls c W n)(hd:W.Nodup)(hs:Sets l1 k c l2)(hn:n≤s):
  GoodC l2 W (m+1) s∧NearC l l2:=by
 have hcls:clsK.toList=[99,108,97,115,115]:=by rw [ByteArray.toList_eq];rfl
 rcases hs with ⟨hb0,hrem⟩ | ⟨r,hr,hne,rfl⟩
 ·-- the class is taken away
  have hW:W=[]:=by
   rw [←hc.words,←wl_bare c,hb0,wl_nil]
  obtain⟨hd1,hnear,hl1,hz1⟩:DistKV l1∧NearC l l1∧l1.length≤m+1∧∀x∈l1,x.1.size≤200∧x.2.size≤s:=by
   rcases hat with ⟨rfl,_⟩ | ⟨rfl,hk,hno,_⟩
   ·exact⟨hg.dist,⟨fun x hx _=>look_mem hg.dist hx,fun x hx _=>look_mem hg.dist hx⟩,by have :=hg.len;omega,hg.size⟩
   ·rw [←set_none ByteArray.empty hno]
    refine⟨dist_set hg.dist _ _,near_set hg.dist _,?_,fun x hx=>?_⟩
    ·have :=(length_set_le l clsK ByteArray.empty).1
     have :=hg.len
     omega
    ·rcases mem_set2 hx with ⟨y,hy,h1,h2⟩ | hy | rfl
     ·rw [←h1,h2];exact⟨(hg.size y hy).1,Nat.zero_le _⟩
     ·exact hg.size x hy
     ·exact⟨by decide,Nat.zero_le _⟩
  have hsay:=remC_say hd1 hrem
  have hnone:lookKV l2 clsK=none:=by
   cases hq:lookKV l2 clsK with
   | none=>rfl
   | some y=>
    obtain⟨x,hx,h1,_⟩:=look_eq hq
    have :=((hsay.mem x).1 hx).2
    rw [h1,hcls]at this
    exact absurd this (by decide)
  have hv:ClsVal l2=ByteArray.empty:=by unfold ClsVal;rw [hnone];rfl
  refine⟨⟨hsay.dist,by rw [hv,hW];rfl,hd,fun b hb=>by rw [hv]at hb;exact absurd hb (by simp),by have :=hsay.len;omega,fun x hx=>hz1 x ((hsay.mem x).1 hx).1⟩,fun x hx hne=>?_,fun x hx hne=>?_⟩
  ·have h1:=hnear.1 x hx hne
   obtain⟨y,hy,h2,h3⟩:=look_eq h1
   have hy2:y∈l2:=(hsay.mem y).2 ⟨hy,by
    rw [h2,←hcls]
    simpa using hne⟩
   rw [look_key (k':=y.1) h2.symm,look_mem hsay.dist hy2,h3]
  ·exact hnear.2 x ((hsay.mem x).1 hx).1 hne
 ·-- the class is laid
  have hset:l1.set k ((l1.getD k default).1,r)=setKV l clsK r:=by
   rcases hat with ⟨rfl,hk,hno,he,_⟩ | ⟨rfl,rfl,hno,_⟩
   ·rw [set_at r hk hno (by rw [he];simp)]
   ·rw [set_none r hno]
    simp [List.getD_eq_getElem?_getD]
  rw [hset]
  have hv:ClsVal (setKV l clsK r)=r:=by unfold ClsVal;rw [look_set,if_pos rfl];rfl
  refine⟨⟨dist_set hg.dist _ _,by rw [hv,hr,wl_bare,hc.words],hd,fun b hb=>?_,?_,fun x hx=>?_⟩,near_set hg.dist r⟩
  ·rw [hv,hr]at hb
   exact hc.asc b (bare_sub hb)
  ·have :=(length_set_le l clsK r).1
   have :=hg.len
   omega
  ·have hrs:r.size≤s:=by
    rw [size_list,hr]
    have :=bare_len c
    have :=hc.len
    omega
   rcases mem_set2 hx with ⟨y,hy,h1,h2⟩ | hy | rfl
   ·rw [←h1,h2];exact⟨(hg.size y hy).1,hrs⟩
   ·exact hg.size x hy
   ·exact⟨(by show clsK.size≤200;decide),hrs⟩
end Go.Proofs.YtkdomegcacgpnaaGreat
namespace Go.Proofs
open Go.Shelf
def Tryz.lays156_ren:Go.Shelf.Ren:=⟨fun | 156=>74 | 165=>121 | 166=>122 | 169=>123 | 240=>137 | 241=>138 | 276=>146 | 277=>147 | n=>n,fun | 31=>24 | 9=>9 | 3=>3 | 4=>4 | 0=>0 | 20=>20 | 72=>156 | 76=>160 | 70=>153 | 37=>154 | 75=>159 | 127=>171 | 164=>176 | 5=>5 | 80=>162 | n=>n,fun | n=>n⟩
theorem Tryz.lays156:Go.Proofs.Lays.n156 Tryz.prog Tryz.lays156_ren:={
 mixed:=by kernel_rfl
 f156:=Tryz.func74.trans (congrArg some (by kernel_rfl))
 f165:=Tryz.func121.trans (congrArg some (by kernel_rfl))
 f166:=Tryz.func122.trans (congrArg some (by kernel_rfl))
 f169:=Tryz.func123.trans (congrArg some (by kernel_rfl))
 f240:=Tryz.func137.trans (congrArg some (by kernel_rfl))
 f241:=Tryz.func138.trans (congrArg some (by kernel_rfl))
 f276:=Tryz.func146.trans (congrArg some (by kernel_rfl))
 f277:=Tryz.func147.trans (congrArg some (by kernel_rfl))
 t0:=Tryz.underlying0
 a0:=Tryz.isAgg0
 z0:=Tryz.sizeOf0
 v0:=Tryz.zeroValue0
 t3:=Tryz.underlying3
 a3:=Tryz.isAgg3
 z3:=Tryz.sizeOf3
 v3:=Tryz.zeroValue3
 t4:=Tryz.underlying4
 a4:=Tryz.isAgg4
 z4:=Tryz.sizeOf4
 v4:=Tryz.zeroValue4
 t9:=Tryz.underlying9
 a9:=Tryz.isAgg9
 z9:=Tryz.sizeOf9
 v9:=Tryz.zeroValue9
 t20:=Tryz.underlying20
 a20:=Tryz.isAgg20
 z20:=Tryz.sizeOf20
 v20:=Tryz.zeroValue20
 t31:=Tryz.underlying24
 a31:=Tryz.isAgg24
 z31:=Tryz.sizeOf24
 v31:=Tryz.zeroValue24
 t37:=Tryz.underlying154
 a37:=Tryz.isAgg154
 z37:=Tryz.sizeOf154
 v37:=Tryz.zeroValue154
 t70:=Tryz.underlying153
 a70:=Tryz.isAgg153
 z70:=Tryz.sizeOf153
 v70:=Tryz.zeroValue153
 t72:=Tryz.underlying156
 a72:=Tryz.isAgg156
 z72:=Tryz.sizeOf156
 v72:=Tryz.zeroValue156
 t75:=Tryz.underlying159
 a75:=Tryz.isAgg159
 z75:=Tryz.sizeOf159
 v75:=Tryz.zeroValue159
 t76:=Tryz.underlying160
 a76:=Tryz.isAgg160
 z76:=Tryz.sizeOf160
 v76:=Tryz.zeroValue160
 t127:=Tryz.underlying171
 a127:=Tryz.isAgg171
 z127:=Tryz.sizeOf171
 v127:=Tryz.zeroValue171
 t164:=Tryz.underlying176
 a164:=Tryz.isAgg176
 z164:=Tryz.sizeOf176
 v164:=Tryz.zeroValue176}
theorem Tryz.Builder_Extra_156:Builder.Extra Tryz.prog Tryz.lays156_ren:={
 sizeBuilder:=by kernel_rfl
 liesBuilder:=by kernel_rfl
 t5:=Tryz.underlying5
 a5:=Tryz.isAgg5
 z5:=Tryz.sizeOf5
 v5:=Tryz.zeroValue5
 infoByte:=by kernel_rfl
 cellsByte:=by kernel_rfl
 sizeByte:=by kernel_rfl
 neB5:=by decide}
open Go.RowKit in
theorem Tryz.strings_Join(bk o c:Nat)(xs:List ByteArray)(sep:ByteArray)(w:World)(hcells:∀(j:Nat) x,xs[j]? =some x→w.cell? ⟨bk,o+j,none⟩=some (.string x))(hbk:bk<w.heap.size)(hN:xs.length≤140737488355328)(hcap:xs.length≤c)(hlen:(Lib.join (xs.map (·.data.toList)) sep.data.toList).length≤140737488355328):
  Calls Tryz.prog 74 #[.slice (some ⟨bk,o,none⟩) xs.length c,.string sep] w fun e w'=>e=.returned (.string ⟨(Lib.join (xs.map (·.data.toList)) sep.data.toList).toArray⟩)∧Below w.heap.size w w':=Any.strings_Join Tryz.lays156 Tryz.Builder_Extra_156 bk o c xs sep w hcells hbk hN hcap hlen
end Go.Proofs
namespace Go.Proofs.YtkdomegcacgpnaaGreat
open Go.RowKit
theorem tail_words:∀(r:Wds) (x:List UInt8),NameOk x→(∀y∈r,NameOk y)→wl (x++Lib.joinTail [32] r)=x::r
 | [],x,hx,_=>by
  have :Lib.joinTail [32] []=[]:=rfl
  rw [this,List.append_nil,wl_word hx.sp hx.ne]
 | y::t,x,hx,h=>by
  have e:Lib.joinTail [32] (y::t)=32::(y++Lib.joinTail [32] t):=by simp [Lib.joinTail]
  rw [e,wl_app (by decide),wl_word hx.sp hx.ne,tail_words t y (h y (by simp)) (fun z hz=>h z (by simp [hz]))]
  rfl
theorem join_words{L:Wds}(h0:L≠[])(h:∀y∈L,NameOk y):wl (Lib.join L [32])=L:=by
 cases L with
 | nil=>exact absurd rfl h0
 | cons x r=>rw [Lib.join_cons,tail_words r x (h x (by simp)) (fun y hy=>h y (by simp [hy]))]
theorem tail_cls:∀(r:Wds),(∀y∈r,NameOk y)→(∀b∈Lib.joinTail [32] r,clsB b)∧(Lib.joinTail [32] r).length≤1048577*r.length
 | [],_=>⟨fun b hb=>by simp [Lib.joinTail]at hb,by simp [Lib.joinTail]⟩
 | y::t,h=>by
  have e:Lib.joinTail [32] (y::t)=32::(y++Lib.joinTail [32] t):=by simp [Lib.joinTail]
  obtain⟨h1,h2⟩:=tail_cls t (fun z hz=>h z (by simp [hz]))
  have h3:=(h y (by simp)).len
  rw [e]
  refine⟨fun b hb=>?_,by simp;omega⟩
  simp at hb
  rcases hb with rfl | hb | hb
  ·exact⟨by decide,by decide,by decide⟩
  ·exact(h y (by simp)).asc b hb
  ·exact h1 b hb
theorem join_cls{L:Wds}(h:∀y∈L,NameOk y):(∀b∈Lib.join L [32],clsB b)∧(Lib.join L [32]).length≤1048577*L.length:=by
 cases L with
 | nil=>exact⟨fun b hb=>by simp [Lib.join_nil]at hb,by simp [Lib.join_nil]⟩
 | cons x r=>
  rw [Lib.join_cons]
  obtain⟨h1,h2⟩:=tail_cls r (fun y hy=>h y (by simp [hy]))
  have h3:=(h x (by simp)).len
  refine⟨fun b hb=>?_,by simp;omega⟩
  rcases List.mem_append.1 hb with hb | hb
  ·exact(h x (by simp)).asc b hb
  ·exact h1 b hb
structure NamesAt (w:World) (a:Option Addr) (xs:List ByteArray) (c:Nat):Prop where
 cells:StrCells w a xs.length xs
 cap:xs.length≤c
 ok:∀x∈xs,NameOk x.data.toList
 nodup:(xs.map (·.data.toList)).Nodup
 pos:0<xs.length
 few:xs.length≤1048576
theorem NamesAt.below{w w':World}{a:Option Addr}{xs:List ByteArray}{c:Nat}(h:NamesAt w a xs c)(hb:Below w.heap.size w w'):NamesAt w' a xs c:=⟨h.cells.below hb,h.cap,h.ok,h.nodup,h.pos,h.few⟩
theorem cls_at{c:ByteArray}(h:∀b∈c.data.toList,clsB b):∀i (h:i<c.size),(c[i]'h).toNat< 128∧(c[i]'h).toNat≠11:=fun i hi=>by
 have hm:c[i]∈c.data.toList:=by
  rw [Array.mem_toList_iff]
  exact Array.getElem_mem (by exact hi)
 exact⟨(h _ hm).1,(h _ hm).2.1⟩
def JoinPost(xs:List ByteArray)(w:World)(e:Ending)(w':World):Prop:=∃r:ByteArray,e=.returned (.string r)∧Hid (wl r.data.toList=xs.map (·.data.toList))∧Hid (∀b∈r.data.toList,clsB b)∧r.size≤1099512676352∧Hid (Below w.heap.size w w')
theorem join_any(a:Option Addr)(xs:List ByteArray)(c:Nat)(w:World)(h:NamesAt w a xs c):
  Calls Tryz.prog 74 #[.slice a xs.length c,.string ⟨#[32]⟩] w (JoinPost xs w):=by
 obtain⟨b,off,rfl,hc⟩:=h.cells.2 h.pos
 have hL:∀y∈xs.map (·.data.toList),NameOk y:=fun y hy=>by
  obtain⟨x,hx,rfl⟩:=List.mem_map.1 hy
  exact h.ok x hx
 have hcl:=join_cls hL
 have hfew:=h.few
 rw [List.length_map]at hcl
 have hne:xs.map (·.data.toList)≠[]:=fun e=>by
  have h1:=h.pos
  have h2:=congrArg List.length e
  simp at h2
  rw [h2]at h1
  simp at h1
 refine(Tryz.strings_Join b off c xs ⟨#[32]⟩ w (fun j x hx=>?_) ?_ (by omega) h.cap (by show(Lib.join _ [32]).length≤_;omega)).mono fun e w' ⟨he,hb⟩=>?_
 ·have hj:j<xs.length:=by
   rw [List.getElem?_eq_some_iff]at hx
   exact hx.1
  have h1:=hc j hj
  rw [List.getD_eq_getElem?_getD,hx]at h1
  exact h1
 ·exact World.block_lt_of_cell? w _ (hc 0 h.pos)
 ·refine⟨⟨(Lib.join (xs.map (·.data.toList)) [32]).toArray⟩,he,Lib.hid ?_,Lib.hid ?_,?_,Lib.hid hb⟩
  ·show wl (Lib.join (xs.map (·.data.toList)) [32]).toArray.toList=_
   rw [List.toList_toArray,join_words hne hL]
  ·show ∀b∈(Lib.join (xs.map (·.data.toList)) [32]).toArray.toList,clsB b
   rw [List.toList_toArray]
   exact hcl.1
  ·show(Lib.join (xs.map (·.data.toList)) [32]).toArray.size≤1099512676352
   simp only [List.size_toArray]
   omega
theorem at_val{l l1:KVs}{k:Nat}{val:ByteArray}(h:ClsAt l l1 k val):ClsVal l=val:=by
 rcases h with ⟨rfl,hk,hno,he,hv⟩ | ⟨rfl,hk,hno,hv⟩
 ·unfold ClsVal
  rw [look_at hk hno (by rw [he];simp),hv]
  rfl
 ·unfold ClsVal
  rw [look_none hno,hv]
  rfl
end Go.Proofs.YtkdomegcacgpnaaGreat
