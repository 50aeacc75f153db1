/- Parts of a proof: Wl, ClassTrim, UGetClasses, USetClasses. -/
import Derived.Test.YtkdomegcacgpnaaGreatG29
import Derived.BigGuardPart
import Derived.Lib.ConvBytes
import Derived.Lib.SmallJoins
import Derived.Laws.IdiomStrings
import Derived.Test.YtkdomegcacgpnaaGreatG28
import Derived.Test.YtkdomegcacgpnaaGreatG06
import Derived.Deep.QuietTactic
import Derived.BigQuiet
import Derived.IntWalk
import Derived.Test.YtkdomegcacgpnaaGreatG09
set_option linter.unusedVariables false
set_option linter.unusedSimpArgs false
namespace Go.Proofs.YtkdomegcacgpnaaGreat
def wgo:List UInt8→List UInt8→List (List UInt8)
 | cur,[]=>if cur=[]then []else [cur]
 | cur,b::r=>if spaceB b then(if cur=[]then wgo [] r else cur::wgo [] r)else wgo (cur++[b]) r
def wl(L:List UInt8):List (List UInt8):=wgo [] L
theorem wl_nil:wl []=[]:=rfl
theorem wgo_app{s:UInt8}(hs:spaceB s=true):∀(X cur Y:List UInt8),wgo cur (X++s::Y)=wgo cur X++wl Y
 | [],cur,Y=>by
  show wgo cur (s::Y)=_
  by_cases e:cur=[]
  ·simp [wgo,hs,e,wl]
  ·simp [wgo,hs,e,wl]
 | b::r,cur,Y=>by
  show wgo cur (b::(r++s::Y))=_
  have h1:=wgo_app hs r [] Y
  have h2:=wgo_app hs r (cur++[b]) Y
  by_cases hb:spaceB b=true
  ·by_cases e:cur=[]
   ·simp only [wgo,hb,if_true,e];exact h1
   ·simp only [wgo,hb,if_true,if_neg e,List.cons_append];rw [h1]
  ·simp only [wgo,if_neg hb];exact h2
theorem wl_app{s:UInt8}(hs:spaceB s=true)(X Y:List UInt8):wl (X++s::Y)=wl X++wl Y:=wgo_app hs X [] Y
theorem wl_space{s:UInt8}(hs:spaceB s=true)(Y:List UInt8):wl (s::Y)=wl Y:=wl_app hs [] Y
def NoSp(w:List UInt8):Prop:=∀b∈w,spaceB b=false
theorem wgo_word:∀(w cur:List UInt8),NoSp w→cur++w≠[]→wgo cur w=[cur++w]
 | [],cur,_,h=>by
  rw [List.append_nil]at h ⊢
  simp [wgo,h]
 | b::r,cur,hn,_=>by
  have hb:=hn b (by simp)
  have :=wgo_word r (cur++[b]) (fun c hc=>hn c (List.mem_cons_of_mem _ hc)) (by simp)
  simp only [wgo,hb,Bool.false_eq_true,if_false]
  rw [this]
  simp
theorem wl_word{w:List UInt8}(hn:NoSp w)(h0:w≠[]):wl w=[w]:=wgo_word w [] hn (by simpa using h0)
theorem wl_mid{s1 s2:UInt8}(h1:spaceB s1=true)(h2:spaceB s2=true){w:List UInt8}(hn:NoSp w)(h0:w≠[])(A B:List UInt8):wl (A++s1::(w++s2::B))=wl A++w::wl B:=by
 rw [wl_app h1,wl_app h2,wl_word hn h0]
 rfl
theorem wgo_at{w:List UInt8}:∀(L cur:List UInt8),w∈wgo cur L→∃X Y,cur++L=X++(w++Y)∧(X=[]∨∃X0 s,X=X0++[s]∧spaceB s=true)∧(Y=[]∨∃s Y0,Y=s::Y0∧spaceB s=true)
 | [],cur,h=>by
  by_cases e:cur=[]
  ·simp [wgo,e]at h
  ·simp [wgo,e]at h
   exact⟨[],[],by simp [h],.inl rfl,.inl rfl⟩
 | b::r,cur,h=>by
  by_cases hb:spaceB b=true
  ·have key:w∈wgo [] r→∃X Y,cur++b::r=X++(w++Y)∧(X=[]∨∃X0 s,X=X0++[s]∧spaceB s=true)∧(Y=[]∨∃s Y0,Y=s::Y0∧spaceB s=true):=fun h=>by
    obtain⟨X,Y,e1,e2,e3⟩:=wgo_at r [] h
    rw [List.nil_append]at e1
    refine⟨cur++b::X,Y,by rw [e1];simp,.inr ?_,e3⟩
    rcases e2 with rfl | ⟨X0,s,rfl,hs⟩
    ·exact⟨cur,b,rfl,hb⟩
    ·exact⟨cur++b::X0,s,by simp,hs⟩
   by_cases e:cur=[]
   ·simp only [wgo,hb,if_true,e]at h
    exact key h
   ·simp only [wgo,hb,if_true,if_neg e,List.mem_cons]at h
    rcases h with h | h
    ·exact⟨[],b::r,by simp [h],.inl rfl,.inr ⟨b,r,rfl,hb⟩⟩
    ·exact key h
  ·simp only [wgo,if_neg hb]at h
   obtain⟨X,Y,e1,e2,e3⟩:=wgo_at r (cur++[b]) h
   exact⟨X,Y,by rw [←e1];simp,e2,e3⟩
theorem wgo_ok{w:List UInt8}:∀(L cur:List UInt8),NoSp cur→w∈wgo cur L→w≠[]∧NoSp w
 | [],cur,hc,h=>by
  by_cases e:cur=[]
  ·simp [wgo,e]at h
  ·simp [wgo,e]at h
   subst h
   exact⟨e,hc⟩
 | b::r,cur,hc,h=>by
  by_cases hb:spaceB b=true
  ·by_cases e:cur=[]
   ·simp only [wgo,hb,if_true,e]at h
    exact wgo_ok r [] (fun _ h=>by cases h) h
   ·simp only [wgo,hb,if_true,if_neg e,List.mem_cons]at h
    rcases h with rfl | h
    ·exact⟨e,hc⟩
    ·exact wgo_ok r [] (fun _ h=>by cases h) h
  ·simp only [wgo,if_neg hb]at h
   refine wgo_ok r (cur++[b]) (fun c hcm=>?_) h
   rcases List.mem_append.1 hcm with h1 | h1
   ·exact hc c h1
   ·simp at h1;subst h1;simpa using hb
theorem wl_ok{w L:List UInt8}(h:w∈wl L):w≠[]∧NoSp w:=wgo_ok L [] (fun _ h=>by cases h) h
def trB(b:UInt8):UInt8:=if b=9∨b=13∨b=10 then 32 else b
theorem trB_space(b:UInt8):spaceB (trB b)=spaceB b:=by
 unfold trB
 by_cases h:b=9∨b=13∨b=10
 ·rw [if_pos h]
  rcases h with rfl | rfl | rfl <;> rfl
 ·rw [if_neg h]
theorem trB_word{b:UInt8}(h:spaceB b=false):trB b=b:=by
 unfold trB
 rw [if_neg]
 rintro(rfl | rfl | rfl) <;> exact absurd h (by decide)
theorem wgo_tr:∀(L cur:List UInt8),wgo cur (L.map trB)=wgo cur L
 | [],cur=>rfl
 | b::r,cur=>by
  rw [List.map_cons]
  by_cases hb:spaceB b=true
  ·have h2:spaceB (trB b)=true:=by rw [trB_space];exact hb
   simp only [wgo,hb,h2,if_true]
   rw [wgo_tr r []]
  ·have hb':spaceB b=false:=by simpa using hb
   have h2:spaceB (trB b)=false:=by rw [trB_space];exact hb'
   simp only [wgo,hb',h2,Bool.false_eq_true,if_false]
   rw [wgo_tr r,trB_word hb']
theorem wl_tr(L:List UInt8):wl (L.map trB)=wl L:=wgo_tr L []
theorem wl_dropWhile:∀L:List UInt8,wl (L.dropWhile spaceB)=wl L
 | []=>rfl
 | b::r=>by
  by_cases hb:spaceB b=true
  ·rw [List.dropWhile_cons,if_pos hb,wl_dropWhile r,wl_space hb]
  ·rw [List.dropWhile_cons,if_neg hb]
theorem wl_dropEnd:∀L:List UInt8,wl ((L.dropWhile spaceB).reverse)=wl L.reverse
 | []=>rfl
 | b::r=>by
  by_cases hb:spaceB b=true
  ·rw [List.dropWhile_cons,if_pos hb,wl_dropEnd r,List.reverse_cons]
   have :=wl_app hb r.reverse []
   rw [this,wl_nil,List.append_nil]
  ·rw [List.dropWhile_cons,if_neg hb]
theorem wl_bare(L:List UInt8):wl (bareL L)=wl L:=by
 unfold bareL
 rw [wl_dropEnd,List.reverse_reverse,wl_dropWhile]
def ofL(l:List UInt8):ByteArray:=⟨l.toArray⟩
theorem ofL_list(l:List UInt8):(ofL l).data.toList=l:=by simp [ofL]
theorem isSp_space(b:UInt8):isSp (b.toNat:Int)=spaceB b:=rfl
theorem wst_wl(s:ByteArray):∀k,k≤s.size→∃m ws,wst s k=(m,ws)∧m≤k∧wl s.data.toList=ws.map (·.data.toList)++wgo ((s.data.toList.drop m).take (k-m)) (s.data.toList.drop k)
 | 0,_=>⟨0,[],rfl,Nat.le_refl _,by simp [wl]⟩
 | k+1,hk=>by
  obtain⟨m,ws,h1,h2,h3⟩:=wst_wl s k (by omega)
  have hks:k<s.size:=by omega
  have hkl:k<s.data.toList.length:=by rw [←size_list];exact hks
  have hdrop:s.data.toList.drop k=s[k]::s.data.toList.drop (k+1):=by
   rw [List.drop_eq_getElem_cons hkl]
   rfl
  have hcut:(s.data.toList.drop m).take (k+1-m)=(s.data.toList.drop m).take (k-m)++[s[k]]:=by
   have e:k+1-m=(k-m)+1:=by omega
   rw [e,List.take_add_one]
   congr 1
   rw [List.getElem?_drop,show m+(k-m)=k by omega,List.getElem?_eq_getElem hkl]
   rfl
  rw [hdrop]at h3
  by_cases hb:spaceB s[k]=true
  ·have hw:=wst_cut h1 hks (by rw [isSp_space];exact hb)
   by_cases hm:m<k
   ·rw [if_pos hm]at hw
    refine⟨k+1,_,hw,Nat.le_refl _,?_⟩
    have hne:(s.data.toList.drop m).take (k-m)≠[]:=fun e=>by
     have :=congrArg List.length e
     rw [List.length_take,List.length_drop]at this
     simp at this
     omega
    rw [h3,Nat.sub_self,List.take_zero,List.map_append,List.map_singleton,extract_list]
    simp only [wgo,hb,if_true,if_neg hne]
    simp
   ·rw [if_neg hm]at hw
    have hmk:m=k:=by omega
    refine⟨k+1,_,hw,Nat.le_refl _,?_⟩
    rw [h3,hmk,Nat.sub_self,Nat.sub_self,List.take_zero,List.take_zero]
    simp only [wgo,hb,if_true]
  ·have hb':spaceB s[k]=false:=by simpa using hb
   have hw:=wst_word h1 hks (by rw [isSp_space];exact hb')
   refine⟨m,ws,hw,by omega,?_⟩
   rw [h3,hcut]
   simp only [wgo,hb',Bool.false_eq_true,if_false]
theorem wordsF_wl(s:ByteArray):(wordsF s).map (·.data.toList)=wl s.data.toList:=by
 obtain⟨m,ws,h1,h2,h3⟩:=wst_wl s s.size (Nat.le_refl _)
 have hd:s.data.toList.drop s.size=[]:=List.drop_eq_nil_of_le (by rw [←size_list];exact Nat.le_refl _)
 rw [hd]at h3
 unfold wordsF
 rw [wst_end h1,h3]
 by_cases hm:m<s.size
 ·rw [if_pos hm,List.map_append,List.map_singleton,extract_list]
  have hne:(s.data.toList.drop m).take (s.size-m)≠[]:=fun e=>by
   have :=congrArg List.length e
   rw [List.length_take,List.length_drop,←size_list]at this
   simp at this
   omega
  simp only [wgo,if_neg hne]
 ·rw [if_neg hm]
  have hmk:m=s.size:=by omega
  rw [hmk,Nat.sub_self,List.take_zero]
  simp [wgo]
structure Padded (c:List UInt8):Prop where
 blank:∀b∈c,spaceB b=true→b=32
 head:∃r,c=32::r
 last:∃r,c=r++[32]
theorem Padded.at_{c:List UInt8}(h:Padded c){w:List UInt8}(hw:w∈wl c):∃A B,c=A++(32::(w++[32]))++B:=by
 obtain⟨h0,hn⟩:=wl_ok hw
 obtain⟨X,Y,e1,e2,e3⟩:=wgo_at c [] hw
 rw [List.nil_append]at e1
 have hX:∃X0,X=X0++[32]:=by
  rcases e2 with rfl | ⟨X0,s,rfl,hs⟩
  ·obtain⟨r,hr⟩:=h.head
   rw [List.nil_append,hr]at e1
   cases w with
   | nil=>exact absurd rfl h0
   | cons b w=>
    simp at e1
    have :=hn b (by simp)
    rw [←e1.1]at this
    exact absurd this (by decide)
  ·have :s=32:=h.blank s (by rw [e1];simp) hs
   exact⟨X0,by rw [this]⟩
 have hY:∃Y0,Y=32::Y0:=by
  rcases e3 with rfl | ⟨s,Y0,rfl,hs⟩
  ·obtain⟨r,hr⟩:=h.last
   rw [List.append_nil,hr]at e1
   have h5:w.getLast?=some 32:=by
    have :=congrArg List.getLast? e1
    rw [List.getLast?_append,List.getLast?_append]at this
    simp at this
    cases hg:w.getLast? with
    | none=>rw [List.getLast?_eq_none_iff]at hg;exact absurd hg h0
    | some b=>rw [hg]at this;simp at this;rw [this]
   have :=hn 32 (List.mem_of_getLast? h5)
   exact absurd this (by decide)
  ·have :s=32:=h.blank s (by rw [e1];simp) hs
   exact⟨Y0,by rw [this]⟩
 obtain⟨X0,rfl⟩:=hX
 obtain⟨Y0,rfl⟩:=hY
 exact⟨X0,Y0,by rw [e1];simp⟩
theorem wl_occ{w:List UInt8}(hn:NoSp w)(h0:w≠[])(A B:List UInt8):wl (A++(32::(w++[32]))++B)=wl A++w::wl B:=by
 have :=wl_mid (s1:=32) (s2:=32) (by decide) (by decide) hn h0 A B
 rw [←this]
 simp
theorem Padded.cut{A B w:List UInt8}(h:Padded (A++(32::(w++[32]))++B)):Padded (A++32::B):=by
 refine⟨fun b hb hs=>h.blank b ?_ hs,?_,?_⟩
 ·simp at hb ⊢
  rcases hb with hb | hb | hb
  ·exact .inl hb
  ·exact .inr (.inl hb)
  ·exact .inr (.inr (.inr (.inr hb)))
 ·cases A with
  | nil=>exact⟨B,rfl⟩
  | cons a A=>
   obtain⟨r,hr⟩:=h.head
   simp at hr
   exact⟨A++32::B,by rw [hr.1];rfl⟩
 ·rcases B.eq_nil_or_concat with rfl | ⟨B0,b,rfl⟩
  ·exact⟨A,rfl⟩
  ·obtain⟨r,hr⟩:=h.last
   have h6:(A++(32::(w++[32]))++B0)++[b]=r++[32]:=by rw [←hr,List.concat_eq_append];simp [List.append_assoc]
   have h7:=(List.append_inj' h6 rfl).2
   simp at h7
   exact⟨A++32::B0,by rw [h7,List.concat_eq_append];simp⟩
theorem wl_cut(A B:List UInt8):wl (A++32::B)=wl A++wl B:=wl_app (by decide) A B
theorem Padded.more{c w:List UInt8}(h:Padded c)(hn:NoSp w):Padded (c++(w++[32])):=by
 refine⟨fun b hb hs=>?_,?_,⟨c++w,by simp⟩⟩
 ·simp at hb
  rcases hb with hb | hb | hb
  ·exact h.blank b hb hs
  ·rw [hn b hb]at hs;cases hs
  ·exact hb
 ·obtain⟨r,hr⟩:=h.head
  exact⟨r++(w++[32]),by rw [hr];rfl⟩
theorem Padded.wl_more{c w:List UInt8}(h:Padded c)(hn:NoSp w)(h0:w≠[]):wl (c++(w++[32]))=wl c++[w]:=by
 obtain⟨r,hr⟩:=h.last
 have e:c++(w++[32])=r++(32::(w++[32]))++[]:=by rw [hr];simp
 rw [e,wl_occ hn h0,hr]
 have :=wl_cut r []
 rw [show r++[32]=r++32::[] from rfl,this,wl_nil]
 simp
end Go.Proofs.YtkdomegcacgpnaaGreat
namespace Go.Proofs.YtkdomegcacgpnaaGreat
open Go.RowKit
theorem add_atB(b o j:Nat):(⟨b,o,none⟩:Addr).add j=⟨b,o+j,none⟩:=by unfold Addr.add;split <;> simp_all
theorem frozen_bytesW(w:World)(e:TypeId)(s:ByteArray)(j:Nat)(hj:j<s.size):(Lib.bytesWorld w e s).frozen? ⟨w.heap.size,j,none⟩=false:=by
 have h:=Lib.bytesWorld_at_new w e s
 have hsz:s.size≤(Lib.bytesCells w e s).size:=by
  unfold Lib.bytesCells
  rw [Array.size_append,Array.size_map]
  exact Nat.le_add_right _ _
 simp only [World.frozen?,h]
 simp
 omega
structure BytesRow (w:World) (b n:Nat) (f:Nat→UInt8):Prop where
 cell:∀j,j<n→w.cell? ⟨b,j,none⟩=some (.int .u8 ((f j).toNat:Int))
 free:∀j,j<n→w.frozen? ⟨b,j,none⟩=false
theorem BytesRow.set{w:World}{b n:Nat}{f:Nat→UInt8}(h:BytesRow w b n f){k:Nat}(hk:k<n){g:Nat→UInt8}{v:Value}(hv:v=.int .u8 ((g k).toNat:Int))(hg:∀j,j≠k→g j=f j):BytesRow (w.setCell ⟨b,k,none⟩ v) b n g:=by
 constructor
 ·intro j hj
  by_cases e:j=k
  ·subst e;rw [World.cell?_setCell_same _ _ _ (h.cell j hj),hv]
  ·rw [World.cell?_setCell_other _ _ _ _ (by intro h;cases h;exact e rfl),h.cell j hj,hg j e]
 ·intro j hj
  rw [World.frozen?_setCell]
  exact h.free j hj
def trHalf(l:List UInt8)(k j:Nat):UInt8:=if j<k then trB (l.getD j 0)else l.getD j 0
theorem trHalf_next{l:List UInt8}{k j:Nat}(h:j≠k):trHalf l (k+1) j=trHalf l k j:=by
 unfold trHalf
 by_cases h1:j<k
 ·rw [if_pos h1,if_pos (by omega)]
 ·rw [if_neg h1,if_neg (by omega)]
theorem u8_eq{c:UInt8}{n:Nat}(hn:n<256):(c=UInt8.ofNat n)↔c.toNat=n:=by
 constructor
 ·rintro rfl
  simp
  omega
 ·intro h
  apply UInt8.toNat_inj.1
  rw [h]
  simp
  omega
def StrTo(l:List UInt8)(w:World)(e:Ending)(w':World):Prop:=∃r:ByteArray,e=.returned (.string r)∧r.data.toList=l∧Hid (Below w.heap.size w w')
set_option maxRecDepth 100000 in
set_option maxHeartbeats 2000000 in
theorem classTrim_any(s:ByteArray)(w:World)(hs:s.size≤4611686018427387904):
  Calls Tryz.prog 125 #[.string s] w (StrTo (s.data.toList.map trB) w):=by
 have hconv:=Lib.run_convert_string_bytes (P:=Tryz.prog) w 9 154 5 s Tryz.underlying9 Tryz.underlying154 Tryz.underlying5
 have hll:s.data.toList.length=s.size:=by rw [Array.length_toList];rfl
 have hat:BytesRow (Lib.bytesWorld w 5 s) w.heap.size s.size (trHalf s.data.toList 0):=⟨fun j hj=>by
  rw [Lib.bytesWorld_cell w _ s j hj];simp [trHalf],fun j hj=>frozen_bytesW w _ s j hj⟩
 have hback:=fun(w':World) (h:BytesRow w' w.heap.size s.size (trHalf s.data.toList s.size))=>run_convert_bytes_back (P:=Tryz.prog) w' 154 9 5 ⟨w.heap.size,0,none⟩ (grownCap w s.size 0 5) (s.data.toList.map trB) Tryz.underlying154 Tryz.underlying5 Tryz.underlying9 (fun j hj=>by
  rw [List.length_map]at hj
  rw [add_atB,Nat.zero_add,h.cell j (by omega),trHalf,if_pos (by omega),List.getD_eq_getElem?_getD,List.getElem?_eq_getElem hj,List.getElem_map]
  rfl)
 simp only [List.length_map,hll]at hback
 have hb:Below w.heap.size w (Lib.bytesWorld w 5 s):=Go.Joins.below_bytesWorld _ w _ s (Nat.le_refl _)
 obtain⟨w1,hw1⟩:∃w1,Lib.bytesWorld w 5 s=w1:=⟨_,rfl⟩
 obtain⟨cap,hcap⟩:∃c,grownCap w s.size 0 5=c:=⟨_,rfl⟩
 rw [hw1]at hconv hat hb
 rw [hcap]at hconv hback
 have HAT:=Lib.hid hat
 have HBK:=Lib.hid hback
 have HB:=Lib.hid hb
 clear hat hb hw1 hcap hback hll
 obtain⟨l,hl⟩:∃l,s.data.toList=l:=⟨_,rfl⟩
 rw [hl]at HAT HBK ⊢
 have HL:=Lib.hid hl
 clear hl
 go_enter Tryz.func125,Tryz.ntmps125
 go_wp2
 go_loopw [10] (fun i wr=>∃k:Nat,k≤s.size∧i=.int .i64 k∧Hid (BytesRow wr w.heap.size s.size (trHalf l k))∧Hid (Below w.heap.size w wr)) (fun i _=>s.size-(intOf i).toNat)
 case atStart=>exact⟨0,by omega,by go_num,HAT,HB⟩
 case round=>
  obtain⟨k,hk,rfl,hat,hbel⟩:=hrel
  by_cases hlt:k<s.size
  ·have ck:=hat.out.cell k hlt
   have fk:=hat.out.free k hlt
   have hkI:(k:Int)<(s.size:Int):=by omega
   have hhk:trHalf l k k=l.getD k 0:=by unfold trHalf;rw [if_neg (by omega)]
   have hhn:trHalf l (k+1) k=trB (l.getD k 0):=by unfold trHalf;rw [if_pos (by omega)]
   rw [hhk]at ck
   obtain⟨c,hc⟩:∃c,l.getD k 0=c:=⟨_,rfl⟩
   rw [hc]at ck hhk hhn
   by_cases hsp:c=9∨c=13∨c=10
   ·have hst:BytesRow (wr.setCell ⟨w.heap.size,k,none⟩ (.int .u8 32)) w.heap.size s.size (trHalf l (k+1)):=hat.out.set hlt (by rw [hhn,trB,if_pos hsp];rfl) (fun j hj=>trHalf_next hj)
    have hbs:Below w.heap.size w (wr.setCell ⟨w.heap.size,k,none⟩ (.int .u8 32)):=hbel.out.setCell (Nat.le_refl _) _
    have H1:=Lib.hid hst
    have H2:=Lib.hid hbs
    clear hst hbs hat hbel hc hhk hhn
    rcases hsp with rfl | rfl | rfl
    all_goals
     simp only [show((9:UInt8).toNat:Int)=9 from rfl,show((13:UInt8).toNat:Int)=13 from rfl,show((10:UInt8).toNat:Int)=10 from rfl]at ck
     go_wp2
     refine⟨?rel,?measure⟩
     case rel=>exact⟨k+1,by omega,by go_num,H1,H2⟩
     case measure=>simp [intOf];omega
   ·have hst:BytesRow wr w.heap.size s.size (trHalf l (k+1)):=⟨fun j hj=>by
     by_cases e:j=k
     ·subst e;rw [hat.out.cell j hj,hhk,hhn,trB,if_neg hsp]
     ·rw [hat.out.cell j hj,trHalf_next e],hat.out.free⟩
    have H1:=Lib.hid hst
    have H2:=Lib.hid hbel.out
    have n9:c.toNat≠9:=fun e=>hsp (.inl ((u8_eq (n:=9) (by decide)).2 e))
    have n13:c.toNat≠13:=fun e=>hsp (.inr (.inl ((u8_eq (n:=13) (by decide)).2 e)))
    have n10:c.toNat≠10:=fun e=>hsp (.inr (.inr ((u8_eq (n:=10) (by decide)).2 e)))
    obtain⟨y,hy⟩:∃y:Int,(c.toNat:Int)=y:=⟨_,rfl⟩
    rw [hy]at ck
    have d1:(y==9)=false:=by simp;omega
    have d2:(y==13)=false:=by simp;omega
    have d3:(y==10)=false:=by simp;omega
    clear hst hat hbel hhk hhn hc hsp n9 n13 n10 hy
    go_wp2
    refine⟨?rel,?measure⟩
    case rel=>exact⟨k+1,by omega,by go_num,H1,H2⟩
    case measure=>simp [intOf];omega
  ·obtain rfl:k=s.size:=by omega
   have hbk:=HBK.out wr hat.out
   have HBL:=Lib.hid hbel.out
   clear hat hbel hlt HBK HAT
   go_wp2
   go_ret
   exact⟨_,rfl,by simp,HBL⟩
def clsK:ByteArray:=⟨#[99,108,97,115,115]⟩
def ClsAt(l l':KVs)(k:Nat)(val:ByteArray):Prop:=
 (l'=l∧k<l.length∧NoneBefore l clsK k∧(l.getD k default).1.toList=clsK.toList∧(l.getD k default).2=val)∨(l'=l++[(clsK,ByteArray.empty)]∧k=l.length∧NoneBefore l clsK l.length∧val=ByteArray.empty)
def GcPost(B g:Nat)(r:NRec)(l:KVs)(w:World)(e:Ending)(w':World):Prop:=
 ∃(c val:ByteArray) (gr k cap:Nat) (l':KVs),e=.returned (.tuple #[.string c,.pointer (some ⟨gr,k*3,none⟩)])∧Hid (c.data.toList=(32::(val.data.toList++[32])).map trB)∧Hid (ClsAt l l' k val)∧k<l'.length∧Hid (Reattr B g r w w' (.slice (some ⟨gr,0,none⟩) l'.length cap) l')
theorem cat_list(a b:ByteArray):(a++b).data.toList=a.data.toList++b.data.toList:=by
 rw [ByteArray.data_append,Array.toList_append]
set_option maxRecDepth 100000 in
set_option maxHeartbeats 4000000 in
theorem getClasses_any(B g:Nat)(r:NRec)(l:KVs)(w:World)(hn:World.nodeAt w g r)(hty:r.ty=3)(ho:w.ownsRow B 119 3 r.attr l.length (attrCells l))(hB:B≤w.heap.size)(hl:l.length≤90)(hv:∀x∈l,x.2.size≤100000000000000):
  Calls Tryz.prog 76 #[.pointer (some ⟨g,0,none⟩)] w (GcPost B g r l w):=by
 obtain⟨i0,hi,hz0,hz1,hz2⟩:=info_parts Tryz.infoAttr
 obtain⟨a,cap,gr,hvv,hm,ha,hc⟩:=attr_open ho
 have hgp:=getPtr_any g gr cap a r l clsK w hn hvv hm ha hc
 unfold clsK at hgp
 have HGP:=Lib.hid hgp
 have HN:=Lib.hid hn
 have HO:=Lib.hid ho
 have HRE:=Lib.hid (Reattr.refl hn ho)
 have HV:=Lib.hid (And.intro hvv (And.intro ha hv))
 have HCC:=Lib.hid hc
 have c5:=hn.ty
 rw [hty]at c5
 have HC5:=Lib.hid c5
 obtain⟨v,hrv⟩:∃v,r.attr=v:=⟨_,rfl⟩
 have HRV:=Lib.hid hrv
 clear hgp hn ho hvv ha hc hm hv hty hrv
 go_enter Tryz.func76,Tryz.ntmps76
 go_wp2_with fail
 refine HGP.out.mono ?_
 rintro e w1 ⟨⟨rfl,hno⟩ | ⟨k,hk,rfl,hno,he⟩,hb1⟩
 ·have n1:=nodeAt_below HN.out hb1.out
  have c9:=n1.attr
  rw [HRV.out]at c9
  have f9:=n1.free 9
  have o1:=ownsRow_kept HO.out (fun k hk=>hb1.out.block k (World.ownsRow.lt HO.out k hk).2)
  rw [HRV.out]at o1
  have hlt1:=n1.lt
  obtain⟨wa,hwa⟩:∃wa,w1.alloc (.cells #[.string ⟨#[]⟩,.string ⟨#[99,108,97,115,115]⟩,.string ⟨#[]⟩] 119)=wa:=⟨_,rfl⟩
  have c9a:wa.cell? ⟨g,9,none⟩=some v:=by rw [←hwa];exact(World.cell?_alloc_lt w1 _ ⟨g,9,none⟩ hlt1).trans c9
  have f9a:wa.frozen? ⟨g,9,none⟩=false:=by rw [←hwa];exact(World.frozen?_alloc_old w1 _ ⟨g,9,none⟩ (Nat.ne_of_lt hlt1)).trans f9
  have hnews:∀j u,[Value.string ⟨#[]⟩,.string ⟨#[99,108,97,115,115]⟩,.string ⟨#[]⟩][j]? =some u→wa.cell? ((⟨w1.heap.size,0,none⟩:Addr).add j)=some u:=by
   rw [←hwa]
   exact World.news_of_block (cs:= #[.string ⟨#[]⟩,.string ⟨#[99,108,97,115,115]⟩,.string ⟨#[]⟩]) (t:=119) (fr:=(0,0)) (heap_alloc_new w1 _)
  have hownW:wa.ownsRow B 119 3 v l.length (attrCells l):=by rw [←hwa];exact World.ownsRow.alloc o1 _
  have hna:World.nodeAt wa g r:=by rw [←hwa];exact n1.alloc _
  have hba:Below w.heap.size w wa:=by rw [←hwa];exact hb1.out.alloc hb1.out.size _
  have hne:some g≠v.ownBlock:=fun e=>node_ne_own hna hownW e.symm
  have HNA:=Lib.hid (And.intro hna hba)
  have HW:=Lib.hid hownW
  have HNEWS:=Lib.hid hnews
  have HNE:=Lib.hid hne
  have HNO:=Lib.hid hno
  have HSA:=Lib.hid (show B≤wa.heap.size by have :=hba.size;omega)
  clear hno hb1 n1 o1 hnews hownW hne f9 hna hba
  subst hwa
  go_wp2_with (at_builtin;refine wpList_append_lies _ rfl _ _ 112 rfl B 119 i0 (.agg #[.string ByteArray.empty,.string ByteArray.empty,.string ByteArray.empty]) 3 48 Tryz.underlying112 hi hz0 hz1 hz2 rfl (by decide) v l.length (attrCells l) rfl HW.out ⟨w1.heap.size,0,none⟩ 1 1 [.string ⟨#[]⟩,.string ⟨#[99,108,97,115,115]⟩,.string ⟨#[]⟩] rfl rfl HNEWS.out (by simp [Value.oneCell']) (by omega) (by unfold maxLen;omega) (by omega) (by exact HSA.out) _ rfl ?_)
  intro g2 cap2 w2 hown2 hgrow hat hlt2
  have hc9:w2.cell? ⟨g,9,none⟩=some v:=(hgrow.cell_far ⟨g,9,none⟩ (by simp;omega) HNE.out).trans c9a
  have hf9:w2.frozen? ⟨g,9,none⟩=false:=(hgrow.frozen_far ⟨g,9,none⟩ (by simp;omega) HNE.out).trans f9a
  have e1:attrCells l++[.string ⟨#[]⟩,.string ⟨#[99,108,97,115,115]⟩,.string ⟨#[]⟩]=attrCells (l++[(clsK,ByteArray.empty)]):=by rw [attrCells_snoc];rfl
  rw [e1]at hown2
  have hlen:(l++[(clsK,ByteArray.empty)]).length=l.length+1:=by simp
  have hst0:=reattr_app (B:=B) (g:=g) (r:=r) HNA.out.1 (by rw [HRV.out];exact HW.out) (by rw [HRV.out];exact hgrow) hlen hown2 (by rw [HRV.out,World.size_alloc];exact hat)
  have hst:=Reattr.ahead HNA.out.2 HN.out.lt hB hst0
  obtain⟨n,hnn⟩:∃n,l.length+1=n:=⟨_,rfl⟩
  rw [hnn]at hst hlen ⊢
  obtain⟨w3,hw3⟩:∃w3,w2.setCell ⟨g,9,none⟩ (.slice (some ⟨g2,0,none⟩) n cap2)=w3:=⟨_,rfl⟩
  rw [hw3]at hst
  obtain⟨k,hk⟩:∃k,l.length=k:=⟨_,rfl⟩
  have hcc:=attr_open (l:=l++[(clsK,ByteArray.empty)]) hst.own
  obtain⟨a',cap',gr',hvv',hm',ha',hcc'⟩:=hcc
  have hla:0<(l++[(clsK,ByteArray.empty)]).length:=by simp
  have hgg:gr'=g2:=by
   have h3:=ha' hla
   rw [h3]at hvv'
   simp at hvv'
   exact hvv'.1.symm
  rw [hgg]at hcc'
  have hc2:=(hcc' k (by simp;omega)).2.2
  have hget:((l++[(clsK,ByteArray.empty)]).getD k default)=(clsK,ByteArray.empty):=by rw [←hk];simp [List.getD_eq_getElem?_getD]
  rw [hget]at hc2
  have hnk:n=k+1:=by omega
  have hw1:IntKind.i64.wrap ((n:Int)-1)=(k:Int):=by rw [hnk];rw [IntWalk.i64_in _ (by omega)];omega
  have hkI:(k:Int)<(n:Int):=by omega
  have hk0:(0:Int)≤(k:Int):=by omega
  have c9b:=hst.node.attr
  have HST:=Lib.hid hst
  have HK:=Lib.hid (And.intro hk (And.intro hnn (And.intro hnk hlen)))
  have HC2:=Lib.hid hc2
  have HHW:=Lib.hid hw3
  clear hst hst0 hown2 hgrow hat hlt2 c9 c9a f9a e1 hcc' hvv' hm' ha' hla hgg hget hnk hk hnn hlen hw3 hc2
  go_wp2
  rw [HHW.out]
  go_quiet (fail)
  obtain⟨wz,hwz⟩:∃wz,w3.drewN nq=wz:=⟨_,rfl⟩
  have hbz:Below w3.heap.size w3 wz:=by rw [←hwz];exact below_drewN (Below.refl _ _) _
  have hc3:wz.cell? ⟨g2,k*3+2,none⟩=some (.string ⟨#[]⟩):=cell_below hbz HC2.out
  rw [hwz]
  have HBZ:=Lib.hid hbz
  clear hbz hwz c9b hw1 hc9 hf9
  go_wp2_with fail
  refine(classTrim_any _ _ (by decide)).mono ?_
  rintro e w4 ⟨r1,rfl,hr,hb4⟩
  have HR:=Lib.hid hr
  have HB4:=Lib.hid hb4.out
  clear hr hb4
  go_wp2
  go_ret2
  refine⟨r1,ByteArray.empty,g2,k,cap2,l++[(clsK,ByteArray.empty)],rfl,Lib.hid (by rw [HR.out];rfl),Lib.hid (.inr ⟨rfl,HK.out.1.symm,HNO.out,rfl⟩),by rw [HK.out.2.2.2,HK.out.2.2.1];omega,Lib.hid ?_⟩
  have h5:=(HST.out.below HBZ.out).below HB4.out
  rw [HK.out.2.2.2]
  exact h5
 ·have n1:=nodeAt_below HN.out hb1.out
  obtain rfl:=HV.out.2.1 (by omega)
  have hv:=HV.out.1
  have hval:=HV.out.2.2 (l.getD k default) (by rw [List.getD_eq_getElem?_getD,List.getElem?_eq_getElem hk];exact List.getElem_mem hk)
  have c2:=cell_below hb1.out (HCC.out k hk).2.2
  have HE:=Lib.hid (show(l.getD k default).1.toList=clsK.toList by simpa [clsK]using he)
  obtain⟨val,hvv⟩:∃val,(l.getD k default).2=val:=⟨_,rfl⟩
  rw [hvv]at c2 hval
  have HVV:=Lib.hid hvv
  have HNO:=Lib.hid hno
  have HB1:=Lib.hid hb1.out
  have HVA:=Lib.hid hv
  have z1:¬9223372036854775807<(ByteArray.mk #[32]).size+val.size:=by have :(ByteArray.mk #[32]).size=1:=rfl;omega
  have z2:¬9223372036854775807<((ByteArray.mk #[32])++val).size+(ByteArray.mk #[32]).size:=by
   have :(ByteArray.mk #[32]).size=1:=rfl
   rw [ByteArray.size_append];omega
  clear hvv n1 hno he hb1 hv
  go_wp2_with fail
  refine(classTrim_any _ _ (by rw [ByteArray.size_append,ByteArray.size_append];have :(ByteArray.mk #[32]).size=1:=rfl;omega)).mono ?_
  rintro e w4 ⟨r1,rfl,hr,hb4⟩
  have HR:=Lib.hid hr
  have HB4:=Lib.hid hb4.out
  clear hr hb4
  go_wp2
  go_ret2
  refine⟨r1,val,gr,k,cap,l,rfl,Lib.hid ?_,Lib.hid (.inl ⟨rfl,hk,HNO.out,HE.out,HVV.out⟩),hk,Lib.hid ?_⟩
  ·rw [HR.out,cat_list,cat_list];rfl
  ·rw [←HVA.out]
   exact(HRE.out.below HB1.out).below HB4.out
def Sets(l:KVs)(k:Nat)(c:List UInt8)(l2:KVs):Prop:=
 (bareL c=[]∧RemC l l2)∨∃r:ByteArray,r.data.toList=bareL c∧bareL c≠[]∧l2=l.set k ((l.getD k default).1,r)
def ScPost(B g:Nat)(r0:NRec)(l:KVs)(k:Nat)(c:ByteArray)(w:World)(e:Ending)(w':World):Prop:=
 ∃v l2,e=.returned (.tuple #[])∧Hid (Sets l k c.data.toList l2)∧Hid (Reattr B g r0 w w' v l2)
set_option maxRecDepth 100000 in
set_option maxHeartbeats 4000000 in
theorem setClasses_any(B g gr k cap:Nat)(r0:NRec)(l:KVs)(c:ByteArray)(w:World)(hn:World.nodeAt w g r0)(hra:r0.attr=.slice (some ⟨gr,0,none⟩) l.length cap)(ho:w.ownsRow B 119 3 r0.attr l.length (attrCells l))(hB:B≤w.heap.size)(hk:k<l.length)(hl:l.length≤100)(hs:c.size≤4611686018427387904)(ha:∀i (h:i<c.size),(c[i]'h).toNat< 128∧(c[i]'h).toNat≠11):
  Calls Tryz.prog 78 #[.pointer (some ⟨g,0,none⟩),.pointer (some ⟨gr,k*3,none⟩),.string c] w (ScPost B g r0 l k c w):=by
 have ht:=trim_any c w hs ha
 have HT:=Lib.hid ht
 have HN:=Lib.hid hn
 have HO:=Lib.hid ho
 have HRA:=Lib.hid hra
 clear ht hn ho ha hra
 go_enter Tryz.func78,Tryz.ntmps78
 go_wp2_with fail
 refine HT.out.mono ?_
 rintro e w1 ⟨r,rfl,hr,hrs,hb1⟩
 have hlt:=HN.out.lt
 have n1:=nodeAt_below HN.out hb1
 have o1:=ownsRow_kept HO.out (fun k hk=>hb1.block k (World.ownsRow.lt HO.out k hk).2)
 have HB1:=Lib.hid hb1
 have HR:=Lib.hid hr
 have hsz:=hb1.size
 have HSZ:=Lib.hid hsz
 clear hb1 hr hrs hsz
 cases hE:r.toList.isEmpty
 ·have o2:=o1
  rw [HRA.out]at o2
  have hrow:w1.frozen? ⟨gr,k*3+2,none⟩=false:=by
   rcases o2.2 with ⟨h1,_⟩ | ⟨g',cap',cur,hv,hb,hg,hn,hm,hcs,ht⟩
   ·simp at h1
   ·simp at hv
    obtain⟨rfl,rfl⟩:=hv
    simp [World.frozen?,hg]
  obtain⟨_,_,g',hvv,_,hga,hc⟩:=attr_open o2
  simp at hvv
  have hgg:gr=g':=by
   have h3:=hga (by omega)
   rw [←hvv.1]at h3
   simpa using h3
  subst hgg
  have c2:=(hc k hk).2.2
  have hgr:=World.ownsRow.lt o2 gr rfl
  have hgne:gr≠g:=fun e=>node_ne_own n1 o2 (congrArg some e)
  have hst2:(w1.setCell ⟨gr,k*3+2,none⟩ (.string r)).ownsRow B 119 3 (.slice (some ⟨gr,0,none⟩) l.length cap) l.length ((attrCells l).set (k*3+2) (.string r)):=ownsRow_set o2 (by omega) (.string r)
  rw [attrCells_set l k r hk]at hst2
  have hre:Reattr B g r0 w1 (w1.setCell ⟨gr,k*3+2,none⟩ (.string r)) r0.attr (l.set k ((l.getD k default).1,r)):=by
   refine⟨?_,by rw [HRA.out,List.length_set];exact hst2,fun j hj h1 h2=>?_,by simp,fun B' h1 h2=>?_,fun b hb=>.inl hb⟩
   ·have hn0:=n1
    unfold World.nodeAt at hn0 ⊢
    rw [heap_setCell_other _ _ _ _ (fun e=>hgne e.symm)]
    exact hn0
   ·exact heap_setCell_other _ _ _ _ (fun e=>h2 (by rw [HRA.out];exact congrArg some e.symm))
   ·exact Below.setCell (p:=⟨gr,k*3+2,none⟩) (Below.refl _ _) (by show B'≤gr;have :=hgr.1;omega) (.string r)
  have HST:=Lib.hid (Reattr.ahead HB1.out hlt hB hre)
  have hne:bareL c.data.toList≠[]:=by
   intro h
   rw [←HR.out]at h
   have :=size_pos hE
   rw [size_list,h]at this
   simp at this
  have HNE:=Lib.hid hne
  clear o1 o2 hvv hga hc hst2 hre n1 hgr hgne hne hlt
  go_wp2
  go_end0
  exact⟨_,l.set k ((l.getD k default).1,r),rfl,Lib.hid (.inr ⟨r,HR.out,HNE.out,rfl⟩),HST⟩
 ·have hrem:=removeAttr_any B g r0 l w1 n1 o1 hl
  have HREM:=Lib.hid hrem
  have hb0:=HR.out
  rw [nil_of hE]at hb0
  have HB0:=Lib.hid hb0.symm
  have HLT:=Lib.hid hlt
  clear hrem n1 o1 hb0 hlt
  go_wp2_with fail
  refine HREM.out.mono ?_
  rintro e w2 ⟨v',l',rfl,hu⟩
  go_wp2
  go_end0
  exact⟨v',l',rfl,Lib.hid (.inl ⟨HB0.out,hu.out.rem⟩),Lib.hid (Reattr.ahead HB1.out HLT.out hB hu.out.re)⟩
end Go.Proofs.YtkdomegcacgpnaaGreat
