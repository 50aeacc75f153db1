/- Parts of a proof: TrimAll, AttrsAll. -/
import Derived.Test.YtkdomegcacgpnaaGreatG00
import Derived.BigGuardPart
import Derived.Laws.Strings
import Derived.Lib.OthersKept
set_option linter.unusedVariables false
set_option linter.unusedSimpArgs false
namespace Go.Proofs.YtkdomegcacgpnaaGreat
open Go.RowKit
def spaceI(x:Int):Bool:=x==32 || x==9 || x==10 || x==13 || x==12
def spaceB(b:UInt8):Bool:=spaceI (b.toNat:Int)
def BoolIs(r:Bool)(w:World)(e:Ending)(w':World):Prop:=e=.returned (.bool r)∧w=w'
def bareL(l:List UInt8):List UInt8:=((l.dropWhile spaceB).reverse.dropWhile spaceB).reverse
theorem size_pos{z:ByteArray}(hE:z.toList.isEmpty=false):0<z.size:=by
 rcases Nat.eq_zero_or_pos z.size with h | h
 ·exfalso
  rw [ByteArray.toList_eq]at hE
  have :z.data.toList.length=0:=by rw [Array.length_toList];exact h
  rw [List.eq_nil_of_length_eq_zero this]at hE
  cases hE
 ·exact h
theorem nil_of{z:ByteArray}(hE:z.toList.isEmpty=true):z.data.toList=[]:=by
 rw [ByteArray.toList_eq]at hE
 exact List.isEmpty_iff.1 hE
theorem size_list(z:ByteArray):z.size=z.data.toList.length:=by rw [Array.length_toList];rfl
theorem extract_list(z:ByteArray)(i j:Nat):(z.extract i j).data.toList=(z.data.toList.drop i).take (j-i):=by
 rw [ByteArray.data_extract,Array.toList_extract,List.extract_eq_take_drop]
end Go.Proofs.YtkdomegcacgpnaaGreat
namespace Go.Proofs.YtkdomegcacgpnaaGreat
open Go.RowKit
set_option maxRecDepth 100000 in
set_option maxHeartbeats 1000000 in
theorem isSpace_any(x:Int)(w:World)(h0:0≤x)(h1:x<128)(h2:x≠11):Calls Tryz.prog 120 #[.int .i32 x] w (BoolIs (spaceI x) w):=by
 by_cases h:x=9∨x=10∨x=12∨x=13∨x=32
 ·rcases h with rfl | rfl | rfl | rfl | rfl
  all_goals
   go_enter Tryz.func120,Tryz.ntmps120
   go_wp2
   go_ret
   exact⟨rfl,rfl⟩
 ·have hs:spaceI x=false:=by
   unfold spaceI
   simp only [Bool.or_eq_false_iff,beq_eq_false_iff_ne]
   omega
  rw [hs]
  have e1:(x==9)=false:=by simp;omega
  have e2:(x==10)=false:=by simp;omega
  have e3:(x==11)=false:=by simp;omega
  have e4:(x==12)=false:=by simp;omega
  have e5:(x==13)=false:=by simp;omega
  have e6:(x==32)=false:=by simp;omega
  have e7:(x==133)=false:=by simp;omega
  have e8:(x==160)=false:=by simp;omega
  have e9:(x==5760)=false:=by simp;omega
  have e10:(x==8232)=false:=by simp;omega
  have e11:(x==8233)=false:=by simp;omega
  have e12:(x==8239)=false:=by simp;omega
  have e13:(x==8287)=false:=by simp;omega
  have e14:(x==12288)=false:=by simp;omega
  have e15:decide ((8192:Int)≤x)=false:=by simp;omega
  clear hs h
  go_enter Tryz.func120,Tryz.ntmps120
  go_wp2
  go_ret
  exact⟨rfl,rfl⟩
def Ends(l:List UInt8)(pos f t:Nat):Prop:=
 (t=0∧f=l.length∧∀j,j<pos→spaceB (l.getD j 0)=true)∨
 (f<t∧t≤pos∧(∀j,j<f→spaceB (l.getD j 0)=true)∧spaceB (l.getD f 0)=false∧spaceB (l.getD (t-1) 0)=false∧∀j,t≤j→j<pos→spaceB (l.getD j 0)=true)
theorem ends_space{l:List UInt8}{pos f t:Nat}(h:Ends l pos f t)(hs:spaceB (l.getD pos 0)=true):Ends l (pos+1) f t:=by
 rcases h with ⟨h1,h2,h3⟩ | ⟨h1,h2,h3,h4,h5,h6⟩
 ·refine .inl ⟨h1,h2,fun j hj=>?_⟩
  rcases Nat.lt_or_ge j pos with h | h
  ·exact h3 j h
  ·obtain rfl:j=pos:=by omega
   exact hs
 ·refine .inr ⟨h1,by omega,h3,h4,h5,fun j hj1 hj2=>?_⟩
  rcases Nat.lt_or_ge j pos with h | h
  ·exact h6 j hj1 h
  ·obtain rfl:j=pos:=by omega
   exact hs
theorem ends_not{l:List UInt8}{pos f t:Nat}(hp:pos<l.length)(h:Ends l pos f t)(hs:spaceB (l.getD pos 0)=false):Ends l (pos+1) (min f pos) (pos+1):=by
 rcases h with ⟨h1,h2,h3⟩ | ⟨h1,h2,h3,h4,h5,h6⟩
 ·have :min f pos=pos:=by omega
  rw [this]
  exact .inr ⟨by omega,by omega,h3,hs,hs,fun j h1 h2=>by omega⟩
 ·have :min f pos=f:=by omega
  rw [this]
  exact .inr ⟨by omega,by omega,h3,h4,hs,fun j h1 h2=>by omega⟩
theorem getD_of{l:List UInt8}{j:Nat}(h:j<l.length):l.getD j 0=l[j]:=by rw [List.getD_eq_getElem?_getD,List.getElem?_eq_getElem h];rfl
theorem all_mem{l:List UInt8}{p:UInt8→Bool}(h:∀j,j<l.length→p (l.getD j 0)=true):∀a∈l,p a=true:=by
 intro a ha
 obtain⟨j,hj,rfl⟩:=List.mem_iff_getElem.1 ha
 have :=h j hj
 rwa [getD_of hj]at this
theorem bareL_none{l:List UInt8}{f:Nat}(h:∀j,j<l.length→spaceB (l.getD j 0)=true):bareL l=[]:=by
 have h1:=List.dropWhile_append_of_pos (l₂:=[]) (all_mem h)
 rw [List.append_nil]at h1
 unfold bareL
 rw [h1]
 rfl
theorem bareL_mid{l:List UInt8}{f t:Nat}(hf:f<t)(ht:t≤l.length)(h3:∀j,j<f→spaceB (l.getD j 0)=true)(h4:spaceB (l.getD f 0)=false)(h5:spaceB (l.getD (t-1) 0)=false)(h6:∀j,t≤j→j<l.length→spaceB (l.getD j 0)=true):
  bareL l=(l.drop f).take (t-f):=by
 have ha:∀a∈l.take f,spaceB a=true:=all_mem (fun j hj=>by
  rw [List.length_take]at hj
  rw [List.getD_eq_getElem?_getD,List.getElem?_take,if_pos (by omega),←List.getD_eq_getElem?_getD]
  exact h3 j (by omega))
 have hc:∀a∈(l.drop t).reverse,spaceB a=true:=by
  intro a hm
  rw [List.mem_reverse]at hm
  revert a
  exact all_mem (fun j hj=>by
   rw [List.length_drop]at hj
   rw [List.getD_eq_getElem?_getD,List.getElem?_drop,←List.getD_eq_getElem?_getD]
   exact h6 (t+j) (by omega) (by omega))
 have hd:l.dropWhile spaceB=l.drop f:=by
  conv=>lhs;rw [←List.take_append_drop f l]
  rw [List.dropWhile_append_of_pos ha,List.drop_eq_getElem_cons (by omega),List.dropWhile_cons]
  rw [getD_of (by omega)]at h4
  rw [h4]
  rfl
 unfold bareL
 rw [hd]
 have hsplit:l.drop f=(l.drop f).take (t-f)++l.drop t:=by
  conv=>lhs;rw [←List.take_append_drop (t-f) (l.drop f)]
  rw [List.drop_drop,show f+(t-f)=t by omega]
 conv=>lhs;rw [hsplit]
 rw [List.reverse_append,List.dropWhile_append_of_pos hc]
 have hlast:(l.drop f).take (t-f)=(l.drop f).take (t-f-1)++[l[t-1]'(by omega)]:=by
  rw [show t-f=(t-f-1)+1 by omega,List.take_add_one,List.getElem?_drop,show f+(t-f-1)=t-1 by omega,List.getElem?_eq_getElem (by omega)]
  rfl
 rw [getD_of (by omega)]at h5
 have hrev:((l.drop f).take (t-f)).reverse.dropWhile spaceB=((l.drop f).take (t-f)).reverse:=by
  rw [hlast,List.reverse_append,List.reverse_singleton,List.singleton_append,List.dropWhile_cons,h5]
  rfl
 rw [hrev,List.reverse_reverse]
def TrimPost(s:ByteArray)(w:World)(e:Ending)(w':World):Prop:=∃r:ByteArray,e=.returned (.string r)∧r.data.toList=bareL s.data.toList∧r.size≤s.size∧Below w.heap.size w w'
set_option maxRecDepth 100000 in
set_option maxHeartbeats 4000000 in
theorem trim_any(s:ByteArray)(w:World)(hs:s.size≤4611686018427387904)(ha:∀i (h:i<s.size),(s[i]'h).toNat< 128∧(s[i]'h).toNat≠11):
  Calls Tryz.prog 73 #[.string s] w (TrimPost s w):=by
 have hk0:(w.iter s 0).heap[w.heap.size]? =some (.stringIter s 0):=World.iter_heap w s 0
 have hb0:Below w.heap.size w (w.iter s 0):=(Below.refl _ w).alloc (Nat.le_refl _) _
 have HA:=Lib.hid ha
 clear ha
 obtain⟨l,hl⟩:∃l,s.data.toList=l:=⟨_,rfl⟩
 have hll:l.length=s.size:=by rw [←hl,←size_list]
 have HL:=Lib.hid hl
 clear hl
 go_enter Tryz.func73,Tryz.ntmps73
 go_wp2
 go_loopw [3,4] (fun vf vt wr=>∃pos f t:Nat,pos≤s.size∧f≤s.size∧t≤pos∧vf=.int .i64 (f:Int)∧vt=.int .i64 (t:Int)∧Hid (Ends l pos f t)∧wr.heap[w.heap.size]? =some (.stringIter s pos)∧Below w.heap.size w wr)
  (fun _ _ wr=>s.size-wr.iterPos w.heap.size)
 case atStart=>exact⟨0,s.size,0,by omega,by omega,by omega,by go_num,by go_num,Lib.hid (.inl ⟨rfl,hll.symm,fun j hj=>by omega⟩),hk0,hb0⟩
 case round=>
  obtain⟨pos,f,t,hps,hfs,hts,rfl,rfl,HE,hk,hbel⟩:=hrel
  clear hk0 hb0
  have hmu:wr.iterPos w.heap.size=pos:=by simp [World.iterPos,hk]
  by_cases hp:pos<s.size
  ·have h128:=(HA.out pos hp).1
   have hnext:∀ty,(Instr.next (.pointer (some ⟨w.heap.size,0,none⟩)) true ty).run Tryz.prog wr=_:=fun ty=>Lib.run_next_ascii_at wr w.heap.size s pos ty hk hp h128
   have hk1:=Lib.iterAt_heap wr w.heap.size s pos (pos+1) hk
   have hb1:Below w.heap.size w (wr.iterAt w.heap.size s (pos+1)):=Lib.below_iterAt hbel (by omega) s (pos+1)
   generalize wr.iterAt w.heap.size s (pos+1)=W1 at hnext hk1 hb1
   have hch:l.getD pos 0=s[pos]:=by rw [getD_of (by omega)];have :=HL.out;subst this;rfl
   have hsp:=isSpace_any (s[pos].toNat:Int) W1 (by omega) (by omega) (by have :=(HA.out pos hp).2;omega)
   rw [show spaceI (s[pos].toNat:Int)=spaceB (l.getD pos 0) by rw [hch];rfl]at hsp
   have hmu2:W1.iterPos w.heap.size=pos+1:=by simp [World.iterPos,hk1]
   have HSP:=Lib.hid hsp
   have HK:=Lib.hid (And.intro hk1 hb1)
   have HMU:=Lib.hid (And.intro hmu hmu2)
   cases hb:spaceB (l.getD pos 0)
   ·have HE2:=Lib.hid (ends_not (by omega) HE.out hb)
    rw [hb]at HSP
    clear hk1 hb1 hsp hmu hmu2 hb hk hbel hch h128
    go_wp2_with fail
    refine HSP.out.mono ?_
    rintro e w2 ⟨rfl,rfl⟩
    by_cases hm:pos<f
    ·have hmI:(pos:Int)<(f:Int):=by omega
     rw [show min f pos=pos by omega]at HE2
     go_wp2
     go_loopw [4] (fun v wr=>v=.int .i64 ((pos+1:Nat):Int)∧W1=wr) (fun _ _=>0)
     case atStart=>exact⟨by go_num,by first | rfl | trivial⟩
     case round=>
      obtain⟨rfl,rfl⟩:=hrel
      by_cases hq:pos+1<s.size
      ·have hq1:=(HA.out (pos+1) hq).1
       have hqI:(((pos+1:Nat):Int))<(s.size:Int):=by omega
       have hqd:decide ((128:Int)≤((s[pos+1]'hq).toNat:Int))=false:=by simp;omega
       go_wp2
       refine⟨?rel,?measure⟩
       case rel=>exact⟨pos+1,pos,pos+1,by omega,by omega,by omega,rfl,rfl,HE2,HK.out.1,HK.out.2⟩
       case measure=>rw [HMU.out.1,HMU.out.2];omega
      ·have hqI:¬(((pos+1:Nat):Int))<(s.size:Int):=by omega
       go_wp2
       refine⟨?rel,?measure⟩
       case rel=>exact⟨pos+1,pos,pos+1,by omega,by omega,by omega,rfl,rfl,HE2,HK.out.1,HK.out.2⟩
       case measure=>rw [HMU.out.1,HMU.out.2];omega
    ·have hmI:¬(pos:Int)<(f:Int):=by omega
     rw [show min f pos=f by omega]at HE2
     go_wp2
     go_loopw [4] (fun v wr=>v=.int .i64 ((pos+1:Nat):Int)∧W1=wr) (fun _ _=>0)
     case atStart=>exact⟨by go_num,by first | rfl | trivial⟩
     case round=>
      obtain⟨rfl,rfl⟩:=hrel
      by_cases hq:pos+1<s.size
      ·have hq1:=(HA.out (pos+1) hq).1
       have hqI:(((pos+1:Nat):Int))<(s.size:Int):=by omega
       have hqd:decide ((128:Int)≤((s[pos+1]'hq).toNat:Int))=false:=by simp;omega
       go_wp2
       refine⟨?rel,?measure⟩
       case rel=>exact⟨pos+1,f,pos+1,by omega,by omega,by omega,rfl,rfl,HE2,HK.out.1,HK.out.2⟩
       case measure=>rw [HMU.out.1,HMU.out.2];omega
      ·have hqI:¬(((pos+1:Nat):Int))<(s.size:Int):=by omega
       go_wp2
       refine⟨?rel,?measure⟩
       case rel=>exact⟨pos+1,f,pos+1,by omega,by omega,by omega,rfl,rfl,HE2,HK.out.1,HK.out.2⟩
       case measure=>rw [HMU.out.1,HMU.out.2];omega
   ·have HE2:=Lib.hid (ends_space HE.out hb)
    rw [hb]at HSP
    clear hk1 hb1 hsp hmu hmu2 hb hk hbel hch h128
    go_wp2_with fail
    refine HSP.out.mono ?_
    rintro e w2 ⟨rfl,rfl⟩
    go_wp2
    refine⟨?rel,?measure⟩
    case rel=>exact⟨pos+1,f,t,by omega,by omega,by omega,rfl,rfl,HE2,HK.out.1,HK.out.2⟩
    case measure=>rw [HMU.out.1,HMU.out.2];omega
  ·have hnext:∀ty,(Instr.next (.pointer (some ⟨w.heap.size,0,none⟩)) true ty).run Tryz.prog wr=_:=fun ty=>Lib.run_next_end_at wr w.heap.size s pos ty hk hp
   obtain rfl:pos=s.size:=by omega
   have HB:=Lib.hid hbel
   clear hbel hmu hk
   by_cases hle:t≤f
   ·go_wp2
    go_ret
    refine⟨_,rfl,?_,Nat.zero_le _,HB.out⟩
    rcases HE.out with ⟨_,_,h3⟩ | ⟨h1,_⟩
    ·rw [HL.out,bareL_none (f:=f) (fun j hj=>h3 j (by omega))]
    ·omega
   ·go_wp2
    go_ret
    refine⟨_,rfl,?_,?_,HB.out⟩
    ·rw [extract_list,HL.out]
     rcases HE.out with ⟨h1,_,_⟩ | ⟨h1,h2,h3,h4,h5,h6⟩
     ·omega
     ·exact(bareL_mid h1 (by omega) h3 h4 h5 (fun j a b=>h6 j a (by omega))).symm
    ·rw [size_list,extract_list,HL.out,List.length_take,List.length_drop]
     omega
def isSp(n:Int):Bool:=n==32 || n==9 || n==10 || n==13 || n==12
def wst(s:ByteArray):Nat→Nat×List ByteArray
 | 0=>(0,[])
 | k+1=>if h:k<s.size then(if isSp (s[k].toNat:Int)then(k+1,if(wst s k).1< k then(wst s k).2++[s.extract (wst s k).1 k]else(wst s k).2)else wst s k)else(k+1,if(wst s k).1< k then(wst s k).2++[s.extract (wst s k).1 k]else(wst s k).2)
theorem wst_word{s:ByteArray}{k m:Nat}{ws:List ByteArray}(h:wst s k=(m,ws))(hk:k<s.size)(hsp:isSp (s[k].toNat:Int)=false):wst s (k+1)=(m,ws):=by
 simp only [wst,hk,dif_pos,hsp];simpa using h
theorem wst_cut{s:ByteArray}{k m:Nat}{ws:List ByteArray}(h:wst s k=(m,ws))(hk:k<s.size)(hsp:isSp (s[k].toNat:Int)=true):wst s (k+1)=(k+1,if m<k then ws++[s.extract m k]else ws):=by
 simp only [wst,hk,dif_pos,hsp,h];rfl
theorem wst_end{s:ByteArray}{m:Nat}{ws:List ByteArray}(h:wst s s.size=(m,ws)):wst s (s.size+1)=(s.size+1,if m<s.size then ws++[s.extract m s.size]else ws):=by
 simp only [wst,Nat.lt_irrefl,dif_neg,not_false_eq_true,h]
def wordsF(s:ByteArray):List ByteArray:=(wst s (s.size+1)).2
theorem str_info':(Tryz.prog.info? 9).map (fun i=>(i.zero,i.size,i.bytes))=some (some (.string ByteArray.empty),1,16):=by kernel_rfl
def OwnStrs(w:World)(B:Nat)(v:Value)(l:List ByteArray):Prop:=w.ownsRow B 9 1 v l.length (l.map .string)
def WordsPost(s:ByteArray)(w:World)(e:Ending)(w':World):Prop:=∃v,e=.returned v∧Hid (OwnStrs w' w.heap.size v (wordsF s))∧Hid (Below w.heap.size w w')
end Go.Proofs.YtkdomegcacgpnaaGreat
namespace Go.Proofs.YtkdomegcacgpnaaGreat
open Go.RowKit
structure Tested (n:Int) (a b c d e:Bool):Prop where
 e1:(n !=32)=a
 e2:(n !=9)=b
 e3:(n !=10)=c
 e4:(n !=12)=d
 e5:(n !=13)=e
theorem isSp_tested{n:Int}(h:isSp n=true):Tested n false true true true true∨Tested n true false true true true∨Tested n true true false true true∨Tested n true true true false true∨Tested n true true true true false:=by
 simp [isSp]at h
 rcases h with (((rfl | rfl) | rfl) | rfl) | rfl
 ·exact .inl ⟨rfl,rfl,rfl,rfl,rfl⟩
 ·exact .inr (.inl ⟨rfl,rfl,rfl,rfl,rfl⟩)
 ·exact .inr (.inr (.inl ⟨rfl,rfl,rfl,rfl,rfl⟩))
 ·exact .inr (.inr (.inr (.inr ⟨rfl,rfl,rfl,rfl,rfl⟩)))
 ·exact .inr (.inr (.inr (.inl ⟨rfl,rfl,rfl,rfl,rfl⟩)))
theorem isSp_no{n:Int}(h:isSp n=false):(n==32)=false∧(n==9)=false∧(n==10)=false∧(n==12)=false∧(n==13)=false:=by
 simp [isSp]at h ⊢;omega
theorem bne_of{n c:Int}{b:Bool}(h:(n==c)=b):(n !=c)= !b :=by simp [bne,h]
set_option maxRecDepth 100000 in
set_option maxHeartbeats 8000000 in
theorem words_any(s:ByteArray)(w:World)(hs:s.size≤16000000000000):Calls Tryz.prog 52 #[.string s] w (WordsPost s w):=by
 obtain⟨i0,hi,hz0,hz1,hz2⟩:=info_parts str_info'
 go_enter Tryz.func52,Tryz.ntmps52
 go_wp2
 go_loopw [3,4,5] (fun x f i wr=>∃(k m:Nat) (ws:List ByteArray),i=.int .i64 (k:Int)∧f=.int .i64 (m:Int)∧k≤s.size+1∧m≤k∧2*ws.length≤m∧wst s k=(m,ws)∧OwnStrs wr w.heap.size x ws∧Below w.heap.size w wr)
  (fun _ _ i _=>s.size+1-(intOf i).toNat)
 case atStart=>exact⟨0,0,[],by go_num,by go_num,by omega,by omega,by simp,rfl,World.ownsRow_nil _ _ _ _,Below.refl _ _⟩
 case round=>
  obtain⟨k,m,ws,rfl,rfl,hk,hmk,hwl,hst,hown,hbel⟩:=hrel
  have HST:=Lib.hid hst
  clear hst
  have HOWN:=Lib.hid hown
  have HBEL:=Lib.hid hbel
  clear hown hbel
  by_cases hle:k≤s.size
  ·by_cases hlt:k<s.size
   ·cases hsp:isSp (s[k].toNat:Int)
    ·obtain⟨h1,h2,h3,h4,h5⟩:=isSp_no hsp
     have e1:=bne_of h1
     have e2:=bne_of h2
     have e3:=bne_of h3
     have e4:=bne_of h4
     have e5:=bne_of h5
     simp only [Bool.not_false]at e1 e2 e3 e4 e5
     clear h1 h2 h3 h4 h5
     have HSP:=Lib.hid hsp
     clear hsp
     go_wp2
     go_roundw
     case rel=>exact⟨k+1,m,ws,by go_num,rfl,by omega,by omega,by omega,wst_word HST.out hlt HSP.out,HOWN.out,HBEL.out⟩
     case measure=>simp [intOf];omega
    ·have HSP:=Lib.hid hsp
     by_cases hfm:m<k
     ·have hfI:(m:Int)<(k:Int):=by omega
      have gf:decide ((m:Int)<(k:Int))=true:=decide_eq_true hfI
      have hown':wr.ownsRow w.heap.size 9 1 u3 ws.length (ws.map .string):=HOWN.out
      rcases isSp_tested hsp with ⟨e1,e2,e3,e4,e5⟩ | ⟨e1,e2,e3,e4,e5⟩ | ⟨e1,e2,e3,e4,e5⟩ | ⟨e1,e2,e3,e4,e5⟩ | ⟨e1,e2,e3,e4,e5⟩
      all_goals
       clear hsp
       go_wp2_with (at_builtin;refine wpList_append_own _ rfl _ _ 24 rfl w.heap.size 9 i0 (.string ByteArray.empty) 1 16 Tryz.underlying24 hi hz0 hz1 hz2 rfl (by decide) _ _ _ rfl (hown'.alloc _) ⟨wr.heap.size,0,none⟩ 1 1 [.string (s.extract m k)] rfl rfl ?c1A ?c2A ?c3A ?c4A ?c5A ?_)
       case c1A=>
        intro j u hj
        match j,hj with
        | 0,hj=>simp at hj;subst hj;simp [Addr.add]
       case c2A=>first | rfl | (intro u hu;simp at hu;subst hu;rfl)
       case c3A=>unfold maxLen;omega
       case c4A=>omega
       case c5A=>have :=HBEL.out.size;simp;omega
       intro v' w3 hown3 hgrow _
       have hbel3:Below w.heap.size w w3:=(HBEL.out.alloc HBEL.out.size _).grown hgrow (by have :=HBEL.out.size;simp;omega) (fun q hq=>(World.ownsRow.lt hown' q hq).1)
       have hsn:OwnStrs w3 w.heap.size v' (ws++[s.extract m k]):=by unfold OwnStrs;simpa using hown3
       have H3:=Lib.hid (And.intro hsn hbel3)
       clear hown3 hgrow hbel3 hsn hown'
       go_wp2
       go_roundw
       case rel=>exact⟨k+1,k+1,ws++[s.extract m k],by go_num,by go_num,by omega,by omega,by simp;omega,by rw [wst_cut HST.out hlt HSP.out,if_pos hfm],H3.out.1,H3.out.2⟩
       case measure=>simp [intOf];omega
     ·have gf:decide ((m:Int)<(k:Int))=false:=by simp;omega
      rcases isSp_tested hsp with ⟨e1,e2,e3,e4,e5⟩ | ⟨e1,e2,e3,e4,e5⟩ | ⟨e1,e2,e3,e4,e5⟩ | ⟨e1,e2,e3,e4,e5⟩ | ⟨e1,e2,e3,e4,e5⟩
      all_goals
       clear hsp
       go_wp2
       go_roundw
       case rel=>exact⟨k+1,k+1,ws,by go_num,by go_num,by omega,by omega,by omega,by rw [wst_cut HST.out hlt HSP.out,if_neg hfm],HOWN.out,HBEL.out⟩
       case measure=>simp [intOf];omega
   ·obtain rfl:k=s.size:=by omega
    clear hlt
    by_cases hfm:m<s.size
    ·have hfI:(m:Int)<(s.size:Int):=by omega
     have gf:decide ((m:Int)<(s.size:Int))=true:=decide_eq_true hfI
     have hown':wr.ownsRow w.heap.size 9 1 u3 ws.length (ws.map .string):=HOWN.out
     go_wp2_with (at_builtin;refine wpList_append_own _ rfl _ _ 24 rfl w.heap.size 9 i0 (.string ByteArray.empty) 1 16 Tryz.underlying24 hi hz0 hz1 hz2 rfl (by decide) _ _ _ rfl (hown'.alloc _) ⟨wr.heap.size,0,none⟩ 1 1 [.string (s.extract m s.size)] rfl rfl ?c1B ?c2B ?c3B ?c4B ?c5B ?_)
     case c1B=>
      intro j u hj
      match j,hj with
      | 0,hj=>simp at hj;subst hj;simp [Addr.add]
     case c2B=>first | rfl | (intro u hu;simp at hu;subst hu;rfl)
     case c3B=>unfold maxLen;omega
     case c4B=>omega
     case c5B=>have :=HBEL.out.size;simp;omega
     intro v' w3 hown3 hgrow _
     have hbel3:Below w.heap.size w w3:=(HBEL.out.alloc HBEL.out.size _).grown hgrow (by have :=HBEL.out.size;simp;omega) (fun q hq=>(World.ownsRow.lt hown' q hq).1)
     have hsn:OwnStrs w3 w.heap.size v' (ws++[s.extract m s.size]):=by unfold OwnStrs;simpa using hown3
     have H3:=Lib.hid (And.intro hsn hbel3)
     clear hown3 hgrow hbel3 hsn hown'
     go_wp2
     go_roundw
     case rel=>exact⟨s.size+1,s.size+1,ws++[s.extract m s.size],by go_num,by go_num,by omega,by omega,by simp;omega,by rw [wst_end HST.out,if_pos hfm],H3.out.1,H3.out.2⟩
     case measure=>simp [intOf] <;> omega
    ·have gf:decide ((m:Int)<(s.size:Int))=false:=by simp;omega
     go_wp2
     go_roundw
     case rel=>exact⟨s.size+1,s.size+1,ws,by go_num,by go_num,by omega,by omega,by omega,by rw [wst_end HST.out,if_neg hfm],HOWN.out,HBEL.out⟩
     case measure=>simp [intOf] <;> omega
  ·obtain rfl:k=s.size+1:=by omega
   have hw:ws=wordsF s:=by unfold wordsF;rw [HST.out]
   have HO:Hid (OwnStrs wr w.heap.size u3 (wordsF s)):=by rw [←hw];exact HOWN
   clear hw
   go_wp2
   go_ret
   exact⟨_,rfl,HO,HBEL⟩
theorem wst_len(s:ByteArray):∀k,(wst s k).2.length≤k:=by
 intro k
 induction k with
 | zero=>simp [wst]
 | succ k ih=>
  simp only [wst]
  split
  ·split
   ·split
    ·rw [List.length_append];simp;omega
    ·show(wst s k).2.length≤k+1;omega
   ·omega
  ·split
   ·rw [List.length_append];simp;omega
   ·show(wst s k).2.length≤k+1;omega
theorem wordsF_len(s:ByteArray):(wordsF s).length≤s.size+1:=wst_len s _
def inW(ws:List ByteArray)(x:ByteArray):Nat→Bool
 | 0=>false
 | k+1=>inW ws x k || ((ws.getD k ByteArray.empty).toList==x.toList)
def StrCells(w:World)(a:Option Addr)(n:Nat)(ss:List ByteArray):Prop:=
 n≤9223372036854775807∧(0<n→∃b off,a=some ⟨b,off,none⟩∧∀i,i<n→w.cell? ⟨b,off+i,none⟩=some (.string (ss.getD i ByteArray.empty)))
theorem StrCells.below{w w':World}{a:Option Addr}{n:Nat}{ss:List ByteArray}(h:StrCells w a n ss)(hb:Below w.heap.size w w'):StrCells w' a n ss:=by
 refine⟨h.1,fun h0=>?_⟩
 obtain⟨b,off,rfl,hc⟩:=h.2 h0
 exact⟨b,off,rfl,fun i hi=>cell_below hb (hc i hi)⟩
theorem StrCells.part{w:World}{a:Option Addr}{n k:Nat}{ss:List ByteArray}(h:StrCells w a n ss)(hk:k≤n):StrCells w a k ss:=by
 refine⟨by have :=h.1;omega,fun h0=>?_⟩
 obtain⟨b,off,rfl,hc⟩:=h.2 (by omega)
 exact⟨b,off,rfl,fun i hi=>hc i (by omega)⟩
theorem StrCells.drewN{w:World}{a:Option Addr}{n:Nat}{ss:List ByteArray}(h:StrCells w a n ss)(d:Nat):StrCells (w.drewN d) a n ss:=by
 refine⟨h.1,fun h0=>?_⟩
 obtain⟨b,off,rfl,hc⟩:=h.2 h0
 exact⟨b,off,rfl,fun i hi=>by simpa using hc i hi⟩
theorem OwnStrs.open{w:World}{B:Nat}{v:Value}{l:List ByteArray}(h:OwnStrs w B v l):∃a cap,v=.slice a l.length cap∧l.length≤cap∧StrCells w a l.length l:=by
 rcases h.2 with ⟨rfl,h0⟩ | ⟨g,cap,cur,rfl,hb,hg,hn,hm,hcs,ht⟩
 ·exact⟨none,0,by rw [h0],by omega,by omega,fun h=>by omega⟩
 ·refine⟨_,cap,rfl,by simpa using hn,by unfold maxLen at hm;omega,fun hl=>⟨g,0,rfl,fun i hi=>?_⟩⟩
  have :=World.ownsRow.cells (h:=h) (g:=g) rfl i (.string (l.getD i ByteArray.empty)) (by simp [List.getD,hi])
  have hadd:(⟨g,0,none⟩:Addr).add i=⟨g,0+i,none⟩:=by unfold Addr.add;split <;> simp_all
  rw [hadd]at this
  exact this
set_option maxRecDepth 100000 in
set_option maxHeartbeats 1000000 in
theorem isWord_any(a:Option Addr)(len cap:Nat)(ss:List ByteArray)(x:ByteArray)(w:World)(h:StrCells w a len ss):
  Calls Tryz.prog 53 #[.slice a len cap,.string x] w (SomeBool (fun b=>b=inW ss x len) w):=by
 have hm:=h.1
 have HS:=Lib.hid h.2
 clear h
 go_enter Tryz.func53,Tryz.ntmps53
 go_wp2
 go_loop [5] (fun i=>∃k:Nat,k≤len∧i=.int .i64 (k:Int)∧inW ss x k=false) (fun i=>len-(intOf i).toNat)
 case atStart=>exact⟨0,by omega,by go_num,rfl⟩
 case round=>
  obtain⟨k,hk,rfl,hno⟩:=hrel
  by_cases hlt:k<len
  ·obtain⟨b,off,rfl,hc⟩:=HS.out (by omega)
   have ck:=hc k hlt
   have hst:inW ss x (k+1)=((ss.getD k ByteArray.empty).toList==x.toList):=by simp only [inW,hno,Bool.false_or]
   obtain⟨y,hy⟩:∃y,ss.getD k ByteArray.empty=y:=⟨_,rfl⟩
   rw [hy]at ck hst
   have HST:=Lib.hid hst
   have HNO:=Lib.hid hno
   clear hc hy hst hno
   cases hq:(y.toList==x.toList)
   ·have hf:inW ss x (k+1)=false:=by rw [HST.out,hq]
    have HF:=Lib.hid hf
    clear hf
    go_wp2
    go_round
    case rel=>exact⟨k+1,by omega,by go_num,HF.out⟩
    case measure=>simp [intOf];omega
   ·have hall:∀d,inW ss x (k+1+d)=true:=fun d=>by
     induction d with
     | zero=>rw [Nat.add_zero,HST.out,hq]
     | succ d ih=>show inW ss x (k+1+d+1)=true;simp only [inW,ih,Bool.true_or]
    have hfin:=hall (len-(k+1))
    rw [show k+1+(len-(k+1))=len by omega]at hfin
    have HFIN:=Lib.hid hfin
    clear hall hfin
    go_wp2
    go_ret
    exact⟨true,HFIN.out.symm,rfl,rfl⟩
  ·obtain rfl:k=len:=by omega
   have HNO:=Lib.hid hno
   clear hno
   go_wp2
   go_ret
   exact⟨false,HNO.out.symm,rfl,rfl⟩
def SimpleSays(s:ByteArray)(b:Bool):Prop:=b=true→(∀j (h:j<s.size),s[j].toNat≠12∧s[j].toNat≠11∧s[j].toNat< 128)∧(∀i,i<(wordsF s).length→inW (wordsF s) ((wordsF s).getD i ByteArray.empty) i=false)
theorem simpleSays_false(s:ByteArray):SimpleSays s false:=by simp [SimpleSays]
set_option maxRecDepth 100000 in
set_option maxHeartbeats 2000000 in
theorem simpleClass_any(s:ByteArray)(w:World)(hs:s.size≤16000000000000):
  Calls Tryz.prog 114 #[.string s] w (SomeBoolB (SimpleSays s) w):=by
 have hwl:=wordsF_len s
 go_enter Tryz.func114,Tryz.ntmps114
 go_wp2
 go_loop [3] (fun i=>∃k:Nat,k≤s.size∧i=.int .i64 (k:Int)∧∀j (h:j<s.size),j<k→s[j].toNat≠12∧s[j].toNat≠11∧s[j].toNat< 128) (fun i=>s.size-(intOf i).toNat)
 case atStart=>exact⟨0,by omega,by go_num,fun j _ h=>by omega⟩
 case round=>
  obtain⟨k,hk,rfl,hall⟩:=hrel
  have HALL:=Lib.hid hall
  clear hall
  by_cases hlt:k<s.size
  ·have hkI:(k:Int)<(s.size:Int):=by omega
   cases e1:((s[k].toNat:Int)==12)
   ·cases e2:((s[k].toNat:Int)==11)
    ·by_cases h3:s[k].toNat< 128
     ·have e3:decide ((128:Int)≤(s[k].toNat:Int))=false:=by simp;omega
      have e3n:decide (128≤s[k].toNat)=false:=by simp;omega
      have hnx:∀j (h:j<s.size),j<k+1→s[j].toNat≠12∧s[j].toNat≠11∧s[j].toNat< 128:=fun j hj hjk=>by
       by_cases e:j=k
       ·subst e
        simp at e1 e2
        omega
       ·exact HALL.out j hj (by omega)
      have HNX:=Lib.hid hnx
      clear hnx h3
      go_wp2
      go_round
      case rel=>exact⟨k+1,by omega,by go_num,HNX.out⟩
      case measure=>simp [intOf];omega
     ·have e3:decide ((128:Int)≤(s[k].toNat:Int))=true:=by simp;omega
      have e3n:decide (128≤s[k].toNat)=true:=by simp;omega
      clear h3
      go_wp2
      go_ret
      exact⟨false,simpleSays_false s,rfl,Below.refl _ _⟩
    ·go_wp2
     go_ret
     exact⟨false,simpleSays_false s,rfl,Below.refl _ _⟩
   ·go_wp2
    go_ret
    exact⟨false,simpleSays_false s,rfl,Below.refl _ _⟩
  ·obtain rfl:k=s.size:=by omega
   clear hlt
   have hgood:∀j (h:j<s.size),s[j].toNat≠12∧s[j].toNat≠11∧s[j].toNat< 128:=fun j h=>HALL.out j h h
   have HG:=Lib.hid hgood
   clear HALL hgood
   go_wp2_with fail
   refine(words_any s w hs).mono ?_
   rintro e w1 ⟨v,rfl,ho,hb⟩
   obtain⟨a,cap,rfl,hcap,hcells⟩:=ho.out.open
   have HC:=Lib.hid hcells
   clear ho hcells
   obtain⟨ws,hws⟩:∃ws,wordsF s=ws:=⟨_,rfl⟩
   rw [hws]at hwl HC hcap ⊢
   have HWS:=Lib.hid hws
   clear hws
   go_wp2
   go_loopw [5] (fun i wr=>∃(k d:Nat),k≤ws.length∧i=.int .i64 (k:Int)∧wr=w1.drewN d∧∀i,i<k→inW ws (ws.getD i ByteArray.empty) i=false) (fun i _=>ws.length-(intOf i).toNat)
   case atStart=>exact⟨0,0,by omega,by go_num,rfl,fun j h=>by omega⟩
   case round=>
    obtain⟨k,d,hk,rfl,rfl,hall⟩:=hrel
    have HALL:=Lib.hid hall
    clear hall
    by_cases hlt:k<ws.length
    ·obtain⟨b,off,rfl,hc⟩:=HC.out.2 (by omega)
     have ck:=hc k hlt
     obtain⟨wz,hwz⟩:∃wz,w1.drewN d=wz:=⟨_,rfl⟩
     have hcw:StrCells wz (some ⟨b,off,none⟩) ws.length ws:=by rw [←hwz];exact HC.out.drewN d
     have ck':wz.cell? ⟨b,off+k,none⟩=some (.string (ws.getD k ByteArray.empty)):=by rw [←hwz];simpa using ck
     have hcall:∀q,Calls Tryz.prog 53 #[.slice (some ⟨b,off,none⟩) k cap,.string (ws.getD k ByteArray.empty)] (wz.drewN q) (fun e w'=>e=.returned (.bool (inW ws (ws.getD k ByteArray.empty) k))∧w'=wz.drewN q):=fun q=>
      (isWord_any (some ⟨b,off,none⟩) k cap ws (ws.getD k ByteArray.empty) (wz.drewN q) ((hcw.part hk).drewN q)).mono fun e w' ⟨b,hb,he,hw⟩=>⟨by rw [he,hb],hw.symm⟩
     obtain⟨q,hq⟩:∃q,inW ws (ws.getD k ByteArray.empty) k=q:=⟨_,rfl⟩
     rw [hq]at hcall
     obtain⟨y,hy⟩:∃y,ws.getD k ByteArray.empty=y:=⟨_,rfl⟩
     rw [hy]at ck' hcall
     have HQ:=Lib.hid hq
     have HCL:=Lib.hid hcall
     have HW:=Lib.hid hwz
     rw [hwz]
     have hkI:(k:Int)<(ws.length:Int):=by omega
     have hkc:(k:Int)≤(cap:Int):=by omega
     clear hq hy hcall hc hcw hwz ck
     cases q
     ·go_wp2
      go_quiet (exact Calls.quiet_of_same (HCL.out _))
      go_wp2
      go_roundw
      case rel=>exact⟨k+1,d+nq,by omega,by go_num,by rw [←HW.out];first | rfl | simp [World.drewN_add] | (rw [World.drewN_drewN]),fun i hi=>by
       by_cases e:i=k
       ·subst e;exact HQ.out
       ·exact HALL.out i (by omega)⟩
      case measure=>simp [intOf];omega
     ·go_wp2
      go_quiet (exact Calls.quiet_of_same (HCL.out _))
      go_wp2
      go_ret
      exact⟨false,simpleSays_false s,rfl,below_drewN (by rw [←HW.out];exact below_drewN hb.out _) _⟩
    ·obtain rfl:k=ws.length:=by omega
     go_wp2
     go_ret
     exact⟨true,fun _=>⟨HG.out,by rw [HWS.out];exact HALL.out⟩,rfl,below_drewN hb.out _⟩
end Go.Proofs.YtkdomegcacgpnaaGreat
