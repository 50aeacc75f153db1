/- Parts of a proof: Fields, ReplaceOne, ClsSlice, ManyAdd. -/
import Derived.Test.YtkdomegcacgpnaaGreatG30
import Derived.Test.YtkdomegcacgpnaaGreatG29
import Derived.Test.YtkdomegcacgpnaaGreatG04
import Derived.Test.YtkdomegcacgpnaaGreatG31
import Derived.Test.YtkdomegcacgpnaaGreatG06
import Derived.Test.YtkdomegcacgpnaaGreatG08
import Derived.Lib.AppendStr
import Derived.Lib.BufferRead
import Derived.Test.YtkdomegcacgpnaaGreatG32
import Derived.Test.YtkdomegcacgpnaaGreatG01
set_option linter.unusedVariables false
set_option linter.unusedSimpArgs false
namespace Go.Proofs.YtkdomegcacgpnaaGreat
open Go.RowKit
def FieldsPost(s:ByteArray)(w:World)(e:Ending)(w':World):Prop:=∃v ws,e=.returned v∧Hid (OwnStrs w' w.heap.size v ws)∧Hid (ws.map (·.data.toList)=wl s.data.toList)∧Hid (Below w.heap.size w w')
def fromI:Option Nat→Int
 | none=> -1
 | some f=>(f:Int)
structure FldAt (s:ByteArray) (pos:Nat) (o:Option Nat) (ws:List ByteArray):Prop where
 len:ws.length≤pos
 lt:∀f,o=some f→f<pos
 eq:wl s.data.toList=ws.map (·.data.toList)++wgo (match o with | none=>[] | some f=>(s.data.toList.drop f).take (pos-f)) (s.data.toList.drop pos)
theorem FldAt.start(s:ByteArray):FldAt s 0 none []:=⟨by simp,(fun f h=>by cases h),by simp [wl]⟩
theorem drop_step{s:ByteArray}{pos:Nat}(hp:pos<s.size):s.data.toList.drop pos=s[pos]::s.data.toList.drop (pos+1):=by
 have hkl:pos<s.data.toList.length:=by rw [←size_list];exact hp
 rw [List.drop_eq_getElem_cons hkl]
 rfl
theorem FldAt.word{s:ByteArray}{pos:Nat}{ws:List ByteArray}(h:FldAt s pos none ws)(hp:pos<s.size)(hb:spaceB s[pos]=false):FldAt s (pos+1) (some pos) ws:=by
 refine⟨Nat.le_trans h.len (by omega),(fun f hf=>by cases hf;omega),?_⟩
 have :=h.eq
 rw [drop_step hp]at this
 simp only [wgo,hb,Bool.false_eq_true,if_false]at this
 rw [this]
 simp only
 rw [drop_step hp,show pos+1-pos=1 by omega]
 rfl
theorem FldAt.more{s:ByteArray}{pos f:Nat}{ws:List ByteArray}(h:FldAt s pos (some f) ws)(hp:pos<s.size)(hb:spaceB s[pos]=false):FldAt s (pos+1) (some f) ws:=by
 have hlt:=h.lt f rfl
 refine⟨Nat.le_trans h.len (by omega),(fun g hf=>by cases hf;omega),?_⟩
 have :=h.eq
 rw [drop_step hp]at this
 simp only [wgo,hb,Bool.false_eq_true,if_false]at this
 rw [this]
 simp only
 congr 2
 have hkl:pos<s.data.toList.length:=by rw [←size_list];exact hp
 rw [show pos+1-f=(pos-f)+1 by omega,List.take_add_one]
 congr 1
 rw [List.getElem?_drop,show f+(pos-f)=pos by omega,List.getElem?_eq_getElem hkl]
 rfl
theorem FldAt.skip_{s:ByteArray}{pos:Nat}{ws:List ByteArray}(h:FldAt s pos none ws)(hp:pos<s.size)(hb:spaceB s[pos]=true):FldAt s (pos+1) none ws:=by
 refine⟨Nat.le_trans h.len (by omega),(fun f hf=>by cases hf),?_⟩
 have :=h.eq
 rw [drop_step hp]at this
 simp only [wgo,hb,if_true]at this
 exact this
theorem cut_ne{s:ByteArray}{f pos:Nat}(h1:f<pos)(h2:pos≤s.size):(s.data.toList.drop f).take (pos-f)≠[]:=fun e=>by
 have :=congrArg List.length e
 rw [List.length_take,List.length_drop,←size_list]at this
 simp at this
 omega
theorem FldAt.cut{s:ByteArray}{pos f:Nat}{ws:List ByteArray}(h:FldAt s pos (some f) ws)(hp:pos<s.size)(hb:spaceB s[pos]=true):FldAt s (pos+1) none (ws++[s.extract f pos]):=by
 have hlt:=h.lt f rfl
 refine⟨(by have :=h.len;simp;omega),(fun f hf=>by cases hf),?_⟩
 have :=h.eq
 rw [drop_step hp]at this
 simp only [wgo,hb,if_true,if_neg (cut_ne hlt (Nat.le_of_lt hp))]at this
 rw [this,List.map_append,List.map_singleton,extract_list]
 simp
def fldEnd(s:ByteArray)(ws:List ByteArray):Option Nat→List ByteArray
 | Option.none=>ws
 | some f=>ws++[s.extract f s.size]
theorem FldAt.fin{s:ByteArray}{o:Option Nat}{ws:List ByteArray}(h:FldAt s s.size o ws):wl s.data.toList=(fldEnd s ws o).map (·.data.toList):=by
 have hd:s.data.toList.drop s.size=[]:=List.drop_eq_nil_of_le (by rw [←size_list];exact Nat.le_refl _)
 have :=h.eq
 rw [hd]at this
 cases o with
 | none=>simpa [wgo,fldEnd]using this
 | some f=>
  have hlt:=h.lt f rfl
  simp only [wgo,if_neg (cut_ne hlt (Nat.le_refl _))]at this
  rw [this]
  simp only [fldEnd]
  rw [List.map_append,List.map_singleton,extract_list]
set_option maxRecDepth 100000 in
set_option maxHeartbeats 4000000 in
theorem fields_any(s:ByteArray)(w:World)(hs:s.size≤2000000000000)(ha:∀i (h:i<s.size),(s[i]'h).toNat< 128∧(s[i]'h).toNat≠11):
  Calls Tryz.prog 124 #[.string s] w (FieldsPost s w):=by
 obtain⟨i0,hi,hz0,hz1,hz2⟩:=info_parts str_info'
 have hk0:(w.iter s 0).heap[w.heap.size]? =some (.stringIter s 0):=World.iter_heap w s 0
 have hb0:Below w.heap.size w (w.iter s 0):=(Below.refl _ w).alloc (Nat.le_refl _) _
 have HA:=Lib.hid ha
 clear ha
 go_enter Tryz.func124,Tryz.ntmps124
 go_wp2
 go_loopw [3,4] (fun ov fv wr=>∃(pos:Nat) (o:Option Nat) (ws:List ByteArray) (z:Int),pos≤s.size∧fv=.int .i64 z∧Hid (z=fromI o)∧Hid (FldAt s pos o ws)∧Hid (OwnStrs wr (w.heap.size+1) ov ws)∧wr.heap[w.heap.size]? =some (.stringIter s pos)∧Below w.heap.size w wr)
  (fun _ _ wr=>s.size-wr.iterPos w.heap.size)
 case atStart=>exact⟨0,none,[], -1,by omega,rfl,Lib.hid rfl,Lib.hid (FldAt.start s),Lib.hid (World.ownsRow_nil _ _ _ _),hk0,hb0⟩
 case round=>
  obtain⟨pos,o,ws,z,hps,rfl,HZ,HF,HO,hk,hbel⟩:=hrel
  clear hk0 hb0
  have hmu:wr.iterPos w.heap.size=pos:=by simp [World.iterPos,hk]
  have hwl:=HF.out.len
  by_cases hp:pos<s.size
  ·have h128:=(HA.out pos hp).1
   have hnext:∀ty,(Instr.next (.pointer (some ⟨w.heap.size,0,none⟩)) true ty).run Tryz.prog wr=_:=fun ty=>Lib.run_next_ascii_at wr w.heap.size s pos ty hk hp h128
   have hk1:=Lib.iterAt_heap wr w.heap.size s pos (pos+1) hk
   have hb1:Below w.heap.size w (wr.iterAt w.heap.size s (pos+1)):=Lib.below_iterAt hbel (by omega) s (pos+1)
   have hown1:(wr.iterAt w.heap.size s (pos+1)).ownsRow (w.heap.size+1) 9 1 u3 ws.length (ws.map .string):=ownsRow_kept HO.out (fun q hq=>Lib.iterAt_other wr w.heap.size q s (pos+1) (by have :=(World.ownsRow.lt HO.out q hq).1;omega))
   generalize wr.iterAt w.heap.size s (pos+1)=W1 at hnext hk1 hb1 hown1
   have hsp:=isSpace_any (s[pos].toNat:Int) W1 (by omega) (by omega) (by have :=(HA.out pos hp).2;omega)
   rw [show spaceI (s[pos].toNat:Int)=spaceB s[pos] from rfl]at hsp
   have hmu2:W1.iterPos w.heap.size=pos+1:=by simp [World.iterPos,hk1]
   have hW1:w.heap.size+1≤W1.heap.size:=by have :=(Array.getElem?_eq_some_iff.1 hk1).1;omega
   have HSP:=Lib.hid hsp
   have HK:=Lib.hid (And.intro hk1 hb1)
   have HO1:Hid (OwnStrs W1 (w.heap.size+1) u3 ws):=Lib.hid hown1
   have HMU:=Lib.hid (And.intro hmu hmu2)
   cases hb:spaceB s[pos]
   ·rw [hb]at HSP
    cases o with
    | none=>
     have HF2:=Lib.hid (HF.out.word hp hb)
     obtain rfl:z= -1:=HZ.out
     clear hk1 hb1 hsp hmu hmu2 hb hk hbel h128 hown1 HO HF HZ
     go_wp2_with fail
     refine HSP.out.mono ?_
     rintro e w2 ⟨rfl,rfl⟩
     go_wp2
     refine⟨?rel,?measure⟩
     case rel=>exact⟨pos+1,some pos,ws,(pos:Int),by omega,rfl,Lib.hid rfl,HF2,HO1,HK.out.1,HK.out.2⟩
     case measure=>rw [HMU.out.1,HMU.out.2];omega
    | some f=>
     have HF2:=Lib.hid (HF.out.more hp hb)
     obtain rfl:z=(f:Int):=HZ.out
     have g:decide ((f:Int)<0)=false:=by simp
     clear hk1 hb1 hsp hmu hmu2 hb hk hbel h128 hown1 HO HF HZ
     go_wp2_with fail
     refine HSP.out.mono ?_
     rintro e w2 ⟨rfl,rfl⟩
     go_wp2
     refine⟨?rel,?measure⟩
     case rel=>exact⟨pos+1,some f,ws,(f:Int),by omega,rfl,Lib.hid rfl,HF2,HO1,HK.out.1,HK.out.2⟩
     case measure=>rw [HMU.out.1,HMU.out.2];omega
   ·rw [hb]at HSP
    cases o with
    | none=>
     have HF2:=Lib.hid (HF.out.skip_ hp hb)
     obtain rfl:z= -1:=HZ.out
     clear hk1 hb1 hsp hmu hmu2 hb hk hbel h128 hown1 HO HF HZ
     go_wp2_with fail
     refine HSP.out.mono ?_
     rintro e w2 ⟨rfl,rfl⟩
     go_wp2
     refine⟨?rel,?measure⟩
     case rel=>exact⟨pos+1,none,ws, -1,by omega,rfl,Lib.hid rfl,HF2,HO1,HK.out.1,HK.out.2⟩
     case measure=>rw [HMU.out.1,HMU.out.2];omega
    | some f=>
     have HF2:=Lib.hid (HF.out.cut hp hb)
     have hfp:=HF.out.lt f rfl
     obtain rfl:z=(f:Int):=HZ.out
     have g:decide ((0:Int)≤(f:Int))=true:=by simp
     have hfI:(f:Int)≤(pos:Int):=by omega
     have hpI:(pos:Int)≤(s.size:Int):=by omega
     clear hk1 hb1 hsp hmu hmu2 hb hk hbel h128 HO HF HZ
     go_wp2_with fail
     refine HSP.out.mono ?_
     rintro e w2 ⟨rfl,rfl⟩
     go_wp2_with (at_builtin;refine wpList_append_own _ rfl _ _ 24 rfl (w.heap.size+1) 9 i0 (.string ByteArray.empty) 1 16 Tryz.underlying24 hi hz0 hz1 hz2 rfl (by decide) _ _ _ rfl (hown1.alloc _) ⟨W1.heap.size,0,none⟩ 1 1 [.string (s.extract f pos)] rfl rfl ?c1A ?c2A ?c3A ?c4A ?c5A ?_)
     case c1A=>
      intro j u hj
      match j,hj with
      | 0,hj=>simp at hj;subst hj;simp [Addr.add]
     case c2A=>first | rfl | (intro u hu;simp at hu;subst hu;rfl)
     case c3A=>unfold maxLen;omega
     case c4A=>omega
     case c5A=>simp;omega
     intro v2 w3 hown3 hgrow _
     have hbl:Below (w.heap.size+1) W1 w3:=((Below.refl _ _).alloc hW1 _).grown hgrow (by simp;omega) (fun q hq=>(World.ownsRow.lt hown1 q hq).1)
     have hit:=(hbl.block w.heap.size (by omega)).trans HK.out.1
     have hsn:OwnStrs w3 (w.heap.size+1) v2 (ws++[s.extract f pos]):=by unfold OwnStrs;simpa using hown3
     have hit2:w3.iterPos w.heap.size=pos+1:=by simp [World.iterPos,hit]
     have H3:=Lib.hid (And.intro hit (And.intro (HK.out.2.trans (hbl.mono (by omega))) hit2))
     have HS3:=Lib.hid hsn
     clear hown3 hgrow hbl hit hsn hown1 hit2
     go_wp2
     refine⟨?rel,?measure⟩
     case rel=>exact⟨pos+1,none,_, -1,by omega,rfl,Lib.hid rfl,HF2,HS3,H3.out.1,H3.out.2.1⟩
     case measure=>rw [HMU.out.1,H3.out.2.2];omega
  ·have hnext:∀ty,(Instr.next (.pointer (some ⟨w.heap.size,0,none⟩)) true ty).run Tryz.prog wr=_:=fun ty=>Lib.run_next_end_at wr w.heap.size s pos ty hk hp
   obtain rfl:pos=s.size:=by omega
   have HB:=Lib.hid hbel
   have hwr:w.heap.size+1≤wr.heap.size:=by have :=(Array.getElem?_eq_some_iff.1 hk).1;omega
   clear hbel hmu hk hp
   cases o with
   | none=>
    have HE:=Lib.hid HF.out.fin
    obtain rfl:z= -1:=HZ.out
    clear HF HZ
    go_wp2
    go_ret
    exact⟨_,ws,rfl,Lib.hid (ownsRow_base HO.out (by omega)),Lib.hid HE.out.symm,HB⟩
   | some f=>
    have HE:=Lib.hid HF.out.fin
    have hfp:=HF.out.lt f rfl
    obtain rfl:z=(f:Int):=HZ.out
    have g:decide ((0:Int)≤(f:Int))=true:=by simp
    have hfI:(f:Int)≤(s.size:Int):=by omega
    have hown:wr.ownsRow (w.heap.size+1) 9 1 u3 ws.length (ws.map .string):=HO.out
    clear HF HZ HO
    go_wp2_with (at_builtin;refine wpList_append_own _ rfl _ _ 24 rfl (w.heap.size+1) 9 i0 (.string ByteArray.empty) 1 16 Tryz.underlying24 hi hz0 hz1 hz2 rfl (by decide) _ _ _ rfl (hown.alloc _) ⟨wr.heap.size,0,none⟩ 1 1 [.string (s.extract f s.size)] rfl rfl ?c1B ?c2B ?c3B ?c4B ?c5B ?_)
    case c1B=>
     intro j u hj
     match j,hj with
     | 0,hj=>simp at hj;subst hj;simp [Addr.add]
    case c2B=>first | rfl | (intro u hu;simp at hu;subst hu;rfl)
    case c3B=>unfold maxLen;omega
    case c4B=>omega
    case c5B=>simp;omega
    intro v2 w3 hown3 hgrow _
    have hbl:Below w.heap.size w w3:=(HB.out.alloc (by omega) _).grown hgrow (by simp;omega) (fun q hq=>by have :=(World.ownsRow.lt hown q hq).1;omega)
    have hsn:OwnStrs w3 (w.heap.size+1) v2 (ws++[s.extract f s.size]):=by unfold OwnStrs;simpa using hown3
    have HS3:Hid (OwnStrs w3 w.heap.size v2 (ws++[s.extract f s.size])):=Lib.hid (ownsRow_base hsn (by omega))
    have HB3:=Lib.hid hbl
    clear hown3 hgrow hbl hsn hown
    go_wp2
    go_ret
    exact⟨_,_,rfl,HS3,Lib.hid HE.out.symm,HB3⟩
theorem byte_info:(Tryz.prog.info? 5).map (fun i=>(i.zero,i.size,i.bytes))=some (some (.int .u8 0),1,1):=by kernel_rfl
def byteCells(l:List UInt8):List Value:=l.map fun b=>Value.int .u8 b.toNat
def OwnBytes(w:World)(B:Nat)(v:Value)(l:List UInt8):Prop:=w.ownsRow B 5 1 v l.length (byteCells l)
theorem OwnBytes.str{w:World}{B:Nat}{v:Value}{l:List UInt8}(h:OwnBytes w B v l):(Go.convert 154 9 v).run Tryz.prog w=.ok (.string (ofL l)) w:=by
 rcases h.2 with ⟨rfl,h0⟩ | ⟨g,cap,cur,rfl,hb,hg,hn,hm,hcs,ht⟩
 ·have hl:l=[]:=List.eq_nil_of_length_eq_zero h0
  subst hl
  have :=Lib.run_convert_nil_bytes (P:=Tryz.prog) w 154 9 5 0 Tryz.underlying154 Tryz.underlying5 Tryz.underlying9
  exact this
 ·exact run_convert_bytes_back (P:=Tryz.prog) w 154 9 5 ⟨g,0,none⟩ cap l Tryz.underlying154 Tryz.underlying5 Tryz.underlying9 (fun j hj=>by
   have :=World.ownsRow.cells (h:=h) (g:=g) rfl j (.int .u8 (l[j].toNat:Int)) (by simp [byteCells,hj])
   exact this)
def ReplPost(s p n:ByteArray)(w:World)(e:Ending)(w':World):Prop:=∃r:ByteArray,e=.returned (.string r)∧((¬InL p.data.toList s.data.toList∧r.data.toList=s.data.toList)∨∃A B,s.data.toList=A++p.data.toList++B∧r.data.toList=A++n.data.toList++B)∧Hid (Below w.heap.size w w')
structure ReplAt (s p n t:ByteArray) (D:List UInt8):Prop where
 ph:(t=s∧D=[])∨∃A,s.data.toList=A++p.data.toList++t.data.toList∧D=A++n.data.toList∧¬InL p.data.toList t.data.toList
 le:D.length+t.size≤s.size+n.size
set_option maxRecDepth 100000 in
set_option maxHeartbeats 4000000 in
theorem replace_once(s p n:ByteArray)(w:World)(hs:s.size≤17000000000000)(hp:p.size≤3000000)(hp0:0<p.size)(hn:n.size≤1000)(hone:∀A B,s.data.toList=A++p.data.toList++B→¬InL p.data.toList B):
  Calls Tryz.prog 79 #[.string s,.string p,.string n] w (ReplPost s p n w):=by
 obtain⟨i0,hi,hz0,hz1,hz2⟩:=info_parts byte_info
 have HONE:=Lib.hid hone
 clear hone
 go_enter Tryz.func79,Tryz.ntmps79
 go_wp2
 go_loopw [0,7] (fun sv ov wr=>∃(t:ByteArray) (D:List UInt8),sv=.string t∧Hid (ReplAt s p n t D)∧Hid (OwnBytes wr w.heap.size ov D)∧Hid (Below w.heap.size w wr)) (fun sv _ _=>match sv with | .string t=>t.size | _=>0)
 case atStart=>exact⟨s,[],rfl,Lib.hid ⟨.inl ⟨rfl,rfl⟩,by simp⟩,Lib.hid (World.ownsRow_nil _ _ _ _),Lib.hid (Below.refl _ _)⟩
 case round=>
  obtain⟨t,D,rfl,HR,HO,HB⟩:=hrel
  have hle:=HR.out.le
  have HF:=Lib.hid (goIndex_any t p wr (by omega) hp)
  go_wp2_with fail
  refine HF.out.mono ?_
  rintro e w1 ⟨z,rfl,hz,rfl⟩
  have hown:wr.ownsRow w.heap.size 5 1 u7 D.length (byteCells D):=HO.out
  have hbs:=HB.out.size
  rcases hz with ⟨rfl,hno⟩ | ⟨A,B,rfl,hAB⟩
  ·have HNO:=Lib.hid hno
   clear hno HF
   go_wp2_with (at_builtin;refine Lib.wpList_append_own_string _ rfl _ _ 154 9 rfl w.heap.size 5 i0 Tryz.underlying154 Tryz.underlying9 hi hz0 hz1 hz2 _ _ _ rfl hown t rfl ?c3 ?c4 ?c5 ?_)
   case c3=>unfold maxLen;omega
   case c4=>omega
   case c5=>omega
   intro v2 w2 hown2 hgrow _
   have ho2:OwnBytes w2 w.heap.size v2 (D++t.data.toList):=by
    unfold OwnBytes byteCells
    rw [List.length_append,←size_list,List.map_append]
    exact hown2
   have hstr:=ho2.str
   have HB2:=Lib.hid (HB.out.grown hgrow hbs (fun q hq=>(World.ownsRow.lt hown q hq).1))
   clear hown2 hgrow hown ho2
   go_wp2
   go_ret
   refine⟨_,rfl,?_,HB2⟩
   rw [ofL_list]
   rcases HR.out.ph with ⟨rfl,rfl⟩ | ⟨A,h1,h2,h3⟩
   ·exact .inl ⟨HNO.out,by simp⟩
   ·exact .inr ⟨A,_,h1,by rw [h2]⟩
  ·have hph:t=s∧D=[]:=by
    rcases HR.out.ph with h | ⟨A',h1,h2,h3⟩
    ·exact h
    ·exact absurd ⟨A,B,hAB⟩ h3
   obtain⟨rfl,rfl⟩:=hph
   have hl:=congrArg List.length hAB
   simp only [List.length_append,←size_list]at hl
   obtain⟨k,hk⟩:∃k,A.length=k:=⟨_,rfl⟩
   obtain⟨s1,hs1⟩:∃s1,t.extract 0 k=s1:=⟨_,rfl⟩
   obtain⟨s2,hs2⟩:∃s2,t.extract (k+p.size) t.size=s2:=⟨_,rfl⟩
   have e1:s1.data.toList=A:=by
    rw [←hs1,extract_list,Nat.sub_zero,List.drop_zero,hAB,List.append_assoc,List.take_left' hk]
   have e2:s2.data.toList=B:=by
    rw [←hs2,extract_list,hAB,List.drop_left' (by rw [List.length_append,hk,←size_list])]
    exact List.take_of_length_le (by omega)
   have n1:s1.size=k:=by rw [size_list,e1,hk]
   have n2:s2.size=B.length:=by rw [size_list,e2]
   rw [hk]at hl ⊢
   have HAB:=Lib.hid (And.intro hAB (And.intro e1 e2))
   have hkI:decide ((k:Int)<0)=false:=by simp
   have hk1:k≤t.size:=by omega
   have hk2:k+p.size≤t.size:=by omega
   have hs2s:s2.size<t.size:=by omega
   have HL9:=Lib.hid hl
   clear HF hAB e1 e2 hk hl
   go_wp2_with (at_builtin;refine Lib.wpList_append_own_string _ rfl _ _ 154 9 rfl w.heap.size 5 i0 Tryz.underlying154 Tryz.underlying9 hi hz0 hz1 hz2 _ _ _ rfl hown s1 rfl ?c3 ?c4 ?c5 ?_)
   case c3=>have :=HL9.out;unfold maxLen;simp;omega
   case c4=>have :=HL9.out;simp;omega
   case c5=>omega
   intro v2 w2 hown2 hgrow2 _
   have ho2:w2.ownsRow w.heap.size 5 1 v2 s1.size (Lib.strCells s1):=by rw [n1];simpa [byteCells]using hown2
   have hb2:=HB.out.grown hgrow2 hbs (fun q hq=>(World.ownsRow.lt hown q hq).1)
   have hbs2:=hb2.size
   clear hown2 hgrow2 hown
   go_wp2_with (at_builtin;refine Lib.wpList_append_own_string _ rfl _ _ 154 9 rfl w.heap.size 5 i0 Tryz.underlying154 Tryz.underlying9 hi hz0 hz1 hz2 _ _ _ rfl ho2 n rfl ?c3 ?c4 ?c5 ?_)
   case c3=>unfold maxLen;omega
   case c4=>omega
   case c5=>omega
   intro v3 w3 hown3 hgrow3 _
   have ho3:OwnBytes w3 w.heap.size v3 (A++n.data.toList):=by
    unfold OwnBytes byteCells
    rw [List.length_append,←size_list,List.map_append]
    have :A.length=s1.size:=by rw [size_list,HAB.out.2.1]
    rw [this]
    have e:Lib.strCells s1=A.map fun b=>Value.int .u8 b.toNat:=by unfold Lib.strCells;rw [HAB.out.2.1]
    rw [←e]
    show w3.ownsRow _ _ _ _ (s1.size+n.size) (Lib.strCells s1++Lib.strCells n)
    rw [n1]
    exact hown3
   have hb3:=hb2.grown hgrow3 hbs2 (fun q hq=>(World.ownsRow.lt ho2 q hq).1)
   have H3:=Lib.hid ho3
   have HB3:=Lib.hid hb3
   have hnew:ReplAt t p n s2 (A++n.data.toList):=⟨.inr ⟨A,by rw [HAB.out.2.2];exact HAB.out.1,rfl,by rw [HAB.out.2.2];exact HONE.out A B HAB.out.1⟩,by
    have :A.length=s1.size:=by rw [size_list,HAB.out.2.1]
    have h9:=size_list n
    rw [List.length_append,this,←h9]
    have :=HL9.out
    omega⟩
   have HNEW:=Lib.hid hnew
   have gk:(k:Int)+(p.size:Int)≤(t.size:Int):=by omega
   clear hown3 hgrow3 ho3 hb3 hb2 ho2 hbs2 hnew HR HO HB hbs
   go_wp2
   go_roundw
   case rel=>exact⟨s2,_,by first | rfl | rw [←hs2],HNEW,H3,HB3⟩
   case measure=>first | exact hs2s | (rw [hs2];exact hs2s)
set_option maxRecDepth 100000 in
set_option maxHeartbeats 1000000 in
theorem slice_any(s:ByteArray)(w:World)(hs:s.size≤2000000000000)(ha:∀i (h:i<s.size),(s[i]'h).toNat< 128∧(s[i]'h).toNat≠11):
  Calls Tryz.prog 75 #[.string s] w (FieldsPost s w):=by
 have HF:=Lib.hid (fields_any s w hs ha)
 clear ha
 go_enter Tryz.func75,Tryz.ntmps75
 go_wp2_with fail
 refine HF.out.mono ?_
 rintro e w1 ⟨v,ws,rfl,h1,h2,h3⟩
 go_wp2
 go_ret
 exact⟨v,ws,rfl,h1,h2,h3⟩
set_option maxRecDepth 100000 in
set_option maxHeartbeats 8000000 in
theorem addMany_any{B n:Nat}(h0:0<n){w:World}{nb:Nat→Nat}{v:Nat→Value}{lab:Nat→NodeD}{F:Wd}(h:DomAt B w n nb v lab F)(l:List Nat)(hin:∀x∈l,x<n)(hnd:Once l)(hln:l.length≤200)(m s:Nat)(hm:m≤60)(hs:s≤15000000000000)(hgood:∀x∈l,(lab x).kind=3∧GoodC (lab x).attrs (Wc (lab x).attrs) m s)
  {sp sg scap:Nat} {sa:Option Addr} (hsa:0<l.length→sa=some ⟨sg,0,none⟩) (c0:w.cell? ⟨sp,0,none⟩=some (.slice sa l.length scap)) (crow:∀i,i<l.length→w.cell? ⟨sg,i,none⟩=some (.pointer (some ⟨nb (l.getD i 0),0,none⟩))) (hne:0<l.length→∀i,i<n→sg≠nb i∧(v i).ownBlock≠some sg)
  (a:Option Addr) (xs:List ByteArray) (c:Nat) (hx:NamesAt w a xs c):
  Calls Tryz.prog 38 #[.pointer (some ⟨sp,0,none⟩),.slice a xs.length c] w (ManyPost moreW (xs.map (·.data.toList)) (m+1) (s+1100000000000) sp B n nb v lab F l w):=by
 have hJ:=join_any a xs c w hx
 have HJ:=Lib.hid hJ
 have HX:=Lib.hid hx
 have hnE:xs.map (·.data.toList)≠[]:=fun e=>by
  have h1:=hx.pos
  have h2:=congrArg List.length e
  simp at h2
  rw [h2]at h1
  simp at h1
 have HNE:=Lib.hid hnE
 have HD:=Lib.hid h
 have HIN:=Lib.hid (And.intro hin (And.intro hnd hgood))
 have HSA:=Lib.hid (And.intro hsa (And.intro crow hne))
 clear hJ hx h hin hnd hgood hsa crow hne hnE
 go_enter Tryz.func38,Tryz.ntmps38
 go_wp2_with fail
 refine HJ.out.mono ?_
 rintro e w1 ⟨r1,rfl,hr1,hb1,hz1,hbel1⟩
 have HT:=Lib.hid (trim_any r1 w1 (by omega) (cls_at hb1.out))
 go_wp2_with fail
 refine HT.out.mono ?_
 rintro e w2 ⟨r2,rfl,hr2,hz2,hbel2⟩
 have hw2:wl r2.data.toList=xs.map (·.data.toList):=by rw [hr2,wl_bare];exact hr1.out
 have hc2:∀b∈r2.data.toList,clsB b:=fun b hb=>by rw [hr2]at hb;exact hb1.out b (bare_sub hb)
 have gE:r2.toList.isEmpty=false:=ne_of_words hw2 HNE.out
 have hF:=slice_any r2 w2 (by omega) (cls_at hc2)
 have HF:=Lib.hid hF
 have HB2:=Lib.hid (hbel1.out.trans (hbel2.mono hbel1.out.size))
 have HW2:=Lib.hid hw2
 clear hw2 hc2 hF HT hr2 hbel2 hbel1 hr1 hb1 HJ
 go_wp2_with fail
 refine HF.out.mono ?_
 rintro e w3 ⟨tv,ws,rfl,how,hws,hbel3⟩
 have hwsx:ws.map (·.data.toList)=xs.map (·.data.toList):=by rw [hws.out,HW2.out]
 have hb23:Below w.heap.size w w3:=HB2.out.trans (hbel3.out.mono HB2.out.size)
 have c03:=cell_below hb23 c0
 have hown3:=how.out
 obtain⟨ta,tc,rfl,htc,htcells⟩:=how.out.open
 have htb:∀b off,ta=some ⟨b,off,none⟩→w2.heap.size≤b∧b<w3.heap.size:=fun b off e=>by
  subst e
  exact World.ownsRow.lt hown3 b rfl
 have hlx:ws.length=xs.length:=by have :=congrArg List.length hwsx;simpa using this
 have hD3:=HD.out.below hb23
 have hlt2:∀i,i<n→nb i<w2.heap.size∧∀b,(v i).ownBlock=some b→b<w2.heap.size:=fun i hi=>⟨by have :=(HD.out.node i hi).lt;have :=HB2.out.size;omega,fun b hb=>by have :=(World.ownsRow.lt (HD.out.own i hi) b hb).2;have :=HB2.out.size;omega⟩
 have hB3:B≤w3.heap.size:=by have h1:=HD.out.base 0 h0;have h2:=(HD.out.node 0 h0).lt;have h3:=hb23.size;omega
 have hrow:0<l.length→∀(w9:World),OnlyC B n nb v w3 w9→∀i,i<l.length→w9.cell? ⟨sg,i,none⟩=some (.pointer (some ⟨nb (l.getD i 0),0,none⟩)):=fun hl0 w9 ho i hi=>by
  have hc:=cell_below hb23 (HSA.out.2.1 i hi)
  exact(World.cell?_of_block (ho.block sg (World.block_lt_of_cell? w3 _ hc) (fun i hi=>(HSA.out.2.2 hl0 i hi).1) (fun i hi=>(HSA.out.2.2 hl0 i hi).2))).trans hc
 have htc9:∀(w9:World),OnlyC B n nb v w3 w9→∀j,j<ws.length→∃b off,ta=some ⟨b,off,none⟩∧w9.cell? ⟨b,off+j,none⟩=some (.string (ws.getD j ByteArray.empty)):=fun w9 ho j hj=>by
  obtain⟨b,off,rfl,hc⟩:=htcells.2 (by omega)
  obtain⟨h1,h2⟩:=htb b off rfl
  exact⟨b,off,rfl,(World.cell?_of_block (ho.block b h2 (fun i hi e=>by have :=(hlt2 i hi).1;omega) (fun i hi e=>by have :=(hlt2 i hi).2 b e;omega))).trans (hc j hj)⟩
 have HROW:=Lib.hid hrow
 have HTC:=Lib.hid htc9
 have HWX:=Lib.hid (And.intro hwsx hlx)
 have HB23:=Lib.hid hb23
 have HMID:=Lib.hid (ClsMid.start (op:=moreW) (N:=xs.map (·.data.toList)) (m:=m+1) (s:=s+1100000000000) hD3)
 have hf8:=HX.out.few
 have hle8:ws.length≤1048576:=by omega
 clear how hws hbel3 hown3 htcells htb hwsx hlx hb23 hD3 hlt2 hrow htc9 HB2 HW2 HF c0 htc hf8
 go_wp2
 go_loopw [26] (fun iv wr=>∃(i:Nat) (v':Nat→Value) (lab':Nat→NodeD),iv=.int .i64 (i:Int)∧i≤l.length∧Hid (ClsMid moreW (xs.map (·.data.toList)) (m+1) (s+1100000000000) B n nb v lab F w3 wr (l.take i) v' lab')) (fun iv _=>l.length-(intOf iv).toNat)
 case atStart=>exact⟨0,v,lab,by go_num,by omega,HMID⟩
 case round=>
  obtain⟨i,v',lab',rfl,hi,HU⟩:=hrel
  clear HMID c03
  by_cases hlt:i<l.length
  ·have hym:=getD_mem' (d:=0) hlt
   have hyn:=HIN.out.1 _ hym
   have hyg:=HIN.out.2.2 _ hym
   obtain rfl:=HSA.out.1 (by omega)
   have ck:=HROW.out (by omega) wr HU.out.only i hlt
   have hnot':l.getD i 0∉l.take i:=HIN.out.2.1.notin hlt
   have hsn:l.take (i+1)=l.take i++[l.getD i 0]:=take_snoc hlt
   obtain⟨y,hy⟩:∃y,l.getD i 0=y:=⟨_,rfl⟩
   rw [hy]at ck hyn hyg hnot' hsn
   have hlab:=(HU.out.labs y).1 hnot'
   have hBr:B≤wr.heap.size:=Nat.le_trans hB3 HU.out.only.size
   have hgc:=getClasses_any B (nb y) (linkR F nb (lab' y) (v' y) y) (lab' y).attrs wr (HU.out.dom.node y hyn) (by show tyOf (lab' y).kind=3;rw [hlab,hyg.1];rfl) (HU.out.dom.own y hyn) hBr (by rw [hlab];have :=hyg.2.len;omega) (fun z hz=>by rw [hlab]at hz;have :=(hyg.2.size z hz).2;omega)
   have HGC:=Lib.hid hgc
   have HGD:=Lib.hid hyg.2
   have HN:=Lib.hid (And.intro hyn (And.intro hnot' (And.intro hsn hlab)))
   have HBr:=Lib.hid hBr
   obtain⟨X,hX⟩:∃X,nb y=X:=⟨_,rfl⟩
   rw [hX]at ck HGC
   have HXX:=Lib.hid hX
   have hiI:(i:Int)<(l.length:Int):=by omega
   clear hgc hym hyn hyg hnot' hsn hy hX hlab hBr
   go_wp2_with fail
   refine HGC.out.mono ?_
   rintro e w4 ⟨cc,val,gr,k,cap,l1,rfl,hcc,hat,hkl,hre⟩
   rw [HN.out.2.2.2]at hat
   have hcl0:Cls cc.data.toList (Wc (lab y).attrs) (s+2):=by
    rw [hcc.out]
    have hv:=at_val hat.out
    have h1:=HGD.out.asc
    have h2:=HGD.out.words
    rw [hv]at h1 h2
    rw [←h2]
    refine cls_start h1 ?_
    rcases hat.out with ⟨rfl,hk,_,_,hvv⟩ | ⟨_,_,_,hvv⟩
    ·have :=(HGD.out.size _ (getD_mem_kv hk)).2
     rw [hvv,size_list]at this
     omega
    ·rw [hvv];show 0+2≤_;omega
   rw [←HXX.out]at hre
   have ho4:OnlyC B n nb v w3 w4:=⟨Nat.le_trans HU.out.only.size hre.out.size,fun q hq h1 h2=>by
    rw [hre.out.keep q (Nat.lt_of_lt_of_le hq HU.out.only.size) (h1 y HN.out.1) (fun e=>?_)]
    ·exact HU.out.only.block q hq h1 h2
    ·rcases HU.out.own y HN.out.1 q e with h3 | h3
     ·exact h2 y HN.out.1 h3
     ·omega,fun B' h1 h2=>(HU.out.only.below B' h1 h2).trans (hre.out.bel B' h1 (h2 y HN.out.1))⟩
   have HT4:=Lib.hid (HTC.out w4 ho4)
   have HCL:=Lib.hid hcl0
   have HAT:=Lib.hid (And.intro hat.out hkl)
   have HRE:=Lib.hid hre.out
   have HB4:=Lib.hid (Nat.le_trans HBr.out hre.out.size)
   clear hcl0 hcc hat hkl hre ho4 HGC ck
   go_wp2
   go_loopw [9,37] (fun cv iv wr=>∃(cur:ByteArray) (j:Nat),cv=.string cur∧iv=.int .i64 (j:Int)∧j≤ws.length∧Hid (Below w4.heap.size w4 wr)∧Hid (Cls cur.data.toList (moreW (Wc (lab y).attrs) ((xs.map (·.data.toList)).take j)) (s+2+1048577*j))) (fun _ iv _=>ws.length-(intOf iv).toNat)
   case atStart=>exact⟨cc,0,rfl,by go_num,by omega,Lib.hid (Below.refl _ _),Lib.hid (by rw [List.take_zero,moreW_nil];exact HCL.out)⟩
   case round=>
    obtain⟨cur,j,rfl,rfl,hj,hbr,hcur⟩:=hrel
    by_cases hlt:j<ws.length
    ·obtain⟨b,off,hab,hcell⟩:=HT4.out j hlt
     have hcell:=cell_below hbr.out hcell
     have hname:(xs.map (·.data.toList)).take (j+1)=(xs.map (·.data.toList)).take j++[(ws.getD j ByteArray.empty).data.toList]:=by
      rw [←HWX.out.1]
      exact take_name hlt
     have hok:NameOk (ws.getD j ByteArray.empty).data.toList:=by
      have hm:(ws.getD j ByteArray.empty).data.toList∈xs.map (·.data.toList):=by
       rw [←HWX.out.1]
       refine List.mem_map.2 ⟨ws.getD j ByteArray.empty,?_,rfl⟩
       rw [List.getD_eq_getElem?_getD,List.getElem?_eq_getElem hlt]
       exact List.getElem_mem hlt
      obtain⟨q,hq,he⟩:=List.mem_map.1 hm
      rw [←he]
      exact HX.out.ok q hq
     have hnot:(ws.getD j ByteArray.empty).data.toList∉(xs.map (·.data.toList)).take j:=by
      have h1:=HX.out.nodup
      have h2:((xs.map (·.data.toList)).take (j+1)).Nodup:=h1.sublist (List.take_sublist _ _)
      rw [hname,List.nodup_append]at h2
      exact fun hm=>h2.2.2 _ hm _ (by simp) rfl
     obtain⟨x,hx⟩:∃x,ws.getD j ByteArray.empty=x:=⟨_,rfl⟩
     rw [hx]at hcell hname hok hnot
     have hxs:x.size≤1048576:=by rw [size_list];exact hok.len
     have hcs:cur.size≤s+2+1048577*j:=by rw [size_list];exact hcur.out.len
     have hpl:((ByteArray.mk #[32])++x++(ByteArray.mk #[32])).data.toList=32::(x.data.toList++[32]):=by rw [cat_list,cat_list];rfl
     have hcon:=goContains_any cur ((ByteArray.mk #[32])++x++(ByteArray.mk #[32])) wr (by omega) (by rw [ByteArray.size_append,ByteArray.size_append];have :(ByteArray.mk #[32]).size=1:=rfl;omega)
     have hin:=hcur.out.in_ hok
     have hmm:=hcur.out.more hok
     have hst:=more_snoc (Wc (lab y).attrs) _ _ hnot
     rw [←hname]at hst
     have z1:¬9223372036854775807<(ByteArray.mk #[32]).size+x.size:=by have :(ByteArray.mk #[32]).size=1:=rfl;omega
     have z2:¬9223372036854775807<((ByteArray.mk #[32])++x).size+(ByteArray.mk #[32]).size:=by
      have :(ByteArray.mk #[32]).size=1:=rfl
      rw [ByteArray.size_append];omega
     have z3:¬9223372036854775807<x.size+(ByteArray.mk #[32]).size:=by have :(ByteArray.mk #[32]).size=1:=rfl;omega
     have z4:¬9223372036854775807<cur.size+(x++(ByteArray.mk #[32])).size:=by
      have :(ByteArray.mk #[32]).size=1:=rfl
      rw [ByteArray.size_append];omega
     have hjI:(j:Int)<(ws.length:Int):=by omega
     have HPL:=Lib.hid hpl
     have HBR:=Lib.hid hbr.out
     have HCON:=Lib.hid hcon
     have HMM:=Lib.hid (And.intro hin (And.intro hst hmm))
     subst hab
     clear hx hname hok hnot hxs hcs hcon hpl hin hst hmm hbr
     go_wp2_with fail
     refine HCON.out.mono ?_
     rintro e w5 ⟨bb,rfl,hbb,rfl⟩
     rw [HPL.out]at hbb
     have HBB:=Lib.hid hbb
     clear hbb
     cases bb
     ·have hno:x.data.toList∉moreW (Wc (lab y).attrs) ((xs.map (·.data.toList)).take j):=fun hm=>by
       have :=HBB.out.2 (HMM.out.1.2 hm)
       cases this
      have hnx:=HMM.out.2.1.2 hno
      have HNX:=Lib.hid (show Cls (cur++(x++(ByteArray.mk #[32]))).data.toList (moreW (Wc (lab y).attrs) ((xs.map (·.data.toList)).take (j+1))) (s+2+1048577*(j+1)) by
       have h1:=HMM.out.2.2
       rw [cat_list,cat_list,hnx]
       have e1:s+2+1048577*(j+1)=s+2+1048577*j+1048577:=by omega
       rw [e1]
       exact h1)
      clear hno hnx hcell
      go_wp2
      go_roundw
      case rel=>exact⟨_,j+1,rfl,by go_num,by omega,HBR,HNX⟩
      case measure=>simp [intOf];omega
     ·have hyes:x.data.toList∈moreW (Wc (lab y).attrs) ((xs.map (·.data.toList)).take j):=HMM.out.1.1 (HBB.out.1 rfl)
      have hnx:=HMM.out.2.1.1 hyes
      have HNX:=Lib.hid (show Cls cur.data.toList (moreW (Wc (lab y).attrs) ((xs.map (·.data.toList)).take (j+1))) (s+2+1048577*(j+1)) by
       rw [hnx]
       exact⟨hcur.out.pad,hcur.out.words,hcur.out.asc,by have :=hcur.out.len;omega⟩)
      clear hyes hnx hcell
      go_wp2
      go_roundw
      case rel=>exact⟨cur,j+1,rfl,by go_num,by omega,HBR,HNX⟩
      case measure=>simp [intOf];omega
    ·obtain rfl:j=ws.length:=by omega
     have hfull:(xs.map (·.data.toList)).take ws.length=xs.map (·.data.toList):=List.take_of_length_le (by simp;have :=HWX.out.2;omega)
     have hc9:=hcur.out
     rw [hfull]at hc9
     have hl1:l1.length≤100:=by
      have :=HGD.out.len
      rcases HAT.out.1 with ⟨rfl,_⟩ | ⟨rfl,_⟩
      ·omega
      ·simp;omega
     have hre9:=HRE.out.below hbr.out
     have hsc:=setClasses_any B (nb y) gr k cap _ l1 cur wr hre9.node rfl hre9.own (Nat.le_trans HB4.out hbr.out.size) HAT.out.2 hl1 (by rw [size_list];have :=hc9.len;omega) (cls_at hc9.asc)
     rw [HXX.out]at hsc
     have HSC:=Lib.hid hsc
     have HC9:=Lib.hid hc9
     have HRE9:=Lib.hid hre9
     clear hfull hc9 hl1 hsc hcur hlt HT4 hre9
     go_wp2_with fail
     refine HSC.out.mono ?_
     rintro e w6 ⟨v1,l2,rfl,hst,hre6⟩
     rw [←HXX.out]at hre6
     have hgood:=sets_good (⟨HGD.out.dist,HGD.out.words,HGD.out.nodup,HGD.out.asc,HGD.out.len,fun x hx=>⟨(HGD.out.size x hx).1,by have :=(HGD.out.size x hx).2;omega⟩⟩:GoodC (lab y).attrs (Wc (lab y).attrs) m (s+1100000000000)) HAT.out.1 HC9.out (more_nodup HGD.out.nodup HX.out.nodup) hst.out (by omega)
     have hstep:=HU.out.step HN.out.1 HN.out.2.1 (HRE9.out.trans hre6.out) hgood.1 hgood.2
     rw [←HN.out.2.2.1]at hstep
     have HSTEP:=Lib.hid hstep
     clear hgood hst hre6 HSC hstep hbr
     go_wp2
     go_roundw
     case rel=>exact⟨i+1,_,_,by go_num,by omega,HSTEP⟩
     case measure=>simp [intOf];omega
  ·obtain rfl:i=l.length:=by omega
   have hm:=HU.out
   rw [List.take_length]at hm
   have H1:=Lib.hid hm.dom
   have H2:=Lib.hid hm.labs
   have H3:=Lib.hid (OnlyC.ahead HB23.out (fun B' h1 h2=>by have :=h2 0 h0;have :=(HD.out.node 0 h0).lt;omega) hm.only)
   have H4:=Lib.hid (show ∀i,i<n→∀b,(v' i).ownBlock=some b→(v i).ownBlock=some b∨w.heap.size≤b from fun i hi b hb=>(hm.own i hi b hb).imp id (fun h=>Nat.le_trans HB23.out.size h))
   clear hm HU hlt
   go_wp2
   go_ret
   exact⟨rfl,v',lab',H1,H2,H3,H4⟩
end Go.Proofs.YtkdomegcacgpnaaGreat
