/- Parts of a proof: StepG. -/
import Derived.Test.YtkdomegcacgpnaaGreatG35
import Derived.Test.YtkdomegcacgpnaaGreatG45
import Derived.Test.YtkdomegcacgpnaaGreatG46
set_option linter.unusedVariables false
set_option linter.unusedSimpArgs false
namespace Go.Proofs.YtkdomegcacgpnaaGreat
open Go.RowKit
def StepGPost(B f len:Nat)(vf:Value)(kn:Nat→Nat)(x:StepD)(m:Nat)(lab:Nat→NodeD)(F:Wd)(w:World)(e:Ending)(w':World):Prop:=
 (e=.returned (.bool false)∧Hid (Below B w w'))∨
 (∃m' kn' kv' av' lab' F' l ws,e=.returned (.bool true)∧m'≤600∧(∀i,i<len→kn' i=kn i)∧Picks len x.on l∧0<l.length∧Picks len x.wi ws∧StepR len x l ws m lab F m' lab' F'∧Hid (Knots B w' m' kn' kv' av' (plC len) lab' F')∧Hid (ForestK B w' f vf len kn (m':Int) false)∧Hid (Below B w w'))∨
 (e=.returned (.bool true)∧∃many,Hid (ForestK B w' f vf len kn many true)∧Hid (Below B w w'))
set_option maxRecDepth 100000 in
set_option maxHeartbeats 8000000 in
theorem stepG_any(W0:World)(x:StepD)(xa:Option Addr)(xc:Nat)(hx:StrCells W0 xa x.ls.length x.ls)(hxn:x.ls.length≤1048576)(hz:∀y∈x.ls,y.size≤1048576)(hky:x.key.size≤maxLen)(w:World)(hbel:Below W0.heap.size W0 w)(f len m:Nat)(hlm:len≤m)(hm6:m≤600)(vf:Value)(kn kn':Nat→Nat)(kv av:Nat→Value)(lab:Nat→NodeD)(F:Wd)(hK:Knots W0.heap.size w m kn' kv av (plC len) lab F)(hkk:∀i,i<len→kn' i=kn i)(hF:WOk m F)(hFo:ForestK W0.heap.size w f vf len kn (m:Int) false)(h0:0<len)(hlen:len≤200)
  (a1:Option Addr) (n1 c1:Nat) (h1:Ints w a1 n1 x.on) (a2:Option Addr) (n2 c2:Nat) (h2:Ints w a2 n2 x.wi)
  (hfit:∀y,y<m→(lab y).attrs.length≤100∧(∀z∈(lab y).attrs,z.1.size≤maxLen∧z.2.size≤maxLen)∧(ClsVal (lab y).attrs).size≤16000000000000):
  Calls Tryz.prog 27 #[.pointer (some ⟨f,0,none⟩),.agg #[.int .i64 x.op,.slice a1 n1 c1,.slice a2 n2 c2,.string x.key,.string x.val,.slice xa x.ls.length xc]] w (StepGPost W0.heap.size f len vf kn x m lab F w):=by
 obtain⟨w0,hw0⟩:∃w0,w.alloc (.cells #[.int .i64 x.op,.slice a1 n1 c1,.slice a2 n2 c2,.string x.key,.string x.val,.slice xa x.ls.length xc] 28)=w0:=⟨_,rfl⟩
 obtain⟨B,hB⟩:∃B,W0.heap.size=B:=⟨_,rfl⟩
 have hb0:Below w.heap.size w w0:=by rw [←hw0];exact(Below.refl _ _).alloc (Nat.le_refl _) _
 have hobj:World.objAt w0 w.heap.size #[.int .i64 x.op,.slice a1 n1 c1,.slice a2 n2 c2,.string x.key,.string x.val,.slice xa x.ls.length xc] 28:=by rw [←hw0];exact objAt_alloc_new w _ _
 rw [hB]at hK hFo hbel ⊢
 have hBW:B≤w.heap.size:=Nat.le_trans hFo.base (Nat.le_of_lt hFo.obj.lt)
 have hK0:=hK.below hb0
 have hFo0:=hFo.below hb0
 have hch:=chosenK_any w0 f len vf kn (m:Int) false hFo0 h0 hlen a1 n1 c1 x.on (h1.below hb0)
 have hch2:=fun(w1:World) (hb:Below w0.heap.size w0 w1)=>chosenK_any w1 f len vf kn (m:Int) false (hFo0.below hb) h0 hlen a2 n2 c2 x.wi ((h2.below hb0).below hb)
 have hend0:∀w2,Below w0.heap.size w0 w2→Below B w w2:=fun w2 hb2=>(hb0.mono hBW).trans (hb2.mono (by have :=hb0.size;omega))
 have HEND:=Lib.hid hend0
 have HCH:=Lib.hid hch
 have HCH2:=Lib.hid hch2
 have HK0:=Lib.hid (And.intro hK0 (And.intro hFo0 hobj))
 have HF:=Lib.hid hF
 have HARG:=Lib.hid (And.intro hx (And.intro hz (And.intro hfit (And.intro hkk (And.intro hbel (And.intro hB hb0))))))
 obtain⟨q,hq⟩:∃q,w.heap.size=q:=⟨_,rfl⟩
 have r0:=hobj.cell (i:=0) (v:=.int .i64 x.op) rfl
 have r1:=hobj.cell (i:=1) (v:=.slice a1 n1 c1) rfl
 have r2:=hobj.cell (i:=2) (v:=.slice a2 n2 c2) rfl
 have r3:=hobj.cell (i:=3) (v:=.string x.key) rfl
 have r4:=hobj.cell (i:=4) (v:=.string x.val) rfl
 have r5:=hobj.cell (i:=5) (v:=.slice xa x.ls.length xc) rfl
 rw [hq]at r0 r1 r2 r3 r4 r5
 obtain⟨o,ho⟩:∃o,x.op=o:=⟨_,rfl⟩
 have hcls:=opCls x.op
 rw [ho]at r0 hcls hw0 ⊢
 have HO:=Lib.hid ho
 have HCLS:=Lib.hid hcls
 clear hch hch2 hend0 hK0 hFo0 hobj hb0 hK hFo hF hx hz hfit hkk hbel hB h1 h2 ho hcls
 go_enter Tryz.func27,Tryz.ntmps27
 go_wp2_with fail
 refine HCH.out.mono ?_
 intro e w1 hp
 clear hq hw0
 rcases hp with ⟨rfl,hb1⟩ | ⟨v1,l,hpk,rfl,ho1,hb1⟩
 ·have HC2:=Lib.hid (HCH2.out w1 hb1.out)
  have r2':=cell_below hb1.out r2
  clear r0 r1 r2 r3 r4 r5 HCH
  go_wp2_with fail
  refine HC2.out.mono ?_
  intro e w2 hp
  rcases hp with ⟨rfl,hb2⟩ | ⟨v2,l2,_,rfl,_,hb2⟩
  ·go_wp2
   go_ret
   exact .inl ⟨rfl,Lib.hid (HEND.out _ (hb1.out.trans (hb2.out.mono hb1.out.size)))⟩
  ·go_wp2
   go_ret
   exact .inl ⟨rfl,Lib.hid (HEND.out _ (hb1.out.trans (hb2.out.mono hb1.out.size)))⟩
 have HC2:=Lib.hid (HCH2.out w1 hb1.out)
 have r2':=cell_below hb1.out r2
 have HP:=Lib.hid hpk
 obtain⟨va,vc,rfl⟩:=ownsRow_slice ho1.out
 clear HCH hpk
 go_wp2_with fail
 refine HC2.out.mono ?_
 intro e w2 hp
 clear r2'
 rcases hp with ⟨rfl,hb2⟩ | ⟨v2,ws,hpk2,rfl,ho2,hb2⟩
 ·clear r0 r1 r2 r3 r4 r5
  go_wp2
  go_ret
  exact .inl ⟨rfl,Lib.hid (HEND.out _ (hb1.out.trans (hb2.out.mono hb1.out.size)))⟩
 have hb02:Below w0.heap.size w0 w2:=hb1.out.trans (hb2.out.mono hb1.out.size)
 have q0:=cell_below hb02 r0
 have q1:=cell_below hb02 r1
 have q2:=cell_below hb02 r2
 have q3:=cell_below hb02 r3
 have q4:=cell_below hb02 r4
 have q5:=cell_below hb02 r5
 clear r0 r1 r2 r3 r4 r5
 obtain⟨wa,wc,rfl⟩:=ownsRow_slice ho2.out
 by_cases hl0:l.length=0
 ·have gl:((l.length:Int)==0)=true:=by simp [hl0]
  clear hl0
  go_wp2
  go_ret
  exact .inl ⟨rfl,Lib.hid (HEND.out _ hb02)⟩
 have gl:((l.length:Int)==0)=false:=by simp [hl0]
 have hlp:0<l.length:=Nat.pos_of_ne_zero hl0
 obtain⟨gv,rfl⟩:∃gv,va=some ⟨gv,0,none⟩:=by
  rcases ho1.out.2 with ⟨_,h2⟩ | ⟨g0,c0_,cur,hv_,_⟩
  ·exact absurd h2 hl0
  ·simp at hv_;exact⟨g0,hv_.1⟩
 have hkk:=HARG.out.2.2.2.1
 have hmapl:(l.map fun y=>ptrV (kn y))=l.map fun y=>ptrV (kn' y):=List.map_congr_left (fun y hy=>by rw [hkk y (HP.out.lt y hy)])
 have hmapw:(ws.map fun y=>ptrV (kn y))=ws.map fun y=>ptrV (kn' y):=List.map_congr_left (fun y hy=>by rw [hkk y (hpk2.lt y hy)])
 have hO1:=ownsRow_kept ho1.out (fun k hk=>hb2.out.block k (World.ownsRow.lt ho1.out k hk).2)
 have hO2:=ho2.out
 rw [hmapl]at hO1
 rw [hmapw]at hO2
 have HP2:=Lib.hid hpk2
 have HK2:=Lib.hid (HK0.out.1.below hb02)
 have HFo2:=Lib.hid (HK0.out.2.1.below hb02)
 have HO1:=Lib.hid hO1
 have HO2:=Lib.hid hO2
 have hlle:l.length≤200:=Nat.le_trans HP.out.le hlen
 have hwle:ws.length≤200:=Nat.le_trans hpk2.le hlen
 have HLM:=Lib.hid (show ∀y∈l,y<m from fun y hy=>Nat.lt_of_lt_of_le (HP.out.lt y hy) hlm)
 have HWM:=Lib.hid (show ∀y∈ws,y<m from fun y hy=>Nat.lt_of_lt_of_le (hpk2.lt y hy) hlm)
 have HE2:=Lib.hid (HEND.out _ hb02)
 have hbs2:=hb02.size
 have HFRESH:=Lib.hid (show ∀(n':Nat) (kn2:Nat→Nat) (pl2:Nat→Int),m≤n'→(∀i,i<m→kn2 i=kn' i∧pl2 i=plC len i)→(∀i,m≤i→i<n'→pl2 i= -1)→(∀i,i<len→kn2 i=kn i)∧(∀i,i<len→i<n'→pl2 i=(i:Int))∧∀i,len≤i→i<n'→pl2 i= -1 from fun n' kn2 pl2 hle hold hnew=>by
  refine⟨fun i hi=>?_,fun i hi _=>?_,fun i h1 h2=>?_⟩
  ·rw [(hold i (by omega)).1];exact hkk i hi
  ·rw [(hold i (by omega)).2];unfold plC;rw [if_pos hi]
  ·by_cases e:i<m
   ·rw [(hold i e).2];unfold plC;rw [if_neg (by omega)]
   ·exact hnew i (by omega) h2)
 have hdec:decide (600<m)=false:=by simp;omega
 have HDEC:=Lib.hid hdec
 have HB02:=Lib.hid hb02
 clear hb1 hb2 hb02 ho1 ho2 hpk2 hO1 hO2 hmapl hmapw hl0 HC2 HCH2 hdec hkk
 rcases HCLS.out with ⟨hins,op',hopt⟩ | ⟨⟨g1,g2,g3,g4,g5⟩,hoth⟩
 ·have hI:=insertMany_any (op:=o) (op':=op') hopt HK2.out HF.out (by rw [HDEC.out];exact(show ForestK B w2 f vf len kn' (m:Int) false from⟨HFo2.out.obj,by
    have h1:=HFo2.out.all
    have e:((List.range len).map fun i=>ptrV (kn i))=(List.range len).map fun i=>ptrV (kn' i):=List.map_congr_left (fun i hi=>by rw [HARG.out.2.2.2.1 i (List.mem_range.1 hi)])
    rwa [e]at h1,HFo2.out.base⟩)) hm6 l HLM.out hlp hlle gv vc HO1.out (.slice wa ws.length wc) ws HO2.out HWM.out HP2.out.nd hwle (fun y hy=>⟨(HARG.out.2.2.1 y hy).1,(HARG.out.2.2.1 y hy).2.1⟩)
  have HI:=Lib.hid hI
  have HOPT:=Lib.hid hopt
  clear hI hopt
  rcases hins with g1 | ⟨g1,g2 | ⟨g2,g3 | ⟨g3,g4 | ⟨g4,g5⟩⟩⟩⟩
  all_goals
   go_wp2_with fail
   refine HI.out.mono ?_
   intro e w3 hp
   clear q0 q1 q2 q3 q4 q5
   rcases hp with ⟨rfl,hb3⟩ | ⟨m',kn2,kv2,av2,pl2,lab2,G2,rfl,hmk,hk3,hf3,hb3⟩
   ·have HB3:=Lib.hid (HE2.out.trans hb3.out)
    clear hb3
    go_wp2
    go_ret
    exact .inl ⟨rfl,HB3⟩
   ·have HB3:=Lib.hid (HE2.out.trans hb3.out)
    have hf4:ForestK B w3 f vf len kn (m':Int) (decide (600<m')):=⟨hf3.out.obj,by
     have h1:=hf3.out.all
     have e:((List.range len).map fun i=>ptrV (kn' i))=(List.range len).map fun i=>ptrV (kn i):=List.map_congr_left (fun i hi=>by rw [HARG.out.2.2.2.1 i (List.mem_range.1 hi)])
     rwa [e]at h1,hf3.out.base⟩
    have HF4:=Lib.hid hf4
    clear hb3 hf3 hf4
    go_wp2
    go_ret
    by_cases h6:m'≤600
    ·have hf5:=HF4.out
     rw [show decide (600<m')=false by simp;omega]at hf5
     obtain⟨e1,e2,e3,e4,L,G0,e5,e6,e7⟩:=hmk.out.exact h6
     obtain⟨f1,f2,f3⟩:=HFRESH.out m' kn2 pl2 hmk.out.le (fun i hi=>⟨(hmk.out.old i hi).1,(hmk.out.old i hi).2.1⟩) hmk.out.new
     rw [←HO.out]at e3 e4 e7
     exact .inr (.inl ⟨m',kn2,kv2,av2,lab2,G2,l,ws,rfl,h6,f1,HP.out,hlp,HP2.out,.put (op':=op') (by rw [HO.out];exact HOPT.out) e1 e2 e3 e4 e5 e6 e7,Lib.hid (hk3.out.plC f2 f3),Lib.hid hf5,HB3⟩)
    ·have hf5:=HF4.out
     rw [show decide (600<m')=true by simp;omega]at hf5
     exact .inr (.inr ⟨rfl,_,Lib.hid hf5,HB3⟩)
 rcases hoth with ⟨g6,H6⟩ | ⟨g6,⟨g7,H7⟩ | ⟨g7,⟨g8,H8⟩ | ⟨g8,hrest⟩⟩⟩
 ·clear q1 q2 q3 q4 q5
  have HBE:Hid (Below B w w2):=HE2
  go_wp2
  go_loopw [9] (fun iv wr=>∃(k:Nat) (kv:Nat→Value),k≤l.length∧iv=.int .i64 (k:Int)∧Hid (Knots B wr m kn' kv av (plC len) lab (cutsW F (l.take k)))∧Hid (OnlyK m kn' w2 wr)) (fun i _=>l.length-(intOf i).toNat)
  case atStart=>exact⟨0,kv,by omega,by go_num,HK2,Lib.hid (OnlyK.refl _ _ _)⟩
  case round=>
   obtain⟨k,kv,hk,rfl,HKr,HOr⟩:=hrel
   by_cases hlt:k<l.length
   ·have ck:=own_krow (own_onlyK HK2.out HO1.out HOr.out) k hlt
    have hxm:=HLM.out _ (getD_mem' (d:=0) hlt)
    have htk:=cuts_take (F:=F) hlt
    obtain⟨y,hy⟩:∃y,l.getD k 0=y:=⟨_,rfl⟩
    rw [hy]at ck hxm htk
    have hFk:=HF.out.cuts (l.take k)
    have hkI:(k:Int)<(l.length:Int):=by omega
    have hcut:Calls Tryz.prog 59 #[.pointer (some ⟨kn' y,0,none⟩)] wr (fun e w3=>∃kv3,e=.returned (.tuple #[])∧Hid (Knots B w3 m kn' kv3 av (plC len) lab (cutsW F (l.take (k+1))))∧Hid (OnlyK m kn' wr w3)):=by
     rw [htk]
     cases hu:(cutsW F (l.take k)).up y with
     | none=>
      refine(cut_none HKr.out hxm hu).mono ?_
      rintro e w3 ⟨rfl,rfl⟩
      exact⟨kv,rfl,Lib.hid (by rw [hFk.cut_none hu];exact HKr.out),Lib.hid (OnlyK.refl _ _ _)⟩
     | some p=>
      obtain⟨aa,bb,hab⟩:=List.append_of_mem ((hFk.iff p y).2 hu)
      exact cutK_some HKr.out hFk (by omega) hab
    have HCUT:=Lib.hid hcut
    clear hcut htk hFk hy hxm
    go_wp2_with fail
    refine HCUT.out.mono ?_
    rintro e w3 ⟨kv3,rfl,hk3,ho3⟩
    have HO3:=Lib.hid (HOr.out.trans ho3.out)
    clear ho3 HCUT ck
    go_wp2
    refine⟨?rel,?measure⟩
    case rel=>exact⟨k+1,kv3,by omega,by go_num,hk3,HO3⟩
    case measure=>simp [intOf];omega
   ·obtain rfl:k=l.length:=by omega
    have hk9:=HKr.out
    rw [List.take_length]at hk9
    have HK9:=Lib.hid hk9
    have HF9:=Lib.hid (HFo2.out.turn HK2.out HOr.out)
    have HB9:=Lib.hid (HBE.out.trans (HOr.out.below B (Nat.le_trans hBW HBE.out.size) HK2.out.base))
    clear hk9
    go_wp2
    go_ret
    exact .inr (.inl ⟨m,kn',kv,av,lab,cutsW F l,l,ws,rfl,hm6,HARG.out.2.2.2.1,HP.out,hlp,HP2.out,.rem (HO.out.trans H6.out) rfl rfl rfl,HK9,HF9,HB9⟩)
 ·clear q1 q2 q3 q4 q5
  have HBE:Hid (Below B w w2):=HE2
  go_wp2
  go_loopw [10] (fun iv wr=>∃(k:Nat) (kv:Nat→Value),k≤l.length∧iv=.int .i64 (k:Int)∧Hid (Knots B wr m kn' kv av (plC len) lab (emptW F (l.take k)))∧Hid (OnlyK m kn' w2 wr)) (fun i _=>l.length-(intOf i).toNat)
  case atStart=>exact⟨0,kv,by omega,by go_num,HK2,Lib.hid (OnlyK.refl _ _ _)⟩
  case round=>
   obtain⟨k,kv,hk,rfl,HKr,HOr⟩:=hrel
   by_cases hlt:k<l.length
   ·have hxm:=HLM.out _ (getD_mem' (d:=0) hlt)
    have htk:=take_snoc hlt
    obtain⟨y,hy⟩:∃y,l.getD k 0=y:=⟨_,rfl⟩
    rw [hy]at hxm htk
    have HGk:=Lib.hid (HF.out.empt (l.take k))
    obtain⟨G,hG⟩:∃G,emptW F (l.take k)=G:=⟨_,rfl⟩
    rw [hG]at HKr HGk
    obtain⟨ks,hks⟩:∃ks,G.kids y=ks:=⟨_,rfl⟩
    have hksl:ks.length≤600:=by rw [←hks];exact Nat.le_trans (HGk.out.few y) hm6
    have HKS:=Lib.hid (And.intro hks (And.intro hy (And.intro htk (And.intro hG hxm))))
    have hkI:(k:Int)<(l.length:Int):=by omega
    have hcutk:∀j,j≤ks.length→(cutsW G (ks.take j)).kids y=ks.drop j:=fun j hj=>by
     rw [cutsW_off]
     show offL (ks.take j) (G.kids y)=_
     rw [hks]
     have hnd:=HGk.out.nd y
     rw [hks]at hnd
     conv=>lhs;arg 2;rw [←List.take_append_drop j ks]
     rw [offL_append]
     have h1:offL (ks.take j) (ks.take j)=[]:=by
      refine List.filter_eq_nil_iff.2 (fun z hz=>?_)
      simp [hz]
     have h2:offL (ks.take j) (ks.drop j)=ks.drop j:=by
      refine List.filter_eq_self.2 (fun z hz=>?_)
      rw [←List.take_append_drop j ks,List.nodup_append]at hnd
      simp only [Bool.not_eq_true',List.contains_eq_mem,decide_eq_false_iff_not]
      exact fun hm=>hnd.2.2 z hm z hz rfl
     rw [h1,h2,List.nil_append]
    have HCK:=Lib.hid hcutk
    clear hks hy htk hG hcutk hxm
    go_wp2
    go_loopg [] ks.length (fun gk wr2=>∃(j:Nat) (kv:Nat→Value),gk+j=ks.length∧Hid (Knots B wr2 m kn' kv av (plC len) lab (cutsW G (ks.take j)))∧Hid (OnlyK m kn' w2 wr2))
    case atStart=>exact⟨0,kv,by omega,HKr,HOr⟩
    case round=>
     obtain⟨j,kv9,hgj,HKj,HOj⟩:=hrel
     have hck:=own_krow (own_onlyK HK2.out HO1.out HOj.out) k (by omega)
     rw [HKS.out.2.1]at hck
     have hdr:=HCK.out j (by omega)
     have c7:=(HKj.out.cells HKS.out.2.2.2.2).2.2
     have hrow:=HKj.out.row y HKS.out.2.2.2.2
     rw [hdr]at hrow
     by_cases hjl:j<ks.length
     ·obtain⟨ka,kcap,kg,hkv,_,_,h1,h2,_,_⟩:=own_open hrow
      obtain rfl:=h1 (by rw [List.length_drop];omega)
      have c0:=h2 0 (by rw [List.length_drop];omega)
      have hz:(ks.drop j).getD 0 0=ks.getD j 0:=by simp [List.getD_eq_getElem?_getD]
      rw [hz]at c0
      rw [hkv,List.length_drop]at c7
      obtain⟨LJ,hLJ⟩:∃LJ,ks.length-j=LJ:=⟨_,rfl⟩
      rw [hLJ]at c7
      have hLJ0:(0:Int)<(LJ:Int):=by omega
      obtain⟨z,hzz⟩:∃z,ks.getD j 0=z:=⟨_,rfl⟩
      rw [hzz]at c0
      have htkj:=cuts_take (F:=G) hjl
      rw [hzz]at htkj
      have hFj:=HGk.out.cuts (ks.take j)
      have hab:(cutsW G (ks.take j)).kids y=[]++z::ks.drop (j+1):=by
       rw [hdr,List.drop_eq_getElem_cons hjl,List.nil_append]
       congr 1
       rw [←hzz,List.getD_eq_getElem?_getD,List.getElem?_eq_getElem hjl]
       rfl
      have hcut:=cutK_some HKj.out hFj (by omega) hab
      rw [←htkj]at hcut
      have HCUT:=Lib.hid hcut
      clear hcut hab hFj htkj hzz hLJ hkv h2 hz hrow hdr
      go_wp2_with fail
      refine HCUT.out.mono ?_
      rintro e w3 ⟨kv3,rfl,hk3,ho3⟩
      have HO3:=Lib.hid (HOj.out.trans ho3.out)
      clear ho3 HCUT c0 c7 hck
      go_wp2
      go_roundg (ks.length-(j+1))
      case measure=>omega
      case rel=>exact⟨j+1,kv3,by omega,hk3,HO3⟩
     ·obtain rfl:j=ks.length:=by omega
      obtain⟨ka,kcap,hkv⟩:=ownsRow_slice hrow
      rw [hkv,List.length_drop,Nat.sub_self]at c7
      have hk9:=HKj.out
      rw [List.take_length,←HKS.out.1,←HKS.out.2.2.2.1,←emptW_snoc,←HKS.out.2.2.1]at hk9
      have HK9:=Lib.hid hk9
      clear hk9 hrow hdr hkv
      go_wp2
      refine⟨?rel,?measure⟩
      case rel=>exact⟨k+1,kv9,by omega,by go_num,HK9,HOj⟩
      case measure=>simp [intOf];omega
   ·obtain rfl:k=l.length:=by omega
    have hk9:=HKr.out
    rw [List.take_length]at hk9
    have HF9:=Lib.hid (HFo2.out.turn HK2.out HOr.out)
    have HB9:=Lib.hid (HBE.out.trans (HOr.out.below B (Nat.le_trans hBW HBE.out.size) HK2.out.base))
    have hare:=areK_any hk9 (some ⟨gv,0,none⟩) gv vc l ⟨fun _=>rfl,own_krow (own_onlyK HK2.out HO1.out HOr.out)⟩ HLM.out hlle
    have HARE:=Lib.hid hare
    have HK9:=Lib.hid hk9
    clear hk9 hare
    go_wp2_with fail
    refine HARE.out.mono ?_
    rintro e w3 ⟨bb,rfl,hbb,rfl⟩
    have HBB:=Lib.hid hbb
    clear HARE hbb
    go_wp2
    go_ret
    cases bb
    ·exact .inl ⟨rfl,HB9⟩
    ·refine .inr (.inl ⟨m,kn',kv,av,lab,emptW F l,l,ws,rfl,hm6,HARG.out.2.2.2.1,HP.out,hlp,HP2.out,.empty (HO.out.trans H7.out) rfl rfl (fun z hz=>?_) rfl,HK9,HF9,HB9⟩)
     obtain⟨i,hi,rfl⟩:=List.getElem_of_mem hz
     have :=HBB.out rfl i hi
     rwa [List.getD_eq_getElem?_getD,List.getElem?_eq_getElem hi]at this
 ·clear q1 q2 q3 q4 q5
  have hu:=unwrappedK_any HK2.out HF.out hm6 l HLM.out hlle (some ⟨gv,0,none⟩) vc HO1.out
  have HU:=Lib.hid hu
  clear hu
  go_wp2_with fail
  refine HU.out.mono ?_
  intro e w3 hp
  rcases hp with ⟨rfl,ho3⟩ | ⟨rfl,kv3,G2,hg3,hu3,hk3,ho3⟩
  ·have HB3:=Lib.hid (HE2.out.trans (ho3.out.below B (Nat.le_trans hBW HE2.out.size) HK2.out.base))
   clear ho3 HU
   go_wp2
   go_ret
   exact .inl ⟨rfl,HB3⟩
  ·have HB3:=Lib.hid (HE2.out.trans (ho3.out.below B (Nat.le_trans hBW HE2.out.size) HK2.out.base))
   have HF3:=Lib.hid (HFo2.out.turn HK2.out ho3.out)
   clear ho3 HU
   go_wp2
   go_ret
   exact .inr (.inl ⟨m,kn',kv3,av,lab,G2,l,ws,rfl,hm6,HARG.out.2.2.2.1,HP.out,hlp,HP2.out,.unw (HO.out.trans H8.out) rfl rfl hg3.out hu3.out,hk3,HF3,HB3⟩)
 have hlens:∃WL,ws.length=WL:=⟨_,rfl⟩
 rcases hrest with ⟨h9s,HW9⟩ | ⟨g9,g10,g11⟩
 ·by_cases hl2:ws.length=1
  rotate_left
  ·have gw1:((ws.length:Int)==1)=false:=by simp;omega
   have HBD:=Lib.hid (fun q=>(HE2.out.trans (below_drewN (Below.refl B w2) q)))
   clear hl2 hlens
   rcases h9s with g9 | ⟨g9,g10 | ⟨g10,g11⟩⟩
   all_goals
    go_wp2
    go_quiet (fail)
    go_wp2
    go_ret
    exact .inl ⟨rfl,Lib.hid (HBD.out _)⟩
  obtain⟨wd,rfl⟩:∃wd,ws=[wd]:=by
   cases ws with
   | nil=>simp at hl2
   | cons x r=>
    cases r with
    | nil=>exact⟨x,rfl⟩
    | cons y q=>simp at hl2
  have ho9:=HO2.out
  obtain⟨wg,rfl,hwc⟩:=row_at ho9 (by simp)
  have cw:w2.cell? ⟨wg,0,none⟩=some (.pointer (some ⟨kn' wd,0,none⟩)):=hwc 0 _ rfl
  have hwdm:=HWM.out wd (by simp)
  have hins:∀w',Below w2.heap.size w2 w'→Calls Tryz.prog 62 #[.pointer (some ⟨f,0,none⟩),.int .i64 o,.slice (some ⟨gv,0,none⟩) l.length vc,.pointer (some ⟨kn' wd,0,none⟩)] w' (fun e w3=>∃b,e=.returned (.bool b)∧Hid (WrapGPost o B m kn' (plC len) lab F f len vf wd l w' (.returned (.bool b)) w3)):=fun w' hb=>
   (wrapGK_any HW9.out (HK2.out.below hb) HF.out (by
    have h1:=HFo2.out.below hb
    have e:((List.range len).map fun i=>ptrV (kn i))=(List.range len).map fun i=>ptrV (kn' i):=List.map_congr_left (fun i hi=>by rw [HARG.out.2.2.2.1 i (List.mem_range.1 hi)])
    rw [HDEC.out]
    exact⟨h1.obj,by have h2:=h1.all;rwa [e]at h2,h1.base⟩) hm6 l HLM.out HP.out.nd hlle hlp (some ⟨gv,0,none⟩) vc (ownsRow_kept HO1.out (fun k hk=>hb.block k (World.ownsRow.lt HO1.out k hk).2)) hwdm (fun y hy=>⟨(HARG.out.2.2.1 y hy).1,(HARG.out.2.2.1 y hy).2.1⟩)).mono (fun e w3 hh=>by
    rcases hh with ⟨rfl,h⟩ | ⟨m',kn2,kv2,av2,pl2,lab2,G,L,rfl,h⟩ | ⟨rfl,h⟩
    ·exact⟨false,rfl,Lib.hid (.inl ⟨rfl,h⟩)⟩
    ·exact⟨true,rfl,Lib.hid (.inr (.inl ⟨m',kn2,kv2,av2,pl2,lab2,G,L,rfl,h⟩))⟩
    ·exact⟨true,rfl,Lib.hid (.inr (.inr ⟨rfl,h⟩))⟩)
  have HINS:=Lib.hid hins
  have hBw2:B≤w2.heap.size:=Nat.le_trans hBW HE2.out.size
  clear hins ho9 hwc hwdm hlens hl2 q1 q2 q3 q4 q5
  rcases h9s with g9 | ⟨g9,g10 | ⟨g10,g11⟩⟩
  all_goals
   go_wp2
   go_still_tail 11,(by kernel_rfl)
   go_wp2_with fail
   refine(HINS.out _ (by first | exact Below.refl _ _ | exact(Below.refl _ _).drew)).mono ?_
   rintro e w3 ⟨b,rfl,HW3⟩
   all_goals
    have HBX:Hid (∀wz:World,Below B w2.drew wz→Below B w wz):=Lib.hid (fun wz h=>HE2.out.trans ((Below.refl B w2).drew.trans h))
    go_wp2
    go_ret
    rcases HW3.out with ⟨he,hb3⟩ | ⟨m',kn2,kv2,av2,pl2,lab2,G,L,he,h6,hold,hnew,hL,hin,hside,hkd,hw,hk3,hf3,hb3⟩ | ⟨he,mny,hf3,hb3⟩
    ·obtain rfl:b=false:=by simpa using he
     exact .inl ⟨rfl,Lib.hid (HBX.out _ hb3.out)⟩
    ·obtain rfl:b=true:=by simpa using he
     have hmm:m≤m':=(hw.ok hside ⟨HF.out,Nat.le_refl _,fun _ _ _=>rfl,fun _ _=>rfl,fun _ _=>rfl⟩ (lab0:=lab)).2
     obtain⟨f1,f2,f3⟩:=HFRESH.out m' kn2 pl2 hmm (fun i hi=>⟨(hold i hi).1,(hold i hi).2.1⟩) hnew
     have hf4:ForestK B w3 f vf len kn (m':Int) false:=⟨hf3.out.obj,by
      have h1:=hf3.out.all
      have e:((List.range len).map fun i=>ptrV (kn' i))=(List.range len).map fun i=>ptrV (kn i):=List.map_congr_left (fun i hi=>by rw [HARG.out.2.2.2.1 i (List.mem_range.1 hi)])
      rwa [e]at h1,hf3.out.base⟩
     rw [←HO.out]at hin hside hw
     exact .inr (.inl ⟨m',kn2,kv2,av2,lab2,G,l,[wd],rfl,h6,f1,HP.out,hlp,HP2.out,.wrap (by rw [HO.out];exact HW9.out) rfl hL hin hside hkd hw,Lib.hid (hk3.out.plC f2 f3),Lib.hid hf4,Lib.hid (HBX.out _ hb3.out)⟩)
    ·obtain rfl:b=true:=by simpa using he
     have hf4:ForestK B w3 f vf len kn mny true:=⟨hf3.out.obj,by
      have h1:=hf3.out.all
      have e:((List.range len).map fun i=>ptrV (kn' i))=(List.range len).map fun i=>ptrV (kn i):=List.map_congr_left (fun i hi=>by rw [HARG.out.2.2.2.1 i (List.mem_range.1 hi)])
      rwa [e]at h1,hf3.out.base⟩
     exact .inr (.inr ⟨rfl,_,Lib.hid hf4,Lib.hid (HBX.out _ hb3.out)⟩)
 ·have hare:=areK_any HK2.out (some ⟨gv,0,none⟩) gv vc l ⟨fun _=>rfl,own_krow HO1.out⟩ HLM.out hlle
  have hbW2:Below W0.heap.size W0 w2:=by
   have h1:=HARG.out.2.2.2.2
   rw [h1.2.1]
   exact h1.1.trans (HE2.out)
  have hKW:Knots W0.heap.size w2 m kn' kv av (plC len) lab F:=by rw [HARG.out.2.2.2.2.2.1];exact HK2.out
  have hat:=attributesA_any o x.key x.val hky W0 x.ls xa xc HARG.out.1 hxn HARG.out.2.1 w2 hbW2 hKW l HLM.out HP.out.nd hlle _ (some ⟨gv,0,none⟩) vc HO1.out (fun y hy=>⟨by have :=(HARG.out.2.2.1 y (HLM.out y hy)).1;omega,(HARG.out.2.2.1 y (HLM.out y hy)).2⟩) a1 a2 n1 c1 n2 c2
  rw [HARG.out.2.2.2.2.2.1]at hat
  have HARE:=Lib.hid hare
  have HAT:=Lib.hid hat
  clear hare hat hbW2 hKW hlens
  go_wp2_with fail
  refine HARE.out.mono ?_
  rintro e w3 ⟨bb,rfl,hbb,rfl⟩
  have HBB:=Lib.hid hbb
  clear HARE hbb
  cases bb
  ·go_wp2
   go_ret
   exact .inl ⟨rfl,HE2⟩
  go_wp2_with fail
  refine HAT.out.mono ?_
  intro e w4 hp
  clear HAT q0 q1 q2 q3 q4 q5
  rcases hp with ⟨rfl,hb4⟩ | ⟨av4,lab4,rfl,hns,hky2,hk4,ha4,ho4⟩
  ·have HB4:=Lib.hid (HE2.out.trans hb4.out)
   clear hb4
   go_wp2
   go_ret
   exact .inl ⟨rfl,HB4⟩
  ·have HN:=Lib.hid (And.intro hns hky2)
   have HF4:=Lib.hid (HFo2.out.turn HK2.out ho4.out)
   have HB4:=Lib.hid (HE2.out.trans (ho4.out.below B (Nat.le_trans hBW HE2.out.size) HK2.out.base))
   clear hns hky2 ho4
   go_wp2
   go_ret
   refine .inr (.inl ⟨m,kn',kv,av4,lab4,F,l,ws,rfl,hm6,HARG.out.2.2.2.1,HP.out,hlp,HP2.out,.attr rfl rfl (fun z hz=>?_) HN.out.1 (by rw [HO.out];exact HN.out.2) (by rw [HO.out];exact ha4.out),hk4,HF4,HB4⟩)
   obtain⟨i,hi,rfl⟩:=List.getElem_of_mem hz
   have :=HBB.out trivial i hi
   rwa [List.getD_eq_getElem?_getD,List.getElem?_eq_getElem hi]at this
end Go.Proofs.YtkdomegcacgpnaaGreat
