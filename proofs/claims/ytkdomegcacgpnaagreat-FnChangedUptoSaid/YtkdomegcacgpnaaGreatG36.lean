/- Parts of a proof: RemoveSel, Replace, ReplaceSel, UnwClo, UnwEach, PtrSetAll, ParG. -/
import Derived.Test.YtkdomegcacgpnaaGreatG06
import Derived.Test.YtkdomegcacgpnaaGreatG17
import Derived.Test.YtkdomegcacgpnaaGreatG07
import Derived.Test.YtkdomegcacgpnaaGreatG08
import Derived.Test.YtkdomegcacgpnaaGreatG35
import Derived.Test.YtkdomegcacgpnaaGreatG25
import Derived.Test.YtkdomegcacgpnaaGreatG34
import Derived.Test.YtkdomegcacgpnaaGreatG19
import Derived.Test.YtkdomegcacgpnaaGreatG00
import Derived.Test.YtkdomegcacgpnaaGreatG01
import Derived.LaidEqlPtr
import Derived.Maps.OwnOps
import Derived.Maps.OwnSet
import Derived.ChangeMaps5
set_option linter.unusedVariables false
set_option linter.unusedSimpArgs false
namespace Go.Proofs.YtkdomegcacgpnaaGreat
open Go.RowKit
def RemovePost(s B n:Nat)(nb:Nat→Nat)(v:Nat→Value)(lab:Nat→NodeD)(F:Wd)(w:World)(e:Ending)(w':World):Prop:=e=.returned (.pointer (some ⟨s,0,none⟩))∧Hid (DomAt B w' n nb v lab F)∧Hid (OnlyN n nb w w')
set_option maxRecDepth 100000 in
set_option maxHeartbeats 1000000 in
theorem remove_any{B n:Nat}{w:World}{nb:Nat→Nat}{v:Nat→Value}{lab:Nat→NodeD}{F:Wd}(h:DomAt B w n nb v lab F)(hF:WOk n F)(s:Nat)(sv:Value)(l:List Nat)(S:Nat)(hs:SelAt w s sv (l.map nb) S)(hS:∀i,i<n→nb i<S)(hl:∀i∈l,i<n)(hn:l.length≤200):
  Calls Tryz.prog 46 #[.pointer (some ⟨s,0,none⟩)] w (RemovePost s B n nb v lab (cutsW F l) w):=by
 have hown:w.ownsRow S 75 1 sv l.length (l.map fun y=>ptrV (nb y)):=by
  have h1:=hs.own
  unfold OwnPtrs at h1
  rw [List.length_map,List.map_map]at h1
  exact h1
 obtain⟨a,cap,b,rfl,hcap,hcm,ha,hc,_,_⟩:=own_open hown
 have c0:=hs.nodes
 have hbase:0<l.length→S≤b:=fun h0=>(World.ownsRow.lt hown b (by rw [ha h0];rfl)).1
 have hll:(l.length:Int)≤200:=by omega
 have HA:=Lib.hid ha
 have HC:=Lib.hid hc
 have HD:=Lib.hid h
 have HF:=Lib.hid hF
 have HL:=Lib.hid hl
 have HS:=Lib.hid (And.intro hS (And.intro hs.base hbase))
 clear h hF hs hS hl ha hc hbase hown
 go_enter Tryz.func46,Tryz.ntmps46
 go_wp2
 go_loopw [10] (fun i wr=>∃k:Nat,k≤l.length∧i=.int .i64 (k:Int)∧Hid (DomAt B wr n nb v lab (cutsW F (l.take k)))∧Hid (OnlyN n nb w wr)) (fun i _=>l.length-(intOf i).toNat)
 case atStart=>exact⟨0,by omega,by go_num,HD,Lib.hid (OnlyN.refl _ _ _)⟩
 case round=>
  obtain⟨k,hk,rfl,HDk,HO⟩:=hrel
  by_cases hlt:k<l.length
  ·obtain rfl:=HA.out (by omega)
   have hkI:(k:Int)<(l.length:Int):=by omega
   have hbS:=HS.out.2.2 (by omega)
   have keep:∀(q o:Nat) (z:Value),S≤q→w.cell? ⟨q,o,none⟩=some z→wr.cell? ⟨q,o,none⟩=some z:=fun q o z hq hz=>
    (World.cell?_of_block (HO.out.block q (fun i hi e=>by have :=HS.out.1 i hi;omega))).trans hz
   have ck:=keep b k _ hbS (HC.out k hlt)
   have hx:=HL.out _ (getD_mem' (d:=0) hlt)
   have htk:=cuts_take (F:=F) hlt
   obtain⟨x,hxx⟩:∃x,l.getD k 0=x:=⟨_,rfl⟩
   rw [hxx]at ck hx htk
   have hFk:=HF.out.cuts (l.take k)
   have cp:=(HDk.out.node x hx).par
   cases hu:(cutsW F (l.take k)).up x with
   | none=>
    have cp0:wr.cell? ⟨nb x,0,none⟩=some (.pointer none):=by
     have :(linkR (cutsW F (l.take k)) nb (lab x) (v x) x).par=none:=by simp [linkR,hu]
     rw [this]at cp
     exact cp
    have HN:=Lib.hid (show DomAt B wr n nb v lab (cutsW F (l.take (k+1))) by rw [htk,hFk.cut_none hu];exact HDk.out)
    clear cp htk hFk hxx hu
    go_wp2
    go_roundw
    case rel=>exact⟨k+1,by omega,by go_num,HN,HO⟩
    case measure=>simp [intOf];omega
   | some p=>
    have cp0:wr.cell? ⟨nb x,0,none⟩=some (.pointer (some ⟨nb p,0,none⟩)):=by
     have :(linkR (cutsW F (l.take k)) nb (lab x) (v x) x).par=some (nb p):=by simp [linkR,hu]
     rw [this]at cp
     exact cp
    have hrc:=removeChild_any HDk.out hFk hu
    rw [←htk]at hrc
    have HRC:=Lib.hid hrc
    clear cp htk hFk hxx hu hrc
    go_wp2_with fail
    refine HRC.out.mono ?_
    rintro e w2 ⟨rfl,hd2,ho2⟩
    have HO2:=Lib.hid (HO.out.trans ho2.out)
    clear ho2
    go_wp2
    refine⟨?rel,?measure⟩
    case rel=>exact⟨k+1,by omega,by go_num,hd2,HO2⟩
    case measure=>simp [intOf];omega
  ·obtain rfl:k=l.length:=by omega
   have hd:=HDk.out
   rw [List.take_length]at hd
   have HE:=Lib.hid hd
   clear hd
   go_wp2
   go_ret
   exact⟨rfl,HE,HO⟩
def ReplacePost(s B n:Nat)(nb:Nat→Nat)(v:Nat→Value)(lab:Nat→NodeD)(G:Wd)(p g:Nat)(A B2:List Nat)(w0:World)(e:Ending)(w':World):Prop:=
 e=.returned (.pointer (some ⟨s,0,none⟩))∧∃G2,Hid (UnwOut n G p g A B2 G2)∧Hid (DomAt B w' n nb v lab G2)∧∃wm,Hid (Below w0.heap.size w0 wm)∧Hid (OnlyN n nb wm w')
set_option maxRecDepth 100000 in
set_option maxHeartbeats 1000000 in
theorem replace_any{B n:Nat}{w0 w:World}{nb:Nat→Nat}{v:Nat→Value}{lab:Nat→NodeD}{G:Wd}(h:DomAt B w0 n nb v lab G)(hG:WOk n G)(hn:n≤600)(s:Nat)(sv:Value)(S:Nat){p g:Nat}{A B2:List Nat}(hs:SelAt w0 s sv ([p].map nb) S)(hS:∀i,i<n→nb i<S)(hu:G.up p=some g)(hk:G.kids g=A++p::B2)
  (nv:Value) (hb0:Below w0.heap.size w0 w) (hns:w.ownsRow w0.heap.size 75 1 nv (G.kids p).length ((G.kids p).map fun y=>ptrV (nb y))):
  Calls Tryz.prog 45 #[.pointer (some ⟨s,0,none⟩),nv] w (ReplacePost s B n nb v lab G p g A B2 w0):=by
 obtain⟨hgn,hpn⟩:=hG.lt g p ((hG.iff g p).2 hu)
 have hpk:p∉G.kids p:=fun hm=>by
  have h1:=(hG.iff p p).1 hm
  have h2:=hG.not_up h1
  exact h2 .refl
 have hanc:∀y∈G.kids p,¬Anc G y g:=fun y hy ha=>by
  have h1:=(hG.iff p y).1 hy
  exact hG.not_up h1 (Anc.trans ha (.step hu .refl))
 have hmn:=manip_after h hG s sv (x:=p) (p:=g) (A0:=A++[p]) (B0:=B2) (ws:=G.kids p) S hs hS hpn hgn (by rw [hk];simp) hu ⟨A,rfl⟩ hpk nv hb0 hns (fun y hy=>(hG.lt p y hy).2) (hG.nd p) (Nat.le_trans (hG.few p) hn) hanc
 have hnd:=nodes_after (X:=fun e w'=>Hid (DomAt B w' n nb v lab (mv G g (A++[p]) B2 (G.kids p)))∧Hid (WOk n (mv G g (A++[p]) B2 (G.kids p)))∧∃wm,Hid (Below w0.heap.size w0 wm)∧Hid (OnlyN n nb wm w')) s nv w (hmn.mono fun e w' hh=>⟨hh.1,hh.2⟩)
 have HN:=Lib.hid hnd
 have H:=Lib.hid (And.intro hs (And.intro hS (And.intro hpn (And.intro hG (And.intro hu hk)))))
 clear hnd hmn h hG hs hS hu hk hns hanc hpk hb0
 go_enter Tryz.func45,Tryz.ntmps45
 go_wp2_with fail
 refine HN.out.mono ?_
 rintro e w1 ⟨rfl,hd1,hw1,wm,hbm,ho1⟩
 have hkeep:∀k,S≤k→k<w0.heap.size→w1.heap[k]? =w0.heap[k]? :=fun k h1 h2=>(ho1.out.block k (fun i hi e=>by have :=H.out.2.1 i hi;omega)).trans (hbm.out.block k h2)
 have hs1:SelAt w1 s sv ([p].map nb) S:=by
  obtain⟨d,hd⟩:=H.out.1.doc
  have hsl:=World.block_lt_of_cell? w0 _ H.out.1.nodes
  refine⟨(World.cell?_of_block (hkeep s H.out.1.base hsl)).trans H.out.1.nodes,⟨d,(World.cell?_of_block (hkeep s H.out.1.base hsl)).trans hd⟩,?_,H.out.1.base⟩
  exact ownsRow_kept H.out.1.own (fun q hq=>hkeep q (World.ownsRow.lt H.out.1.own q hq).1 (World.ownsRow.lt H.out.1.own q hq).2)
 have hrm:=remove_any hd1.out hw1.out s sv [p] S hs1 H.out.2.1 (by simp only [List.mem_singleton];rintro i rfl;exact H.out.2.2.1) (by simp)
 have hout:=mv_unw H.out.2.2.2.1 H.out.2.2.2.2.1 H.out.2.2.2.2.2 hw1.out
 have HRM:=Lib.hid hrm
 have HOUT:=Lib.hid hout
 clear hrm hout hs1 hkeep hd1 hw1 HN
 go_wp2_with fail
 refine HRM.out.mono ?_
 rintro e w2 ⟨rfl,hd2,ho2⟩
 have HO:=Lib.hid (ho1.out.trans ho2.out)
 clear HRM
 go_wp2
 go_ret
 exact⟨rfl,_,HOUT,hd2,wm,hbm,HO⟩
set_option maxRecDepth 100000 in
set_option maxHeartbeats 1000000 in
theorem replaceSel_any{X:World→Prop}(s s2:Nat)(na:Option Addr)(nn nc:Nat)(w:World)(c:w.cell? ⟨s2,0,none⟩=some (.slice na nn nc))
  (hc:Calls Tryz.prog 45 #[.pointer (some ⟨s,0,none⟩),.slice na nn nc] w (fun e w'=>e=.returned (.pointer (some ⟨s,0,none⟩))∧Hid (X w'))):
  Calls Tryz.prog 91 #[.pointer (some ⟨s,0,none⟩),.pointer (some ⟨s2,0,none⟩)] w (fun e w'=>e=.returned (.pointer (some ⟨s,0,none⟩))∧Hid (X w')):=by
 have HC:=Lib.hid hc
 clear hc
 go_enter Tryz.func91,Tryz.ntmps91
 go_wp2_with fail
 refine HC.out.mono ?_
 rintro e w1 ⟨rfl,hx⟩
 clear HC
 go_wp2
 go_ret
 exact⟨rfl,hx⟩
set_option maxRecDepth 100000 in
set_option maxHeartbeats 1000000 in
theorem unwClo_any{B n:Nat}(i:Int)(s sg d:Nat){w:World}{nb:Nat→Nat}{v:Nat→Value}{lab:Nat→NodeD}{G:Wd}(h:DomAt B w n nb v lab G)(hG:WOk n G)(hn:n≤600){p g:Nat}{A B2:List Nat}(hO:OneAt w s sg (nb p) d)(S:Nat)(hSg:S≤sg)(hSs:S≤s)(hS:∀i,i<n→nb i<S)(hu:G.up p=some g)(hk:G.kids g=A++p::B2)(htag:((dataOf (lab p)).toList !=[98,111,100,121])=true)(htag2:((dataOf (lab p)).toList==[98,111,100,121])=false):
  Calls Tryz.prog 90 #[.int .i64 i,.pointer (some ⟨s,0,none⟩)] w (fun e w'=>e=.returned (.tuple #[])∧Hid (∃G2,Hid (UnwOut n G p g A B2 G2)∧Hid (DomAt B w' n nb v lab G2)∧∃wm,Hid (Below w.heap.size w wm)∧Hid (OnlyN n nb wm w'))):=by
 obtain⟨hgn,hpn⟩:=hG.lt g p ((hG.iff g p).2 hu)
 have cd:=(h.node p hpn).data
 have c0:=hO.nodes
 have cs:=hO.one
 have hct:=contents_any p s sg d w h hG hn hpn hO.nodes hO.doc hO.one
 have hrp:=fun(w1:World) (nv:Value) (hb:Below w.heap.size w w1) (ho:OwnPtrs w1 w.heap.size nv ((G.kids p).map nb))=>replace_any h hG hn s _ S (hO.sel hSg hSs) hS hu hk nv hb (by
  unfold OwnPtrs at ho
  rwa [List.length_map,List.map_map]at ho)
 obtain⟨tg,htg⟩:∃tg,dataOf (lab p)=tg:=⟨_,rfl⟩
 have e1:(linkR G nb (lab p) (v p) p).data=tg:=htg
 rw [e1]at cd
 rw [htg]at htag htag2
 have HCT:=Lib.hid hct
 have HRP:=Lib.hid hrp
 clear hct hrp h hG hO hS hu hk htg e1 hgn hpn hSg hSs
 go_enter Tryz.func90,Tryz.ntmps90
 go_wp2_with fail
 refine HCT.out.mono ?_
 rintro e w1 ⟨s2,nv,rfl,hsel,hb⟩
 have c2:=hsel.out.nodes
 have hr:=HRP.out w1 nv hb.out hsel.out.own
 obtain⟨na,nc,rfl⟩:=ownsRow_slice hsel.out.own
 have hrs:=replaceSel_any (X:=fun w'=>∃G2,Hid (UnwOut n G p g A B2 G2)∧Hid (DomAt B w' n nb v lab G2)∧∃wm,Hid (Below w.heap.size w wm)∧Hid (OnlyN n nb wm w')) s s2 na _ nc w1 c2 (hr.mono fun e w' hh=>⟨hh.1,Lib.hid hh.2⟩)
 have HRS:=Lib.hid hrs
 clear hrs hr HRP HCT c2 hsel hb
 go_wp2_with fail
 refine HRS.out.mono ?_
 rintro e w2 ⟨rfl,hx⟩
 clear HRS
 go_wp2
 go_end0
 exact⟨rfl,hx⟩
theorem UnwMid.step2{n:Nat}{F:Wd}{ps rest:List Nat}{G:Wd}{p g:Nat}{A B:List Nat}{G2:Wd}(h:UnwMid n F ps (p::rest) G)(hu:G.up p=some g)(hk:G.kids g=A++p::B)(ho2:UnwOut n G p g A B G2):UnwMid n F ps rest G2:=by
 have hnd:=h.nd
 rw [List.nodup_cons]at hnd
 have ho:=unwr_out h.ok hu hk
 rw [ho2.eq ho]
 exact⟨ho.ok,fun q hq=>unwr_up h.ok hu hk (fun e=>hnd.1 (e▸hq)) (h.ups q (List.mem_cons_of_mem _ hq)),hnd.2,fun G2 h2=>h.back G2 (.cons hu hk h2)⟩
def UnwEachPost(s B n:Nat)(nb:Nat→Nat)(v:Nat→Value)(lab:Nat→NodeD)(F:Wd)(ps:List Nat)(w:World)(e:Ending)(w':World):Prop:=
 e=.returned (.pointer (some ⟨s,0,none⟩))∧∃G2,Hid (Unws G2 ps F)∧Hid (WOk n G2)∧Hid (DomAt B w' n nb v lab G2)∧Hid (OnlyG n nb w w')
set_option maxRecDepth 100000 in
set_option maxHeartbeats 4000000 in
theorem unwEach_any{B n:Nat}{w:World}{nb:Nat→Nat}{v:Nat→Value}{lab:Nat→NodeD}{F:Wd}(h:DomAt B w n nb v lab F)(hn:n≤600){ps:List Nat}(hm:UnwMid n F ps ps F)(hpl:ps.length≤200)(htag:∀p∈ps,((dataOf (lab p)).toList==[98,111,100,121])=false){s sg scap d:Nat}(c0:w.cell? ⟨s,0,none⟩=some (.slice (some ⟨sg,0,none⟩) ps.length scap))(c1:w.cell? ⟨s,1,none⟩=some (.pointer (some ⟨d,0,none⟩)))(crow:∀i,i<ps.length→w.cell? ⟨sg,i,none⟩=some (.pointer (some ⟨nb (ps.getD i 0),0,none⟩)))(hbn:∀i,i<n→s≠nb i∧sg≠nb i):
  Calls Tryz.prog 89 #[.pointer (some ⟨s,0,none⟩),.func (.func 90) #[] #[]] w (UnwEachPost s B n nb v lab F ps w):=by
 have hkeep:∀(w9:World),OnlyG n nb w w9→∀(q o:Nat) (u:Value),(∀i,i<n→q≠nb i)→w.cell? ⟨q,o,none⟩=some u→w9.cell? ⟨q,o,none⟩=some u:=fun w9 ho q o u hq hc=>(World.cell?_of_block (ho.block q (World.block_lt_of_cell? w _ hc) hq)).trans hc
 have HK:=Lib.hid hkeep
 have HD0:=Lib.hid h
 have HM0:Hid (UnwMid n F ps (ps.drop 0) F):=Lib.hid hm
 have HOG:=Lib.hid (OnlyG.refl n nb w)
 have HC1:=Lib.hid c1
 have HCR:=Lib.hid crow
 have HN:=Lib.hid hbn
 have HT:=Lib.hid htag
 clear h hm crow hbn hkeep c1 htag
 go_enter Tryz.func89,Tryz.ntmps89
 go_wp2
 go_loopw [12] (fun iv wr=>∃(i:Nat) (G:Wd),iv=.int .i64 (i:Int)∧i≤ps.length∧Hid (UnwMid n F ps (ps.drop i) G)∧Hid (DomAt B wr n nb v lab G)∧Hid (OnlyG n nb w wr)) (fun iv _=>ps.length-(intOf iv).toNat)
 case atStart=>exact⟨0,F,by go_num,by omega,HM0,HD0,HOG⟩
 case round=>
  obtain⟨i,G,rfl,hi,HM,HD,HO⟩:=hrel
  by_cases hlt:i<ps.length
  ·obtain⟨p,hpp⟩:∃p,ps.getD i 0=p:=⟨_,rfl⟩
   have hdrop:=drop_at hlt
   rw [hpp]at hdrop
   have hmid:=HM.out
   rw [hdrop]at hmid
   obtain⟨g,hug⟩:=hmid.ups p (by simp)
   obtain⟨A,B2,hab⟩:=List.append_of_mem ((hmid.ok.iff g p).2 hug)
   have hpm:p∈ps:=by rw [←hpp];exact getD_mem' hlt
   have ck:=HK.out wr HO.out sg i _ (fun j hj=>(HN.out j hj).2) (HCR.out i hlt)
   rw [hpp]at ck
   have cd:=HK.out wr HO.out s 1 _ (fun j hj=>(HN.out j hj).1) HC1.out
   obtain⟨X,hX⟩:∃X,nb p=X:=⟨_,rfl⟩
   rw [hX]at ck
   have HONE:=Lib.hid (one_any X d wr)
   have HMID:=Lib.hid (And.intro hmid (And.intro hug (And.intro hab (And.intro hpm hX))))
   clear hpp hdrop hmid hug hab hpm hX HM
   go_wp2_with fail
   refine HONE.out.mono ?_
   rintro e w1 ⟨rfl,HO1,HB1⟩
   have hoa:=HO1.out
   rw [←HMID.out.2.2.2.2]at hoa
   have htg:=HT.out p HMID.out.2.2.2.1
   have hcl:=unwClo_any (i:Int) (wr.heap.size+1) wr.heap.size d (HD.out.below HB1.out) HMID.out.1.ok hn hoa wr.heap.size (Nat.le_refl _) (by omega) (fun j hj=>World.block_lt_of_cell? wr _ (HD.out.node j hj).par) HMID.out.2.1 HMID.out.2.2.1 (by rw [bne,htg];rfl) htg
   have HCL:=Lib.hid hcl
   clear hcl hoa htg ck cd HONE
   go_wp2_with fail
   refine HCL.out.mono ?_
   rintro e w2 ⟨rfl,hx⟩
   obtain⟨G2,ho2,hd2,wm,hbm,hon⟩:=hx.out
   have HM2:=Lib.hid (HMID.out.1.step2 HMID.out.2.1 HMID.out.2.2.1 ho2.out)
   have HO2:=Lib.hid (((HO.out.of_below HB1.out).of_below hbm.out).turn hon.out (fun _ _=>rfl) (fun j h1 h2=>by omega))
   clear hx ho2 hbm hon HCL HMID
   go_wp2
   go_roundw
   case rel=>exact⟨i+1,G2,by go_num,by omega,HM2,hd2,HO2⟩
   case measure=>simp [intOf];omega
  ·obtain rfl:i=ps.length:=by omega
   have hm9:=HM.out
   rw [List.drop_length]at hm9
   have HFIN:=Lib.hid (hm9.back G (.nil rfl))
   have HOK:=Lib.hid hm9.ok
   clear hm9 HM hlt
   go_wp2
   go_ret
   exact⟨rfl,G,HFIN,HOK,HD,HO⟩
end Go.Proofs.YtkdomegcacgpnaaGreat
namespace Go.Proofs.YtkdomegcacgpnaaGreat
open Go.RowKit
open Go.ChangeMaps (setBlock heap_setBlock_same heap_setBlock_other)
def ptrB(p:Nat):Value:=.pointer (some ⟨p,0,none⟩)
theorem ptrB_inj{p q:Nat}(h:ptrB p=ptrB q):p=q:=by
 simp [ptrB]at h
 exact h
def PSet(w:World)(b:Nat)(l:List Nat):Prop:=
 ∃es clock,w.heap[b]? =some (.map es clock)∧(∀e∈es.toList,∃p∈l,e.key=ptrB p∧e.val=.bool true)∧∀p∈l,∃e∈es.toList,e.key=ptrB p
theorem PSet.made(w:World):PSet (w.alloc (.map #[] 0)) w.heap.size []:=
 ⟨#[],0,heap_alloc_new _ _,by simp,by simp⟩
theorem PSet.lt{w:World}{b:Nat}{l:List Nat}(h:PSet w b l):b<w.heap.size:=by
 obtain⟨es,clock,h,_⟩:=h
 exact(Array.getElem?_eq_some_iff.1 h).1
theorem PSet.below{w w':World}{b:Nat}{l:List Nat}(h:PSet w b l)(hb:Below w.heap.size w w'):PSet w' b l:=by
 have hl:=h.lt
 obtain⟨es,clock,h,r⟩:=h
 exact⟨es,clock,(hb.block b hl).trans h,r⟩
theorem run_findAsking_ptr{P:Program}{k te:TypeId}{j:TypeInfo}{w:World}(hk:P.underlying k=some (.pointer te))(hte:P.info? te=some j)(hsz:j.size≠0){p:Nat}(hp:Alive w p):
  ∀(es:List MapEntry) (i:Nat),(∀e∈es,∃q,e.key=ptrB q∧Alive w q)→
   ((Instr.findAsking k (ptrB p) es i).run P w=.ok none w∧∀e∈es,e.key≠ptrB p)∨∃m e,(Instr.findAsking k (ptrB p) es i).run P w=.ok (some (i+m,e.val)) w∧es[m]? =some e∧e.key=ptrB p
 | [],i,_=>.inl ⟨rfl,by simp⟩
 | e::es,i,hes=>by
  obtain⟨q,hq,haq⟩:=hes e (by simp)
  by_cases hpq:p=q
  ·subst hpq
   refine .inr ⟨0,e,?_,rfl,hq⟩
   have h1:(Op.equal k (ptrB p) e.key).run P w=.ok true w:=by
    rw [hq]
    have h:∀d:Nat,(Op.equalIn (d+1) k (ptrB p) (ptrB p)).run P w=.ok true w:=fun d=>by
     simp [ptrB,Op.equalIn,run_underlying hk,sizeOf,typeInfo,hte,run_sameAddr_same]
    exact h 9999
   simp [Instr.findAsking,h1]
  ·have h1:(Op.equal k (ptrB p) e.key).run P w=.ok false w:=by
    rw [hq]
    obtain⟨ca,ta,ha⟩:=hp
    obtain⟨cb,tb,hb⟩:=haq
    have hne:(⟨p,0,none⟩:Addr)≠⟨q,0,none⟩:=fun e=>hpq (by cases e;rfl)
    have h:∀d:Nat,(Op.equalIn (d+1) k (ptrB p) (ptrB q)).run P w=.ok false w:=fun d=>by
     simp [ptrB,Op.equalIn,run_underlying hk,sizeOf,typeInfo,hte,hsz,run_sameAddr_other w hne ha hb]
    exact h 9999
   have ih:=run_findAsking_ptr hk hte hsz hp es (i+1) (fun e he=>hes e (by simp [he]))
   rcases ih with ⟨h2,h3⟩ | ⟨m,e',h2,h3,h4⟩
   ·refine .inl ⟨by simp [Instr.findAsking,h1,h2],?_⟩
    intro e'' he''
    rcases List.mem_cons.1 he'' with rfl | he''
    ·rw [hq];exact fun h=>hpq (ptrB_inj h).symm
    ·exact h3 e'' he''
   ·refine .inr ⟨m+1,e',?_,h3,h4⟩
    simp [Instr.findAsking,h1,h2]
    omega
theorem run_findKey_ptr{P:Program}{k te:TypeId}{j:TypeInfo}{w:World}(hk:P.underlying k=some (.pointer te))(hte:P.info? te=some j)(hsz:j.size≠0){p:Nat}(hp:Alive w p)
  (es:List MapEntry) (hes:∀e∈es,∃q,e.key=ptrB q∧Alive w q):
   ((Instr.findKey k (ptrB p) es).run P w=.ok none w∧∀e∈es,e.key≠ptrB p)∨∃m e,(Instr.findKey k (ptrB p) es).run P w=.ok (some (m,e.val)) w∧es[m]? =some e∧e.key=ptrB p:=by
 cases es with
 | nil=>exact .inl ⟨by simp [Instr.findKey,run_underlying hk,Instr.findNow],by simp⟩
 | cons e es=>
  have h0:Instr.findNow (.pointer te) (ptrB p) (e::es) 0=none:=by simp [Instr.findNow,Instr.sameNow]
  have h:=run_findAsking_ptr hk hte hsz hp (e::es) 0 hes
  rcases h with ⟨h1,h2⟩ | ⟨m,e',h1,h2,h3⟩
  ·exact .inl ⟨by simp [Instr.findKey,run_underlying hk,h0,h1],h2⟩
  ·exact .inr ⟨m,e',by simp [Instr.findKey,run_underlying hk,h0,h1],h2,h3⟩
theorem run_checkKey_ptr{P:Program}{k te:TypeId}{w:World}(hk:P.underlying k=some (.pointer te))(c:Bool)(v:Value):(Instr.checkKey c 10000 k v).run P w=.ok () w:=by
 have h:∀d:Nat,(Instr.checkKey c (d+1) k v).run P w=.ok () w:=fun d=>by
  simp [Instr.checkKey,run_underlying hk]
 exact h 9999
section
variable {P:Program} {t k te e:TypeId} {j:TypeInfo} {w:World} {b p:Nat} {l:List Nat}
theorem PSet.look(h:PSet w b l)(ht:P.underlying t=some (.map k e))(hk:P.underlying k=some (.pointer te))(hte:P.info? te=some j)(hsz:j.size≠0)(hz:(zeroValue e).run P w=.ok (.bool false) w)
  (hp:Alive w p) (hl:∀q∈l,Alive w q):(Instr.lookup t (.map (some b)) (ptrB p) false).run P w=.ok (.bool (decide (p∈l))) w:=by
 obtain⟨es,clock,hb,h1,h2⟩:=h
 have hes:∀e∈es.toList,∃q,e.key=ptrB q∧Alive w q:=fun e he=>by
  obtain⟨q,hq,hk,_⟩:=h1 e he
  exact⟨q,hk,hl q hq⟩
 rcases run_findKey_ptr hk hte hsz hp es.toList hes with ⟨hf,hn⟩ | ⟨m,e0,hf,hm,hke⟩
 ·have hno:p∉l:=fun hp=>by
   obtain⟨e0,he0,hk0⟩:=h2 p hp
   exact hn e0 he0 hk0
  simp [Instr.lookup,run_underlying ht,MapKept.run_getObj_map hb,Result.andThen,run_checkKey_ptr hk,hf,hz,hno]
 ·have he0:e0∈es.toList:=List.mem_of_getElem? hm
  obtain⟨q,hq,hk0,hv0⟩:=h1 e0 he0
  have :q=p:=ptrB_inj (hk0.symm.trans hke)
  subst this
  simp [Instr.lookup,run_underlying ht,MapKept.run_getObj_map hb,Result.andThen,run_checkKey_ptr hk,hf,hv0,hq]
theorem PSet.store(h:PSet w b l)(ht:P.underlying t=some (.map k e))(hk:P.underlying k=some (.pointer te))(hte:P.info? te=some j)(hsz:j.size≠0)
  (hp:Alive w p) (hl:∀q∈l,Alive w q):∃w',(Instr.mapUpdate t (.map (some b)) (ptrB p) (.bool true)).run P w=.ok () w'∧PSet w' b (p::l)∧w.grownBy w' (some b):=by
 obtain⟨es,clock,hb,h1,h2⟩:=h
 have hes:∀e∈es.toList,∃q,e.key=ptrB q∧Alive w q:=fun e he=>by
  obtain⟨q,hq,hk,_⟩:=h1 e he
  exact⟨q,hk,hl q hq⟩
 have hgrow:∀es' clock',w.grownBy (setBlock w b (.map es' clock')) (some b):=fun es' clock'=>
  ⟨rfl,rfl,rfl,by simp [setBlock],fun i _ hi=>heap_setBlock_other hb _ (fun e=>hi (by rw [e]))⟩
 rcases run_findKey_ptr hk hte hsz hp es.toList hes with ⟨hf,hn⟩ | ⟨m,e0,hf,hm,hke⟩
 ·refine⟨setBlock w b (.map (es.push {key:=ptrB p,val:=.bool true,born:=clock}) (clock+1)),?_,⟨_,_,heap_setBlock_same hb _,?_,?_⟩,hgrow _ _⟩
  ·simp [Instr.mapUpdate,run_underlying ht,MapKept.run_getObj_map hb,run_checkKey_ptr hk,hf,MapKept.run_setObj_map _ hb,Result.andThen,setBlock]
  ·intro e1 he1
   simp only [Array.toList_push,List.mem_append,List.mem_singleton]at he1
   rcases he1 with he1 | rfl
   ·obtain⟨q,hq,r⟩:=h1 e1 he1
    exact⟨q,by simp [hq],r⟩
   ·exact⟨p,by simp,rfl,rfl⟩
  ·intro q hq
   rcases List.mem_cons.1 hq with rfl | hq
   ·exact⟨_,by simp;exact .inr rfl,rfl⟩
   ·obtain⟨e1,he1,hk1⟩:=h2 q hq
    exact⟨e1,by simp [Array.mem_toList_iff.1 he1],hk1⟩
 ·have he0:e0∈es.toList:=List.mem_of_getElem? hm
  obtain⟨q,hq,hk0,hv0⟩:=h1 e0 he0
  have :q=p:=ptrB_inj (hk0.symm.trans hke)
  subst this
  have hm':es[m]? =some e0:=by simpa using hm
  refine⟨setBlock w b (.map (es.modify m fun e=>{e with key:=ptrB q,val:=.bool true}) clock),?_,⟨_,_,heap_setBlock_same hb _,?_,?_⟩,hgrow _ _⟩
  ·have hst:(Instr.keyThatStays (ptrB q) (ptrB q)).run P w=.ok (ptrB q) w:=by simp [Instr.keyThatStays,Instr.sameBits,ptrB]
   simp [Instr.mapUpdate,run_underlying ht,MapKept.run_getObj_map hb,run_checkKey_ptr hk,hf,MapKept.run_setObj_map _ hb,Result.andThen,setBlock,hm',hke,hst]
  ·intro e1 he1
   obtain⟨i,hi,rfl⟩:=List.getElem_of_mem he1
   simp only [Array.getElem_toList,Array.getElem_modify]
   split
   ·exact⟨q,by simp,rfl,rfl⟩
   ·have hmem:es[i]'(by simpa using hi)∈es.toList:=by simp
    obtain⟨q',hq',r⟩:=h1 _ hmem
    exact⟨q',by simp [hq'],r⟩
  ·intro q' hq'
   have hq1:q'∈l:=by
    rcases List.mem_cons.1 hq' with rfl | h
    ·exact hq
    ·exact h
   obtain⟨e1,he1,hk1⟩:=h2 q' hq1
   obtain⟨i,hi,rfl⟩:=List.getElem_of_mem he1
   have hi':i<(es.modify m fun e=>{e with key:=ptrB q,val:=.bool true}).size:=by simpa using hi
   refine⟨(es.modify m fun e=>{e with key:=ptrB q,val:=.bool true})[i],Array.mem_toList_iff.2 (Array.getElem_mem hi'),?_⟩
   rw [Array.getElem_modify]
   split
   ·rename_i hmi
    subst hmi
    have :es[m]'(by simpa using hi)=e0:=by
     have :=Array.getElem?_eq_getElem (xs:=es) (i:=m) (by simpa using hi)
     rw [hm']at this
     cases this;rfl
    have hk1':e0.key=ptrB q':=by rw [←this];simpa using hk1
    show ptrB q=ptrB q'
    rw [←hk0,hk1']
   ·simpa using hk1
end
end Go.Proofs.YtkdomegcacgpnaaGreat
namespace Go.Proofs.YtkdomegcacgpnaaGreat
open Go.RowKit
theorem run_makeMap_hint{P:Program}{t k e:TypeId}(ht:P.underlying t=some (.map k e))(n:Int)(w:World):(Instr.makeMap t (some (.int .i64 n))).run P w=.ok (.map (some w.heap.size)) (w.alloc (.map #[] 0)):=by
 simp [Instr.makeMap,run_underlying ht,asInt]
 rfl
theorem PSet.keep{w w':World}{b:Nat}{l:List Nat}(h:PSet w b l)(hb:w'.heap[b]? =w.heap[b]?):PSet w' b l:=by
 obtain⟨es,clock,h,r⟩:=h
 exact⟨es,clock,hb.trans h,r⟩
theorem PSet.congr{w:World}{b:Nat}{l l':List Nat}(h:PSet w b l)(hl:∀p,p∈l↔p∈l'):PSet w b l':=by
 obtain⟨es,clock,h,h1,h2⟩:=h
 refine⟨es,clock,h,fun e he=>?_,fun p hp=>h2 p ((hl p).2 hp)⟩
 obtain⟨p,hp,r⟩:=h1 e he
 exact⟨p,(hl p).1 hp,r⟩
theorem mem_nb{nb:Nat→Nat}{len p:Nat}{D:List Nat}(hinj:∀i j,i<len→j<len→nb i=nb j→i=j)(hp:p<len)(hD:∀i∈D,i<len):decide (nb p∈D.map nb)=decide (p∈D):=by
 congr 1
 apply propext
 constructor
 ·intro h
  obtain⟨q,hq,he⟩:=List.mem_map.1 h
  have :=hinj q p (hD q hq) hp he
  subst this
  exact hq
 ·intro h;exact List.mem_map_of_mem h
end Go.Proofs.YtkdomegcacgpnaaGreat
namespace Go.Proofs.YtkdomegcacgpnaaGreat
open Go.RowKit
set_option maxRecDepth 100000 in
set_option maxHeartbeats 2000000 in
theorem parNodesG_any{B n:Nat}(v:Value)(l:List Nat)(w:World){nb:Nat→Nat}{vv:Nat→Value}{lab:Nat→NodeD}{F:Wd}(hD:DomAt B w n nb vv lab F)(hW:WOk n F)(hg:∀x∈l,∃p,F.up x=some p∧(lab p).kind=3)
  (hv:PtrsOf w v (l.map nb)) (hn:l.length≤200):
  Calls Tryz.prog 129 #[v] w (OwnPtrsPost ((onceF (l.map (parK F))).map nb) w):=by
 obtain⟨a,cap,b,off,rfl,hm,ha,hc⟩:=ptrs_open hv
 rw [List.length_map]at ha hc hm ⊢
 have hb0:Below w.heap.size w (w.alloc (.map #[] 0)):=(Below.refl _ _).alloc (Nat.le_refl _) _
 have hs0:=PSet.made w
 obtain⟨w0,hw0⟩:∃w0,w.alloc (.map #[] 0)=w0:=⟨_,rfl⟩
 have hsz0:w.heap.size<w0.heap.size:=by rw [←hw0];simp
 rw [hw0]at hb0 hs0
 obtain⟨m,hmm⟩:∃m,w.heap.size=m:=⟨_,rfl⟩
 rw [hmm]at hs0 hsz0
 have HA:=Lib.hid ha
 have HC:=Lib.hid hc
 have HD:=Lib.hid hD
 have HW:=Lib.hid hW
 have HG:=Lib.hid hg
 have HS0:=Lib.hid (And.intro hb0 (And.intro hs0 hsz0))
 clear hv ha hc hD hW hg hb0 hs0 hsz0
 obtain⟨i0,hi,hz0,hz1,hz2⟩:=info_parts Tryz.infoPtr
 obtain⟨jn,hj,hjz⟩:=Tryz.node_info
 go_enter Tryz.func129,Tryz.ntmps129
 have hmk:=run_makeMap_hint (P:=Tryz.prog) Tryz.underlying108 (l.length:Int) w
 rw [hw0,hmm]at hmk
 go_wp2
 clear hmk
 go_loopw [3,13] (fun x i wr=>∃(k:Nat) (D:List Nat),i=.int .i64 k∧k≤l.length∧D.length≤k∧(onceF ((l.take k).map (parK F))).map nb=D∧OwnPtrs wr (m+1) x D∧PSet wr m D∧Below w.heap.size w wr)
  (fun _ i _=>l.length-(intOf i).toNat)
 case atStart=>exact⟨0,[],by go_num,by omega,by simp,rfl,World.ownsRow_nil _ _ _ _,HS0.out.2.1,HS0.out.1⟩
 case round=>
  obtain⟨k,D,rfl,hk,hdl,hdone,hown,hps,hbel⟩:=hrel
  by_cases hlt:k<l.length
  ·obtain rfl:=HA.out (by omega)
   obtain⟨p,hup,hk3⟩:=HG.out _ (getD_mem' (d:=0) hlt)
   have ck0:=HC.out k hlt
   have e1:(l.map nb).getD k 0=nb (l.getD k 0):=by simp [List.getD,hlt]
   rw [e1]at ck0
   have ck:=cell_below hbel ck0
   obtain⟨hpl,hx⟩:=HW.out.lt p _ ((HW.out.iff p _).2 hup)
   have htk:onceF ((l.take (k+1)).map (parK F))=if p∈onceF ((l.take k).map (parK F))then onceF ((l.take k).map (parK F))else onceF ((l.take k).map (parK F))++[p]:=by
    rw [take_snoc hlt,List.map_append,List.map_cons,List.map_nil,onceF_snoc]
    have e:parK F (l.getD k 0)=p:=by unfold parK;rw [hup];rfl
    rw [e]
   obtain⟨x,hxx⟩:∃x,l.getD k 0=x:=⟨_,rfl⟩
   rw [hxx]at ck hup hx
   have hD1:=HD.out.below hbel
   have kp:=(hD1.node x hx).par
   rw [show(linkR F nb (lab x) (vv x) x).par=some (nb p) by simp [linkR,hup],lk_some]at kp
   have kt:=(hD1.node p hpl).ty
   rw [show(linkR F nb (lab p) (vv p) p).ty=3 by show tyOf (lab p).kind=3;rw [hk3];rfl]at kt
   have hkI:(k:Int)<(l.length:Int):=by omega
   have hml:=hps.lt
   have hDl:∀i∈onceF ((l.take k).map (parK F)),i<n:=fun i hi=>by
    obtain⟨y,hy,rfl⟩:=List.mem_map.1 (onceF_mem.1 hi)
    obtain⟨q,hq,_⟩:=HG.out y (List.mem_of_mem_take hy)
    have e:parK F y=q:=by unfold parK;rw [hq];rfl
    rw [e]
    exact(HW.out.lt q y ((HW.out.iff q y).2 hq)).1
   have hmem:=mem_nb (nb:=nb) hD1.inj hpl hDl
   rw [hdone]at hmem
   have hal:Alive wr (nb p):=(hD1.node p hpl).alive
   have halD:∀q∈D,Alive wr q:=fun q hq=>by
    rw [←hdone]at hq
    obtain⟨i,hi,rfl⟩:=List.mem_map.1 hq
    exact(hD1.node i (hDl i hi)).alive
   have hlook:=PSet.look (P:=Tryz.prog) (t:=108) hps Tryz.underlying108 Tryz.underlying75 hj hjz rfl hal halD
   unfold ptrB at hlook
   rw [hmem]at hlook
   by_cases hin:p∈onceF ((l.take k).map (parK F))
   ·rw [decide_eq_true hin]at hlook
    have H:=Lib.hid (And.intro ((show(onceF ((l.take (k+1)).map (parK F))).map nb=D by rw [htk,if_pos hin];exact hdone)) (And.intro hown (And.intro hps hbel)))
    clear htk hdone hown hps hbel hD1 hup ck0 e1 hxx hmem hal halD hDl hk3 hin
    go_wp2
    go_roundw
    case rel=>exact⟨k+1,D,by go_num,by omega,by omega,H.out.1,H.out.2.1,H.out.2.2.1,H.out.2.2.2⟩
    case measure=>simp [intOf];omega
   ·rw [decide_eq_false hin]at hlook
    obtain⟨wu,hupd,hpsu,hgu⟩:=PSet.store (P:=Tryz.prog) (t:=108) hps Tryz.underlying108 Tryz.underlying75 hj hjz hal halD
    unfold ptrB at hupd
    have hrow:∀q,u3.ownBlock=some q→m+1≤q∧q<wr.heap.size:=fun q hq=>World.ownsRow.lt hown q hq
    have hownu:wu.ownsRow (m+1) 75 1 u3 D.length (D.map ptrV):=ownsRow_kept hown (fun q hq=>hgu.block q (hrow q hq).2 (fun e=>by have :=(hrow q hq).1;simp at e;omega))
    have hbelu:Below w.heap.size w wu:=hbel.grown hgu hbel.size (fun q hq=>by simp at hq;omega)
    have hszu:m+1≤wu.heap.size:=hpsu.lt
    have hnd:(onceF ((l.take (k+1)).map (parK F))).map nb=D++[nb p]:=by rw [htk,if_neg hin,List.map_append,hdone];rfl
    have HU:=Lib.hid (And.intro hpsu (And.intro hbelu (And.intro hrow hnd)))
    clear htk hdone hown hps hbel hD1 hup ck0 e1 hxx hmem hal halD hDl hk3 hin hgu hpsu hbelu hnd hrow
    go_wp2_with (at_builtin;refine wpList_append_own _ rfl _ _ 48 rfl (m+1) 75 i0 (.pointer none) 1 8 Tryz.underlying48 hi hz0 hz1 hz2 rfl (by decide) _ _ _ rfl (hownu.alloc _) ⟨wu.heap.size,0,none⟩ 1 1 [.pointer (some ⟨nb p,0,none⟩)] rfl rfl ?c1 ?c2 ?c3 ?c4 ?c5 ?_)
    case c2=>rfl
    case c3=>unfold maxLen;omega
    case c4=>omega
    case c5=>first | omega | (simp;omega)
    intro v' w1 hown2 hgrow _
    have hsn:=ownPtrs_snoc (k:=nb p) hown2
    have hb1:Below wu.heap.size wu (wu.alloc (.cells #[.pointer (some ⟨nb p,0,none⟩)] 75)):=(Below.refl _ _).alloc (Nat.le_refl _) _
    have hps1:PSet w1 m (nb p::D):=(HU.out.1.below hb1).keep (hgrow.block m (by have :=hb1.size;omega) (fun e=>by
     have h1:=World.ownsRow.lt hownu m e.symm
     omega))
    have hbel1:Below w.heap.size w w1:=(HU.out.2.1.alloc HU.out.2.1.size _).grown hgrow (by have :=HU.out.2.1.size;have :=hb1.size;omega) (fun q hq=>by
     have h1:=(World.ownsRow.lt hownu q hq).1
     omega)
    have hps2:PSet w1 m (D++[nb p]):=hps1.congr (fun q=>by simp [or_comm])
    have H1:=Lib.hid (And.intro hsn (And.intro hps2 hbel1))
    clear hown2 hgrow hsn hb1 hps1 hbel1 hps2 hownu
    go_wp2
    go_roundw
    case rel=>exact⟨k+1,D++[nb p],by go_num,by omega,by simp;omega,HU.out.2.2.2,H1.out.1,H1.out.2.1,H1.out.2.2⟩
    case measure=>simp [intOf];omega
  ·obtain rfl:k=l.length:=by omega
   have hd:=hdone
   rw [List.take_length]at hd
   have HO:Hid (OwnPtrs wr w.heap.size u3 ((onceF (l.map (parK F))).map nb)):=Lib.hid (by rw [hd];exact ownsRow_base hown (by omega))
   have HB:=Lib.hid hbel
   clear hdone hd hown hps hbel hlt
   go_wp2
   go_ret
   exact⟨_,rfl,HO,HB⟩
set_option maxRecDepth 100000 in
set_option maxHeartbeats 1000000 in
theorem selParentG_any{B B' n:Nat}(s:Nat)(v:Value)(l:List Nat)(w:World){nb:Nat→Nat}{vv:Nat→Value}{lab:Nat→NodeD}{F:Wd}(hs:SelAt w s v (l.map nb) B)(hD:DomAt B' w n nb vv lab F)(hW:WOk n F)(hg:∀x∈l,∃p,F.up x=some p∧(lab p).kind=3)(hn:l.length≤200):
  Calls Tryz.prog 88 #[.pointer (some ⟨s,0,none⟩)] w (SelPost ((onceF (l.map (parK F))).map nb) w):=by
 have hp:=parNodesG_any v l w hD hW hg hs.own.ptrs hn
 obtain⟨L,hL⟩:∃L,(onceF (l.map (parK F))).map nb=L:=⟨_,rfl⟩
 rw [hL]at hp ⊢
 obtain⟨d,hd⟩:=hs.doc
 have c0:=hs.nodes
 have HP:=Lib.hid hp
 have HD:=Lib.hid hd
 clear hp hs hD hW hg hd hL
 go_enter Tryz.func88,Tryz.ntmps88
 go_wp2_with fail
 refine HP.out.mono ?_
 rintro e w1 ⟨v',rfl,ho,hb⟩
 have c1':=cell_below hb.out HD.out
 have c0':=cell_below hb.out c0
 obtain⟨a',cap',hv,_⟩:=ho.out.ptrs.nil
 rw [List.length_map]at hv
 subst hv
 clear HP HD
 go_wp2
 go_ret
 refine⟨w1.heap.size,.slice a' L.length cap',rfl,Lib.hid ⟨?_,⟨d,?_⟩,?_,hb.out.size⟩,Lib.hid ?_⟩
 ·exact cell_alloc_new' _ _ _ (by simp) rfl
 ·exact cell_alloc_new' _ _ _ (by simp) rfl
 ·exact ho.out.alloc _
 ·exact hb.out.alloc hb.out.size _
end Go.Proofs.YtkdomegcacgpnaaGreat
