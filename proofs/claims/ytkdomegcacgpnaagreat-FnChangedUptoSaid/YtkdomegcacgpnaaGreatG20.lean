/- Parts of a proof: MvPure, ManipFun, Manip, FirstEl, OneSel, ManyLaw. -/
import Derived.Test.YtkdomegcacgpnaaGreatG08
import Derived.Test.YtkdomegcacgpnaaGreatG01
import Derived.Test.YtkdomegcacgpnaaGreatG18
import Derived.Test.YtkdomegcacgpnaaGreatG13
import Derived.Test.YtkdomegcacgpnaaGreatG06
import Derived.StillTailTactics
import Derived.Test.YtkdomegcacgpnaaGreatG15
import Derived.Test.YtkdomegcacgpnaaGreatG19
import Derived.Test.YtkdomegcacgpnaaGreatG14
set_option linter.unusedVariables false
set_option linter.unusedSimpArgs false
namespace Go.Proofs.YtkdomegcacgpnaaGreat
def mv(F:Wd)(p:Nat)(A0 B0 T:List Nat):Wd:=(F.off T).ins p (offL T A0) T (offL T B0)
theorem mv_nil{F:Wd}{p:Nat}{A0 B0:List Nat}(h:F.kids p=A0++B0):mv F p A0 B0 []=F:=by
 unfold mv
 rw [off_nil,offL_nil,offL_nil,ins_nil h]
theorem mv_step{n:Nat}{F:Wd}(hF:WOk n F){p:Nat}(hp:p<n){A0 B0:List Nat}(h0:F.kids p=A0++B0){T W:List Nat}(hTW:∀y∈T,y∈W)(hW:∀v∈W,¬Anc F v p){v:Nat}(hv:v∈W)(hvT:v∉T)(hvn:v<n)(hG:WOk n (mv F p A0 B0 T)):
  WOk n ((mv F p A0 B0 T).cut v)∧((mv F p A0 B0 T).cut v).up v=none∧v≠p∧((mv F p A0 B0 T).cut v).kids p=(offL (T++[v]) A0++T)++offL (T++[v]) B0∧
   ((mv F p A0 B0 T).cut v).put p (offL (T++[v]) A0++T).length v=mv F p A0 B0 (T++[v])∧WOk n (mv F p A0 B0 (T++[v])):=by
 obtain⟨h1,h2,h3,h4⟩:=move_ok hF hp h0 (fun y=>Iff.rfl) hTW hW hv hvT hvn hG
 have hu:((mv F p A0 B0 T).cut v).up v=none:=by simp [Wd.cut]
 have hput:((mv F p A0 B0 T).cut v).put p (offL (T++[v]) A0++T).length v=mv F p A0 B0 (T++[v]):=by
  unfold mv
  rw [h2,List.length_append,ins_put]
 refine⟨h1,hu,h4,?_,hput,?_⟩
 ·unfold mv
  rw [h2]
  simp [Wd.ins]
 ·rw [←hput]
  exact h1.put _ hp hvn hu h3
theorem mv_all{n:Nat}{F:Wd}(hF:WOk n F){p:Nat}(hp:p<n){A0 B0:List Nat}(h0:F.kids p=A0++B0){ws:List Nat}(hW:∀v∈ws,¬Anc F v p)(hnd:ws.Nodup)(hlt:∀v∈ws,v<n):WOk n (mv F p A0 B0 ws):=by
 have key:∀k,k≤ws.length→WOk n (mv F p A0 B0 (ws.take k)):=by
  intro k
  induction k with
  | zero=>intro _;rw [List.take_zero,mv_nil h0];exact hF
  | succ k ih=>
   intro hk
   have hG:=ih (by omega)
   have hlt2:k<ws.length:=by omega
   have hyT:ws.getD k 0∉ws.take k:=fun hm=>by
    have h4:=hnd
    rw [←List.take_append_drop k ws,List.nodup_append]at h4
    refine h4.2.2 _ hm _ ?_ rfl
    rw [List.drop_eq_getElem_cons hlt2,List.getD_eq_getElem?_getD,List.getElem?_eq_getElem hlt2]
    exact List.mem_cons_self ..
   have hy:=getD_mem' (d:=0) hlt2
   have h5:=mv_step hF hp h0 (T:=ws.take k) (W:=ws) (fun q hq=>List.mem_of_mem_take hq) hW hy hyT (hlt _ hy) hG
   rw [take_snoc hlt2]
   exact h5.2.2.2.2.2
 have :=key ws.length (Nat.le_refl _)
 rwa [List.take_length]at this
theorem mv_up{F:Wd}{p:Nat}{A0 B0 ws:List Nat}(y:Nat):(mv F p A0 B0 ws).up y=if y∈ws then some p else F.up y:=by
 by_cases h:y∈ws
 ·simp only [mv,Wd.ins,if_pos h]
 ·simp only [mv,Wd.ins,Wd.off,if_neg h]
theorem mv_kids{F:Wd}{p:Nat}{A0 B0 ws:List Nat}:(mv F p A0 B0 ws).kids p=offL ws A0++(ws++offL ws B0):=by simp only [mv,Wd.ins,if_pos]
end Go.Proofs.YtkdomegcacgpnaaGreat
namespace Go.Proofs.YtkdomegcacgpnaaGreat
open Go.RowKit
theorem own_nodes{w:World}{B:Nat}{g cap:Nat}{nb:Nat→Nat}{l:List Nat}(h:w.ownsRow B 75 1 (.slice (some ⟨g,0,none⟩) l.length cap) l.length (l.map fun y=>ptrV (nb y))):∀i,i<l.length→w.cell? ⟨g,i,none⟩=some (.pointer (some ⟨nb (l.getD i 0),0,none⟩)):=own_krow h
set_option maxRecDepth 100000 in
set_option maxHeartbeats 1000000 in
theorem size_any(s:Nat)(a:Option Addr)(L cap:Nat)(w:World)(h:w.cell? ⟨s,0,none⟩=some (.slice a L cap)):
  Calls Tryz.prog 127 #[.pointer (some ⟨s,0,none⟩)] w (fun e w'=>e=.returned (.int .i64 (L:Int))∧w=w'):=by
 have hl:Calls Tryz.prog 139 #[.pointer (some ⟨s,0,none⟩)] w (fun e w'=>e=.returned (.int .i64 (L:Int))∧w=w'):=by
  go_enter Tryz.func139,Tryz.ntmps139
  go_wp2
  go_ret
  exact⟨rfl,rfl⟩
 have HL:=Lib.hid hl
 clear hl h
 go_enter Tryz.func127,Tryz.ntmps127
 go_wp2_with fail
 refine HL.out.mono ?_
 rintro e w1 ⟨rfl,rfl⟩
 go_wp2
 go_ret
 exact⟨rfl,rfl⟩
set_option maxRecDepth 100000 in
set_option maxHeartbeats 1000000 in
theorem fun_append{B n:Nat}{w:World}{nb:Nat→Nat}{v:Nat→Value}{lab:Nat→NodeD}{G:Wd}(h:DomAt B w n nb v lab G)(hG:WOk n G){x p y:Nat}(hpx:p=x)(hp:p<n)(hy:y<n)(hyp:y≠p)(hu:G.up y=none){A Bk:List Nat}(hl:G.kids p=A++Bk)(hB:Bk=[]):
  Calls Tryz.prog 81 #[.pointer (some ⟨nb x,0,none⟩),.pointer (some ⟨nb y,0,none⟩)] w (TurnPost B n nb v lab (G.put p A.length y) w):=by
 subst hB
 have hap:=appendDom_any h hG hp hy hyp hu
 rw [hl,List.append_nil,hpx]at hap
 rw [hpx]
 have HAP:=Lib.hid hap
 clear hap h hG hl hu
 go_enter Tryz.func81,Tryz.ntmps81
 go_wp2_with fail
 refine HAP.out.mono ?_
 rintro e w1 ⟨rfl,hd,ho⟩
 go_wp2
 go_end0
 exact⟨rfl,hd,ho⟩
set_option maxRecDepth 100000 in
set_option maxHeartbeats 1000000 in
theorem fun_before{B n:Nat}{w:World}{nb:Nat→Nat}{v:Nat→Value}{lab:Nat→NodeD}{G:Wd}(h:DomAt B w n nb v lab G)(hG:WOk n G){x p y:Nat}(hpx:G.up x=some p)(hp:p<n)(hy:y<n)(hyp:y≠p)(hu:G.up y=none){A Bk:List Nat}(hl:G.kids p=A++Bk)(hB:∃b,Bk=x::b):
  Calls Tryz.prog 86 #[.pointer (some ⟨nb x,0,none⟩),.pointer (some ⟨nb y,0,none⟩)] w (TurnPost B n nb v lab (G.put p A.length y) w):=by
 obtain⟨b,rfl⟩:=hB
 have hins:=insertBefore_any h hG hp hy hyp hu A (x::b) hl
 simp only [List.head?_cons,Option.map_some]at hins
 have hxn:=(hG.ltUp hpx).1
 have c0:=(h.node x hxn).par
 have e0:(linkR G nb (lab x) (v x) x).par=some (nb p):=by simp [linkR,hpx]
 rw [e0,lk_some]at c0
 have HI:=Lib.hid hins
 clear hins h hG hl hu hpx e0
 go_enter Tryz.func86,Tryz.ntmps86
 go_wp2_with fail
 refine HI.out.mono ?_
 rintro e w1 ⟨rfl,hd,ho⟩
 go_wp2
 go_end0
 exact⟨rfl,hd,ho⟩
def swp(ws:List Nat)(k q:Nat):Nat:=if q<k∨ws.length-k≤q then ws.getD (ws.length-1-q) 0 else ws.getD q 0
theorem swp_zero{ws:List Nat}{q:Nat}(hq:q<ws.length):swp ws 0 q=ws.getD q 0:=by
 unfold swp
 rw [if_neg (by omega)]
theorem swp_succ{ws:List Nat}{k:Nat}(h:2*k+1<ws.length){q:Nat}(hq:q<ws.length):swp ws (k+1) q=if q=ws.length-1-k then swp ws k k else if q=k then swp ws k (ws.length-1-k)else swp ws k q:=by
 unfold swp
 by_cases h1:q=ws.length-1-k
 ·subst h1
  rw [if_pos rfl,if_pos (by omega),if_neg (by omega),show ws.length-1-(ws.length-1-k)=k by omega]
 ·rw [if_neg h1]
  by_cases h2:q=k
  ·subst h2
   rw [if_pos rfl,if_pos (by omega),if_neg (by omega)]
  ·rw [if_neg h2]
   by_cases h3:q<k∨ws.length-k≤q
   ·rw [if_pos h3,if_pos (by omega)]
   ·rw [if_neg h3,if_neg (by omega)]
theorem swp_end{ws:List Nat}{k:Nat}(h:ws.length≤2*k+1){q:Nat}(hq:q<ws.length):swp ws k q=ws.reverse.getD q 0:=by
 have e:ws.reverse.getD q 0=ws.getD (ws.length-1-q) 0:=by
  rw [List.getD_eq_getElem?_getD,List.getD_eq_getElem?_getD,List.getElem?_reverse hq]
 rw [e]
 unfold swp
 by_cases h3:q<k∨ws.length-k≤q
 ·rw [if_pos h3]
 ·rw [if_neg h3,show ws.length-1-q=q by omega]
theorem set_range(m i:Nat)(u:Value)(f:Nat→Value):((List.range m).map f).set i u=(List.range m).map fun q=>if q=i then u else f q:=by
 apply List.ext_getElem?
 intro j
 rw [List.getElem?_set]
 by_cases e:i=j
 ·subst e
  by_cases h:i<m
  ·simp [h]
  ·simp [h]
 ·rw [if_neg e]
  by_cases h:j<m
  ·simp [h,Ne.symm e]
  ·simp [h]
theorem row_range{ws:List Nat}{nb:Nat→Nat}:(ws.map fun y=>ptrV (nb y))=(List.range ws.length).map fun q=>ptrV (nb (ws.getD q 0)):=by
 apply List.ext_getElem?
 intro j
 by_cases h:j<ws.length
 ·simp [h]
 ·simp [h]
theorem rev_step{ws:List Nat}{nb:Nat→Nat}{k:Nat}(h:2*k+1<ws.length):(((List.range ws.length).map fun q=>ptrV (nb (swp ws k q))).set k (ptrV (nb (swp ws k (ws.length-1-k))))).set (ws.length-1-k) (ptrV (nb (swp ws k k)))=(List.range ws.length).map fun q=>ptrV (nb (swp ws (k+1) q)):=by
 rw [set_range,set_range]
 refine List.map_congr_left (fun q hq=>?_)
 rw [swp_succ h (List.mem_range.1 hq)]
 by_cases h1:q=ws.length-1-k
 ·rw [if_pos h1,if_pos h1]
 ·rw [if_neg h1,if_neg h1]
  by_cases h2:q=k
  ·rw [if_pos h2,if_pos h2]
  ·rw [if_neg h2,if_neg h2]
theorem rev_step2{ws:List Nat}{nb:Nat→Nat}{k J b1 b2:Nat}(h:2*k+1<ws.length)(hJ:ws.length-1-k=J)(h1:nb (swp ws k k)=b1)(h2:nb (swp ws k J)=b2):(((List.range ws.length).map fun q=>ptrV (nb (swp ws k q))).set k (ptrV b2)).set J (ptrV b1)=(List.range ws.length).map fun q=>ptrV (nb (swp ws (k+1) q)):=by
 subst hJ h1 h2
 exact rev_step h
theorem nodup_rev{l:List Nat}(h:l.Nodup):l.reverse.Nodup:=by
 unfold List.Nodup at *
 rw [List.pairwise_reverse]
 exact h.imp Ne.symm
theorem rev_end{ws:List Nat}{nb:Nat→Nat}{k:Nat}(h:ws.length≤2*k+1):((List.range ws.length).map fun q=>ptrV (nb (swp ws k q)))=ws.reverse.map fun y=>ptrV (nb y):=by
 rw [row_range (ws:=ws.reverse),List.length_reverse]
 refine List.map_congr_left (fun q hq=>?_)
 rw [swp_end h (List.mem_range.1 hq)]
def mvA(F:Wd)(p:Nat)(A0 B0 T:List Nat):Wd:=(F.off T).ins p (offL T A0) T.reverse (offL T B0)
theorem mvA_nil{F:Wd}{p:Nat}{A0 B0:List Nat}(h:F.kids p=A0++B0):mvA F p A0 B0 []=F:=by
 unfold mvA
 rw [off_nil,offL_nil,offL_nil,List.reverse_nil,ins_nil h]
theorem mvA_end(F:Wd)(p:Nat)(A0 B0 ws:List Nat):mvA F p A0 B0 ws.reverse=mv F p A0 B0 ws:=by
 have hm:∀y,y∈ws.reverse↔y∈ws:=fun y=>List.mem_reverse
 unfold mvA mv
 rw [List.reverse_reverse,off_congr F hm,offL_congr hm,offL_congr hm]
theorem mvA_step{n:Nat}{F:Wd}(hF:WOk n F){p:Nat}(hp:p<n){A0 B0:List Nat}(h0:F.kids p=A0++B0){T W:List Nat}(hTW:∀y∈T,y∈W)(hW:∀v∈W,¬Anc F v p){v:Nat}(hv:v∈W)(hvT:v∉T)(hvn:v<n)(hG:WOk n (mvA F p A0 B0 T)):
  WOk n ((mvA F p A0 B0 T).cut v)∧((mvA F p A0 B0 T).cut v).up v=none∧v≠p∧((mvA F p A0 B0 T).cut v).kids p=offL (T++[v]) A0++(T.reverse++offL (T++[v]) B0)∧
   ((mvA F p A0 B0 T).cut v).put p (offL (T++[v]) A0).length v=mvA F p A0 B0 (T++[v])∧WOk n (mvA F p A0 B0 (T++[v])):=by
 obtain⟨h1,h2,h3,h4⟩:=move_ok hF hp h0 (T:=T) (T':=T.reverse) (fun y=>List.mem_reverse.symm) hTW hW hv hvT hvn hG
 have hu:((mvA F p A0 B0 T).cut v).up v=none:=by simp [Wd.cut]
 have hput:((mvA F p A0 B0 T).cut v).put p (offL (T++[v]) A0).length v=mvA F p A0 B0 (T++[v]):=by
  unfold mvA
  rw [h2,ins_put_front,List.reverse_append]
  rfl
 refine⟨h1,hu,h4,?_,hput,?_⟩
 ·unfold mvA
  rw [h2]
  simp [Wd.ins]
 ·rw [←hput]
  exact h1.put _ hp hvn hu h3
set_option maxRecDepth 100000 in
set_option maxHeartbeats 1000000 in
theorem fun_after{B n:Nat}{w:World}{nb:Nat→Nat}{v:Nat→Value}{lab:Nat→NodeD}{G:Wd}(h:DomAt B w n nb v lab G)(hG:WOk n G){x p y:Nat}(hpx:G.up x=some p)(hp:p<n)(hy:y<n)(hyp:y≠p)(hu:G.up y=none){A A1 Bk:List Nat}(hl:G.kids p=A++Bk)(hA:A=A1++[x]):
  Calls Tryz.prog 85 #[.pointer (some ⟨nb x,0,none⟩),.pointer (some ⟨nb y,0,none⟩)] w (TurnPost B n nb v lab (G.put p A.length y) w):=by
 have hd:DomAt B w.drew n nb v lab G:=h.below (Below.refl _ _).drew
 have hins:=insertBefore_any hd hG hp hy hyp hu A Bk hl
 have hxn:=(hG.ltUp hpx).1
 have c0:=(h.node x hxn).par
 have c4:=(h.node x hxn).nxt
 have e0:(linkR G nb (lab x) (v x) x).par=some (nb p):=by simp [linkR,hpx]
 have hxA:x∉A1:=fun hm=>by
  have h1:=hG.nd p
  rw [hl,hA,List.append_assoc]at h1
  exact(nd_parts h1).1 hm
 have e4:(linkR G nb (lab x) (v x) x).nxt=Bk.head?.map nb:=by
  simp only [linkR,hpx,Option.bind_some,hl,hA,List.append_assoc]
  rw [show [x]++Bk=x::Bk from rfl,nxtIn_app A1 hxA]
 rw [e0,lk_some]at c0
 rw [e4]at c4
 have e5:lk (Bk.head?.map nb)=.pointer (Bk.head?.map fun r=>(⟨nb r,0,none⟩:Addr)):=by cases Bk <;> rfl
 rw [e5]at c4
 obtain⟨o,ho⟩:∃o,(Bk.head?.map fun r=>(⟨nb r,0,none⟩:Addr))=o:=⟨_,rfl⟩
 rw [ho]at c4 hins
 have HI:=Lib.hid hins
 clear hins h hd hG hl hu hpx e0 e4 e5 hA ho
 go_enter Tryz.func85,Tryz.ntmps85
 go_wp2
 go_still_tail 9,(by kernel_rfl)
 go_wp2_with fail
 refine HI.out.mono ?_
 rintro e w1 ⟨rfl,hd,ho⟩
 have ho2:Hid (OnlyN n nb w w1):=Lib.hid ((show OnlyN n nb w w.drew from⟨rfl,fun _ _=>rfl,fun _ _=>(Below.refl _ _).drew⟩).trans ho.out)
 go_wp2
 go_end0
 exact⟨rfl,hd,ho2⟩
theorem row_cell{w:World}{B:Nat}{e:TypeId}{g L cap m:Nat}{f:Nat→Nat}(h:w.ownsRow B e 1 (.slice (some ⟨g,0,none⟩) L cap) m ((List.range m).map fun q=>ptrV (f q))){i:Nat}(hi:i<m):w.cell? ⟨g,i,none⟩=some (.pointer (some ⟨f i,0,none⟩)):=by
 have :=h.cells (g:=g) rfl i (ptrV (f i)) (by simp [hi])
 rwa [show(⟨g,0,none⟩:Addr).add i=⟨g,i,none⟩ by unfold Addr.add;split <;> simp_all]at this
set_option maxRecDepth 100000 in
set_option maxHeartbeats 1000000 in
theorem fun_prepend{B n:Nat}{w:World}{nb:Nat→Nat}{v:Nat→Value}{lab:Nat→NodeD}{G:Wd}(h:DomAt B w n nb v lab G)(hG:WOk n G){x p y:Nat}(hpx:p=x)(hp:p<n)(hy:y<n)(hyp:y≠p)(hu:G.up y=none){A Bk:List Nat}(hl:G.kids p=A++Bk)(hA:A=[]):
  Calls Tryz.prog 83 #[.pointer (some ⟨nb x,0,none⟩),.pointer (some ⟨nb y,0,none⟩)] w (TurnPost B n nb v lab (G.put p A.length y) w):=by
 subst hA hpx
 have hins:=insertBefore_any h hG hp hy hyp hu [] Bk hl
 have c1:=(h.node p hp).fst
 have e1:(linkR G nb (lab p) (v p) p).fst=Bk.head?.map nb:=by simp only [linkR,hl,List.nil_append]
 rw [e1]at c1
 have e5:lk (Bk.head?.map nb)=.pointer (Bk.head?.map fun r=>(⟨nb r,0,none⟩:Addr)):=by cases Bk <;> rfl
 rw [e5]at c1
 obtain⟨o,ho⟩:∃o,(Bk.head?.map fun r=>(⟨nb r,0,none⟩:Addr))=o:=⟨_,rfl⟩
 rw [ho]at c1 hins
 have HI:=Lib.hid hins
 clear hins h hG hl hu e1 e5 ho
 go_enter Tryz.func83,Tryz.ntmps83
 go_wp2_with fail
 refine HI.out.mono ?_
 rintro e w1 ⟨rfl,hd,ho⟩
 go_wp2
 go_end0
 exact⟨rfl,hd,ho⟩
def rvL(rv:Bool)(l:List Nat):List Nat:=if rv then l.reverse else l
def rvAt(rv:Bool)(A U:List Nat):Nat:=if rv then A.length else A.length+U.length
theorem rvL_map(rv:Bool)(f:Nat→Nat)(l:List Nat):rvL rv ((rvL rv l).map f)=l.map f:=by cases rv <;> simp [rvL]
theorem rvL_mem{rv:Bool}{l:List Nat}{y:Nat}:y∈rvL rv l↔y∈l:=by cases rv <;> simp [rvL]
theorem rvL_len(rv:Bool)(l:List Nat):(rvL rv l).length=l.length:=by cases rv <;> simp [rvL]
theorem rvL_nd{rv:Bool}{l:List Nat}(h:l.Nodup):(rvL rv l).Nodup:=by
 cases rv
 ·exact h
 ·exact nodup_rev h
theorem ins_rv(rv:Bool)(H:Wd)(p:Nat)(A T B:List Nat)(w:Nat):(H.ins p A (rvL rv T) B).put p (rvAt rv A (rvL rv T)) w=H.ins p A (rvL rv (T++[w])) B:=by
 cases rv
 ·exact ins_put H p A T B w
 ·show(H.ins p A T.reverse B).put p A.length w=H.ins p A (T++[w]).reverse B
  rw [ins_put_front,List.reverse_append]
  rfl
def mvR(rv:Bool)(F:Wd)(p:Nat)(A0 B0 T:List Nat):Wd:=(F.off T).ins p (offL T A0) (rvL rv T) (offL T B0)
theorem mvR_nil{rv:Bool}{F:Wd}{p:Nat}{A0 B0:List Nat}(h:F.kids p=A0++B0):mvR rv F p A0 B0 []=F:=by
 cases rv
 ·exact mv_nil h
 ·exact mvA_nil h
theorem mvR_end(rv:Bool)(F:Wd)(p:Nat)(A0 B0 ws:List Nat):mvR rv F p A0 B0 (rvL rv ws)=mv F p A0 B0 ws:=by
 cases rv
 ·rfl
 ·exact mvA_end F p A0 B0 ws
theorem mvR_step{rv:Bool}{n:Nat}{F:Wd}(hF:WOk n F){p:Nat}(hp:p<n){A0 B0:List Nat}(h0:F.kids p=A0++B0){T W:List Nat}(hTW:∀y∈T,y∈W)(hW:∀v∈W,¬Anc F v p){v:Nat}(hv:v∈W)(hvT:v∉T)(hvn:v<n)(hG:WOk n (mvR rv F p A0 B0 T)):
  WOk n ((mvR rv F p A0 B0 T).cut v)∧((mvR rv F p A0 B0 T).cut v).up v=none∧v≠p∧((mvR rv F p A0 B0 T).cut v).kids p=offL (T++[v]) A0++(rvL rv T++offL (T++[v]) B0)∧
   ((mvR rv F p A0 B0 T).cut v).put p (rvAt rv (offL (T++[v]) A0) (rvL rv T)) v=mvR rv F p A0 B0 (T++[v])∧WOk n (mvR rv F p A0 B0 (T++[v])):=by
 cases rv
 ·obtain⟨h1,h2,h3,h4,h5,h6⟩:=mv_step hF hp h0 hTW hW hv hvT hvn hG
  refine⟨h1,h2,h3,by rw [←List.append_assoc];exact h4,?_,h6⟩
  rw [List.length_append]at h5
  exact h5
 ·obtain⟨h1,h2,h3,h4,h5,h6⟩:=mvA_step hF hp h0 hTW hW hv hvT hvn hG
  exact⟨h1,h2,h3,h4,h5,h6⟩
def CloIs(op:Int)(rv:Bool)(cl:Value):Prop:=
 (op=1∧rv=false∧cl=.func (.func 81) #[] #[])∨
 (op=4∧rv=false∧cl=.func (.func 86) #[] #[])∨
 (op=2∧rv=true∧cl=.func (.func 83) #[] #[])∨
 (op=3∧rv=true∧cl=.func (.func 85) #[] #[])
structure CloPre (op:Int) (H:Wd) (x p:Nat) (A U Bk:List Nat):Prop where
 kids:H.kids p=A++(U++Bk)
 way:(op=1∧p=x∧Bk=[])∨(op=2∧p=x∧A=[])∨(op=3∧H.up x=some p∧∃a,A=a++[x])∨(op=4∧H.up x=some p∧∃b,Bk=x::b)
theorem Target.clo{op:Int}{lab:Nat→NodeD}{G H:Wd}{x p:Nat}{A B U T:List Nat}(h:Target op lab G x p A B)(hx:x∉T)(hu:H.up x=G.up x)(hk:H.kids p=offL T A++(U++offL T B)):CloPre op H x p (offL T A) U (offL T B):=by
 refine⟨hk,?_⟩
 rcases h.2 with ⟨h1,h2,h3,_⟩ | ⟨h1,h2,a,h3⟩ | ⟨h1,h2,b,h3⟩ | ⟨h1,h2,h3,_⟩
 ·exact .inl ⟨h1,h2,by rw [h3];rfl⟩
 ·exact .inr (.inr (.inl ⟨h1,by rw [hu];exact h2,offL T a,by rw [h3,offL_append,offL_keep hx]⟩))
 ·exact .inr (.inr (.inr ⟨h1,by rw [hu];exact h2,offL T b,by rw [h3,offL_cons hx]⟩))
 ·exact .inr (.inl ⟨h1,h2,by rw [h3];rfl⟩)
theorem fun_1{B n:Nat}{w:World}{nb:Nat→Nat}{v:Nat→Value}{lab:Nat→NodeD}{G:Wd}(h:DomAt B w n nb v lab G)(hG:WOk n G){op:Int}(ho:op=1){rv:Bool}(hr:rv=false){x p y:Nat}{A U Bk:List Nat}(hc:CloPre op G x p A U Bk)(hp:p<n)(hy:y<n)(hyp:y≠p)(hu:G.up y=none):
  Calls Tryz.prog 81 #[.pointer (some ⟨nb x,0,none⟩),.pointer (some ⟨nb y,0,none⟩)] w (TurnPost B n nb v lab (G.put p (rvAt rv A U) y) w):=by
 subst ho hr
 rcases hc.way with ⟨_,h2,h3⟩ | ⟨h1,_⟩ | ⟨h1,_⟩ | ⟨h1,_⟩
 ·have h9:=fun_append h hG h2 hp hy hyp hu (A:=A++U) (Bk:=Bk) (by rw [hc.kids,List.append_assoc]) h3
  rwa [List.length_append]at h9
 ·exact absurd h1 (by decide)
 ·exact absurd h1 (by decide)
 ·exact absurd h1 (by decide)
theorem fun_4{B n:Nat}{w:World}{nb:Nat→Nat}{v:Nat→Value}{lab:Nat→NodeD}{G:Wd}(h:DomAt B w n nb v lab G)(hG:WOk n G){op:Int}(ho:op=4){rv:Bool}(hr:rv=false){x p y:Nat}{A U Bk:List Nat}(hc:CloPre op G x p A U Bk)(hp:p<n)(hy:y<n)(hyp:y≠p)(hu:G.up y=none):
  Calls Tryz.prog 86 #[.pointer (some ⟨nb x,0,none⟩),.pointer (some ⟨nb y,0,none⟩)] w (TurnPost B n nb v lab (G.put p (rvAt rv A U) y) w):=by
 subst ho hr
 rcases hc.way with ⟨h1,_⟩ | ⟨h1,_⟩ | ⟨h1,_⟩ | ⟨_,h2,h3⟩
 ·exact absurd h1 (by decide)
 ·exact absurd h1 (by decide)
 ·exact absurd h1 (by decide)
 ·have h9:=fun_before h hG h2 hp hy hyp hu (A:=A++U) (Bk:=Bk) (by rw [hc.kids,List.append_assoc]) h3
  rwa [List.length_append]at h9
theorem fun_2{B n:Nat}{w:World}{nb:Nat→Nat}{v:Nat→Value}{lab:Nat→NodeD}{G:Wd}(h:DomAt B w n nb v lab G)(hG:WOk n G){op:Int}(ho:op=2){rv:Bool}(hr:rv=true){x p y:Nat}{A U Bk:List Nat}(hc:CloPre op G x p A U Bk)(hp:p<n)(hy:y<n)(hyp:y≠p)(hu:G.up y=none):
  Calls Tryz.prog 83 #[.pointer (some ⟨nb x,0,none⟩),.pointer (some ⟨nb y,0,none⟩)] w (TurnPost B n nb v lab (G.put p (rvAt rv A U) y) w):=by
 subst ho hr
 rcases hc.way with ⟨h1,_⟩ | ⟨_,h2,h3⟩ | ⟨h1,_⟩ | ⟨h1,_⟩
 ·exact absurd h1 (by decide)
 ·exact fun_prepend h hG h2 hp hy hyp hu (A:=A) (Bk:=U++Bk) hc.kids h3
 ·exact absurd h1 (by decide)
 ·exact absurd h1 (by decide)
theorem fun_3{B n:Nat}{w:World}{nb:Nat→Nat}{v:Nat→Value}{lab:Nat→NodeD}{G:Wd}(h:DomAt B w n nb v lab G)(hG:WOk n G){op:Int}(ho:op=3){rv:Bool}(hr:rv=true){x p y:Nat}{A U Bk:List Nat}(hc:CloPre op G x p A U Bk)(hp:p<n)(hy:y<n)(hyp:y≠p)(hu:G.up y=none):
  Calls Tryz.prog 85 #[.pointer (some ⟨nb x,0,none⟩),.pointer (some ⟨nb y,0,none⟩)] w (TurnPost B n nb v lab (G.put p (rvAt rv A U) y) w):=by
 subst ho hr
 rcases hc.way with ⟨h1,_⟩ | ⟨h1,_⟩ | ⟨_,h2,a,h3⟩ | ⟨h1,_⟩
 ·exact absurd h1 (by decide)
 ·exact absurd h1 (by decide)
 ·exact fun_after h hG h2 hp hy hyp hu (A:=A) (Bk:=U++Bk) hc.kids h3
 ·exact absurd h1 (by decide)
def LkPost(o:Option Nat)(w:World)(e:Ending)(w':World):Prop:=e=.returned (lk o)∧w=w'
theorem head_filter{f:Nat→Bool}:∀{A rest:List Nat},(∀a∈A,f a=false)→((A++rest).filter f).head? =(rest.filter f).head?
 | [],_,_=>rfl
 | a::r,rest,h=>by
  rw [List.cons_append,List.filter_cons,if_neg (by rw [h a (List.mem_cons_self ..)];simp)]
  exact head_filter (fun b hb=>h b (List.mem_cons_of_mem _ hb))
set_option maxRecDepth 100000 in
set_option maxHeartbeats 4000000 in
theorem firstEl_any{B n:Nat}{w:World}{nb:Nat→Nat}{v:Nat→Value}{lab:Nat→NodeD}{G:Wd}(h:DomAt B w n nb v lab G)(hG:WOk n G)(hki:∀i,i<n→((lab i).kind=3↔tyOf (lab i).kind=3)){y:Nat}(hy:y<n):
  Calls Tryz.prog 132 #[.pointer (some ⟨nb y,0,none⟩)] w (LkPost ((elK lab G y).head?.map nb) w):=by
 have c1:=(h.node y hy).fst
 have e1:(linkR G nb (lab y) (v y) y).fst=(G.kids y).head?.map nb:=rfl
 rw [e1]at c1
 have H:=Lib.hid h
 have HG:=Lib.hid hG
 have HK:=Lib.hid hki
 have HY:=Lib.hid hy
 clear h hG hki hy e1
 go_enter Tryz.func132,Tryz.ntmps132
 go_wp2
 go_loopg [3] (G.kids y).length (fun gk cv wr=>∃(A rest:List Nat),gk=rest.length∧cv=lk (rest.head?.map nb)∧Hid (G.kids y=A++rest∧∀a∈A,decide ((lab a).kind=3)=false)∧Hid (w=wr))
 case atStart=>exact⟨[],G.kids y,rfl,rfl,Lib.hid ⟨rfl,fun a ha=>by cases ha⟩,Lib.hid rfl⟩
 case round=>
  obtain⟨A,rest,rfl,rfl,HA,HW⟩:=hrel
  obtain rfl:=HW.out
  have hres:(elK lab G y).head? =(rest.filter fun q=>decide ((lab q).kind=3)).head? :=by
   unfold elK
   rw [HA.out.1]
   exact head_filter HA.out.2
  cases rest with
  | nil=>
   have HR:=Lib.hid (show(elK lab G y).head? =none by rw [hres];rfl)
   simp only [List.head?_nil,Option.map_none,lk_none]
   clear hres
   go_wp2
   go_ret
   exact⟨by rw [HR.out];rfl,rfl⟩
  | cons q r=>
   have hqy:q∈G.kids y:=by rw [HA.out.1];simp
   have hqn:=(HG.out.lt y q hqy).2
   have c5:=(H.out.node q hqn).ty
   have c4:=(H.out.node q hqn).nxt
   have e5:(linkR G nb (lab q) (v q) q).ty=tyOf (lab q).kind:=rfl
   have e4:(linkR G nb (lab q) (v q) q).nxt=r.head?.map nb:=by
    have h1:=(HG.out.iff y q).1 hqy
    show((G.up q).bind fun p=>nxtIn (G.kids p) q).map nb=_
    rw [h1]
    show(nxtIn (G.kids y) q).map nb=_
    rw [HA.out.1,nxtIn_app A (fun hm=>by
     have h2:=HG.out.nd y
     rw [HA.out.1]at h2
     exact(nd_parts h2).1 hm)]
   rw [e5]at c5
   rw [e4]at c4
   obtain⟨ty,hty⟩:∃ty,tyOf (lab q).kind=ty:=⟨_,rfl⟩
   rw [hty]at c5
   have hk:=HK.out q hqn
   rw [hty]at hk
   simp only [List.head?_cons,Option.map_some,lk_some]
   by_cases h3:ty=3
   ·have hq3:=hk.2 h3
    have HR:=Lib.hid (show(elK lab G y).head? =some q by rw [hres,List.filter_cons,if_pos (by simpa using hq3)];rfl)
    subst h3
    clear hres hqy hqn e5 e4 hk hq3 hty
    go_wp2
    go_ret
    exact⟨by rw [HR.out];rfl,rfl⟩
   ·have hq3:decide ((lab q).kind=3)=false:=by simp;exact fun e=>h3 (hk.1 e)
    have h4:(ty !=3)=true:=by simp [h3]
    have HQ3:=Lib.hid hq3
    clear hres hqy hqn e5 e4 hk hq3 hty
    go_wp2
    go_roundg r.length
    case measure=>simp
    case rel=>exact⟨A++[q],r,rfl,rfl,Lib.hid ⟨by rw [HA.out.1];simp,fun a ha=>by rcases List.mem_append.1 ha with h | h;exact HA.out.2 a h;simp at h;rw [h];exact HQ3.out⟩,Lib.hid rfl⟩
structure OneAt (w:World) (s g T d:Nat):Prop where
 nodes:w.cell? ⟨s,0,none⟩=some (.slice (some ⟨g,0,none⟩) 1 1)
 doc:w.cell? ⟨s,1,none⟩=some (.pointer (some ⟨d,0,none⟩))
 one:w.cell? ⟨g,0,none⟩=some (.pointer (some ⟨T,0,none⟩))
 row:w.heap[g]? =some (.cells #[.pointer (some ⟨T,0,none⟩)] 75)
def OnePost(T d:Nat)(w:World)(e:Ending)(w':World):Prop:=e=.returned (.pointer (some ⟨w.heap.size+1,0,none⟩))∧Hid (OneAt w' (w.heap.size+1) w.heap.size T d)∧Hid (Below w.heap.size w w')
set_option maxRecDepth 100000 in
set_option maxHeartbeats 1000000 in
theorem one_any(T d:Nat)(w:World):Calls Tryz.prog 118 #[.pointer (some ⟨T,0,none⟩),.pointer (some ⟨d,0,none⟩)] w (OnePost T d w):=by
 obtain⟨w1,hw1⟩:∃w1,w.alloc (.cells #[.pointer (some ⟨T,0,none⟩)] 75)=w1:=⟨_,rfl⟩
 have hs1:w1.heap.size=w.heap.size+1:=by rw [←hw1];simp
 have h1:w1.cell? ⟨w.heap.size,0,none⟩=some (.pointer (some ⟨T,0,none⟩)):=by rw [←hw1];exact cell_alloc_new' _ _ _ rfl rfl
 have hb1:Below w.heap.size w w1:=by rw [←hw1];exact(Below.refl _ _).alloc (Nat.le_refl _) _
 have hr1:w1.heap[w.heap.size]? =some (.cells #[.pointer (some ⟨T,0,none⟩)] 75):=by rw [←hw1];exact heap_alloc_new w _
 have HR:=Lib.hid hr1
 have HB:=Lib.hid hb1
 have H1:=Lib.hid h1
 clear hb1 h1 hr1
 go_enter Tryz.func118,Tryz.ntmps118
 go_wp2
 go_ret
 refine⟨rfl,Lib.hid ⟨?_,?_,?_,?_⟩,Lib.hid (HB.out.alloc (by omega) _)⟩
 ·rw [←hs1];exact cell_alloc_new' _ _ _ rfl rfl
 ·rw [←hs1];exact cell_alloc_new' _ _ _ rfl rfl
 ·exact cell_alloc_old H1.out _
 ·exact(((Below.refl w1.heap.size w1).alloc (Nat.le_refl _) _).block _ (by omega)).trans HR.out
theorem OneAt.sel{w:World}{s g T d B:Nat}(h:OneAt w s g T d)(hB:B≤g)(hs:B≤s):SelAt w s (.slice (some ⟨g,0,none⟩) 1 1) [T] B:=
 ⟨h.nodes,⟨d,h.doc⟩,⟨rfl,.inr ⟨g,1, #[.pointer (some ⟨T,0,none⟩)],rfl,hB,h.row,Nat.le_refl _,by unfold maxLen;omega,rfl,rfl⟩⟩,hs⟩
theorem split_uniq{x:Nat}:∀{a b a' b':List Nat},a++x::b=a'++x::b'→x∉a→x∉a'→a=a'∧b=b'
 | [],b,[],b',h,_,_=>by simp at h;exact⟨rfl,h⟩
 | [],b,c::r,b',h,_,h2=>by simp at h;exact absurd (by simp [h.1]) h2
 | c::r,b,[],b',h,h1,_=>by simp at h;exact absurd (by simp [h.1]) h1
 | c::r,b,c'::r',b',h,h1,h2=>by
  simp only [List.cons_append,List.cons.injEq]at h
  have :=split_uniq h.2 (fun hm=>h1 (List.mem_cons_of_mem _ hm)) (fun hm=>h2 (List.mem_cons_of_mem _ hm))
  exact⟨by rw [h.1,this.1],this.2⟩
theorem Target.det{op:Int}{lab lab':Nat→NodeD}{m:Nat}{G:Wd}(hG:WOk m G){x p p':Nat}{A B A' B':List Nat}(h:Target op lab G x p A B)(h':Target op lab' G x p' A' B'):p=p'∧A=A'∧B=B':=by
 rcases h.2 with ⟨h1,h2,h3,_⟩ | ⟨h1,h2,a,h3⟩ | ⟨h1,h2,b,h3⟩ | ⟨h1,h2,h3,_⟩
 ·rcases h'.2 with ⟨g1,g2,g3,_⟩ | ⟨g1,_⟩ | ⟨g1,_⟩ | ⟨g1,_⟩
  ·have e:p=p':=h2.trans g2.symm
   subst e
   have e1:=h.1
   rw [h'.1,h3,g3,List.append_nil,List.append_nil]at e1
   exact⟨rfl,e1.symm,h3.trans g3.symm⟩
  ·omega
  ·omega
  ·omega
 ·rcases h'.2 with ⟨g1,_⟩ | ⟨g1,g2,a',g3⟩ | ⟨g1,_⟩ | ⟨g1,_⟩
  ·omega
  ·rw [h2]at g2
   cases g2
   have e1:=h.1
   have hnd:=hG.nd p
   rw [e1,h3,List.append_assoc]at hnd
   have hnd':=hG.nd p
   rw [h'.1,g3,List.append_assoc]at hnd'
   rw [h'.1,h3,g3,List.append_assoc,List.append_assoc]at e1
   have :=split_uniq e1.symm (nd_parts hnd).1 (nd_parts hnd').1
   exact⟨rfl,by rw [h3,g3,this.1],this.2⟩
  ·omega
  ·omega
 ·rcases h'.2 with ⟨g1,_⟩ | ⟨g1,_⟩ | ⟨g1,g2,b',g3⟩ | ⟨g1,_⟩
  ·omega
  ·omega
  ·rw [h2]at g2
   cases g2
   have e1:=h.1
   have hnd:=hG.nd p
   rw [e1,h3]at hnd
   have hnd':=hG.nd p
   rw [h'.1,g3]at hnd'
   rw [h'.1,h3,g3]at e1
   have :=split_uniq e1.symm (nd_parts hnd).1 (nd_parts hnd').1
   exact⟨rfl,this.1,by rw [h3,g3,this.2]⟩
  ·omega
 ·rcases h'.2 with ⟨g1,_⟩ | ⟨g1,_⟩ | ⟨g1,_⟩ | ⟨g1,g2,g3,_⟩
  ·omega
  ·omega
  ·omega
  ·have e:p=p':=h2.trans g2.symm
   subst e
   have e1:=h.1
   rw [h'.1,h3,g3,List.nil_append,List.nil_append]at e1
   exact⟨rfl,h3.trans g3.symm,e1.symm⟩
structure SideW (n:Nat) (F:Wd) (xs ws L:List Nat):Prop where
 ok:WOk n F
 flat:Fl F.kids ws L
 lone:Lone F ws
 win:∀v∈ws,v<n
 xin:∀x∈xs,x<n∧∀v∈ws,¬Anc F v x
theorem SideW.of{n:Nat}{F:Wd}{xs ws L:List Nat}(hF:WOk n F)(ha:ApartW F ws xs)(hL:Fl F.kids ws L)(hnd:ws.Nodup)(hw:∀v∈ws,v<n)(hx:∀x∈xs,x<n):SideW n F xs ws L:=
 ⟨hF,hL,apart_lone ha hnd,hw,fun x hxx=>⟨hx x hxx,fun v hv=>by
  obtain⟨i,hi,rfl⟩:=List.getElem_of_mem hv
  obtain⟨j,hj,rfl⟩:=List.getElem_of_mem hxx
  have :=ha.on i j hi hj
  simpa [List.getD,hi,hj]using this⟩⟩
theorem Many.ok{op:Int}{n:Nat}{F:Wd}{ws L:List Nat}{n2:Nat}{lab2:Nat→NodeD}{G2:Wd}{xs:List Nat}{m:Nat}{lab:Nat→NodeD}{G:Wd}(h:Many op ws L n2 lab2 G2 xs m lab G):SideW n F xs ws L→MidW n F L m G→
  WOk n2 G2∧m≤n2∧(∀i,i<m→lab2 i=lab i)∧∀P:NodeD→Prop,(∀i,i<m→P (lab i))→∀i,i<n2→P (lab2 i):=by
 induction h with
 | @last x p m lab G A B ht hm hl hG=>
  intro hs hmid
  subst hm hG
  obtain⟨hx,hxa⟩:=hs.xin x (by simp)
  obtain⟨h1,h2,h3⟩:=ht.parent hs.ok hmid.up hx hs.flat hxa
  have hle:=hmid.le
  refine⟨mv_all hmid.ok (by omega) ht.1 (fun v hv ha=>h3 v hv ((anc_same hs.ok hmid.up h1).1 ha)) hs.lone.1 (fun v hv=>Nat.lt_of_lt_of_le (hs.win v hv) hle),Nat.le_refl _,hl,fun P hP i hi=>by rw [hl i hi];exact hP i hi⟩
 | @more x y p m xs lab lab' G A B ht g1 g2 g3 ih=>
  intro hs hmid
  obtain⟨hx,hxa⟩:=hs.xin x (by simp)
  obtain⟨h1,h2,h3⟩:=ht.parent hs.ok hmid.up hx hs.flat hxa
  have hc:=cpOk_of hs.ok hs.flat hs.lone hs.win
  have hle:=hmid.le
  obtain⟨i1,i2,i3,i4⟩:=ih ⟨hs.ok,hs.flat,hs.lone,hs.win,fun z hz=>hs.xin z (List.mem_cons_of_mem _ hz)⟩ (hmid.step hs.ok hc hs.lone.1 h1 h2 ht.1)
  refine⟨i1,by omega,fun i hi=>by rw [i3 i (by omega)];exact g1 i hi,fun P hP=>i4 P (fun i hi=>?_)⟩
  by_cases e:i<m
  ·rw [g1 i e];exact hP i e
  ·have :=g2 (i-m) (by omega)
   rw [show m+(i-m)=i by omega]at this
   rw [this]
   exact hP _ (Nat.lt_of_lt_of_le (hc.lt _ (getD_mem' (by omega))) hle)
theorem Many.det{op:Int}{n:Nat}{F:Wd}{ws L:List Nat}{n2:Nat}{lab2:Nat→NodeD}{G2:Wd}{xs:List Nat}{m:Nat}{lab:Nat→NodeD}{G:Wd}(h:Many op ws L n2 lab2 G2 xs m lab G):SideW n F xs ws L→MidW n F L m G→
  ∀{n3:Nat} {lab3:Nat→NodeD} {G3:Wd} {lab':Nat→NodeD},(∀i,i<m→lab' i=lab i)→Many op ws L n3 lab3 G3 xs m lab' G→n2=n3∧G2=G3∧∀i,i<n2→lab2 i=lab3 i:=by
 induction h with
 | @last x p m lab G A B ht hm hl hG=>
  intro hs hmid n3 lab3 G3 lab' hlab h'
  cases h' with
  | last ht' hm' hl' hG'=>
   obtain⟨e1,e2,e3⟩:=ht.det hmid.ok ht'
   subst e1 e2 e3
   refine⟨hm.trans hm'.symm,hG.trans hG'.symm,fun i hi=>?_⟩
   rw [hm]at hi
   rw [hl i hi,hl' i hi,hlab i hi]
 | @more x y p m xs lab lab1 G A B ht g1 g2 g3 ih=>
  intro hs hmid n3 lab3 G3 lab' hlab h'
  cases h' with
  | @more _ _ _ _ _ _ lab4 _ _ _ ht' f1 f2 f3=>
   obtain⟨e1,e2,e3⟩:=ht.det hmid.ok ht'
   subst e1 e2 e3
   obtain⟨hx,hxa⟩:=hs.xin x (by simp)
   obtain⟨h1,h2,h3⟩:=ht.parent hs.ok hmid.up hx hs.flat hxa
   have hc:=cpOk_of hs.ok hs.flat hs.lone hs.win
   have hle:=hmid.le
   refine ih ⟨hs.ok,hs.flat,hs.lone,hs.win,fun z hz=>hs.xin z (List.mem_cons_of_mem _ hz)⟩ (hmid.step hs.ok hc hs.lone.1 h1 h2 ht.1) (fun i hi=>?_) f3
   by_cases e:i<m
   ·rw [g1 i e,f1 i e];exact hlab i e
   ·have a1:=g2 (i-m) (by omega)
    have a2:=f2 (i-m) (by omega)
    rw [show m+(i-m)=i by omega]at a1 a2
    rw [a1,a2]
    exact hlab _ (Nat.lt_of_lt_of_le (hc.lt _ (getD_mem' (by omega))) hle)
end Go.Proofs.YtkdomegcacgpnaaGreat
