/- Parts of a proof: AppendDom. -/
import Derived.Test.YtkdomegcacgpnaaGreatG17
import Derived.Test.YtkdomegcacgpnaaGreatG05
set_option linter.unusedVariables false
set_option linter.unusedSimpArgs false
namespace Go.Proofs.YtkdomegcacgpnaaGreat
open Go.RowKit
theorem appendChild_nn(P X:Nat)(rp rx:NRec)(w:World)(hp:World.nodeAt w P rp)(hx:World.nodeAt w X rx)(nPX:P≠X)(h0:rx.par=none)(h3:rx.prv=none)(h4:rx.nxt=none)(h2:rp.lst=none):
  Calls Tryz.prog 82 #[.pointer (some ⟨P,0,none⟩),.pointer (some ⟨X,0,none⟩)] w fun e w'=>e=.returned (.tuple #[])∧
   ∃w1,World.putN w P {rp with fst:=some X,lst:=some X}=w1∧World.putN w1 X {rx with par:=some P,prv:=none,nxt:=none}=w':=by
 refine(appendChild_first P X rp rx w hp hx nPX h2 h0 h3 h4).mono ?_
 rintro e w' ⟨he,hw⟩
 refine⟨he,_,rfl,?_⟩
 rw [←hw]
 cases rx
 simp only at h3 h4
 subst h3 h4
 rfl
theorem appendChild_sn(P X Q:Nat)(rp rx rq:NRec)(w:World)(hp:World.nodeAt w P rp)(hx:World.nodeAt w X rx)(hq:World.nodeAt w Q rq)(nPX:P≠X)(nPQ:P≠Q)(nXQ:X≠Q)(h0:rx.par=none)(h3:rx.prv=none)(h4:rx.nxt=none)(h2:rp.lst=some Q):
  Calls Tryz.prog 82 #[.pointer (some ⟨P,0,none⟩),.pointer (some ⟨X,0,none⟩)] w fun e w'=>e=.returned (.tuple #[])∧
   ∃w1,World.putN w Q {rq with nxt:=some X}=w1∧∃w2,World.putN w1 P {rp with lst:=some X}=w2∧World.putN w2 X {rx with par:=some P,prv:=some Q,nxt:=none}=w':=by
 refine(appendChild_later P X Q rp rx rq w hp hx hq nPX (Ne.symm nPQ) (Ne.symm nXQ) h2 h0 h3 h4).mono ?_
 rintro e w' ⟨he,hw⟩
 refine⟨he,_,rfl,_,rfl,?_⟩
 rw [←hw]
 cases rx
 simp only at h4
 subst h4
 rfl
set_option maxRecDepth 100000 in
set_option maxHeartbeats 1000000 in
theorem app_nn{B n:Nat}{w:World}{nb:Nat→Nat}{v:Nat→Value}{lab:Nat→NodeD}{F:Wd}(h:DomAt B w n nb v lab F)(hF:WOk n F){x p:Nat}(hp:p<n)(hx:x<n)(hxp:x≠p)(hu:F.up x=none)(hl:F.kids p=[]++[]):
  Calls Tryz.prog 82 #[.pointer (some ⟨nb p,0,none⟩),.pointer (some ⟨nb x,0,none⟩)] w (TurnPost B n nb v lab (F.put p ([]:List Nat).length x) w):=by
 have hxk:∀g,x∉F.kids g:=fun g hm=>by rw [hF.iff,hu]at hm;cases hm
 have hnd:(([]:List Nat)++x::([]:List Nat)).Nodup:=by
  have :=nodup_put (hF.nd p) ([]:List Nat).length (x:=x) (hxk p)
  rw [hl,take_len,drop_len]at this
  exact this
 obtain⟨n1,n2,n3,n4,n5,n6⟩:=nd_parts hnd
 have e0:(linkR F nb (lab x) (v x) x).par=none:=by unfold linkR;rw [hu];rfl
 have e3:(linkR F nb (lab x) (v x) x).prv=none:=by unfold linkR;rw [hu];rfl
 have e4:(linkR F nb (lab x) (v x) x).nxt=none:=by unfold linkR;rw [hu];rfl
 have e5:(linkR F nb (lab p) (v p) p).lst=([]:List Nat).getLast?.map nb:=by
  show(F.kids p).getLast?.map nb=_
  rw [hl,List.append_nil]
 refine(appendChild_nn (nb p) (nb x) _ _ w (h.node p hp) (h.node x hx) (h.ne hp hx (Ne.symm hxp)) e0 e3 e4 e5).mono ?_
 rintro e w' ⟨he,w1,hw0,hw1⟩
 have hon:OnlyN n nb w w':=(only_put (only_put (OnlyN.refl n nb w) hp hw0) hx hw1)
 refine⟨he,Lib.hid (h.turn hon (fun i hi=>?_)),Lib.hid hon⟩
 by_cases ep:i=p
 ·rw [ep]
  rw [put_rec (a:=([]:List Nat)) (b:=([]:List Nat)) hF hu hl (Ne.symm hxp)]
  have hh:=(at_other (at_same (h.node p hp) hw0) (h.ne hp hx (Ne.symm hxp)) hw1)
  first
   | simpa [List.getLast?_concat,List.head?_cons,List.getLast?_nil,List.head?_nil]using hh
   | (refine Eq.mp (congrArg _ ?_) hh;simp [List.getLast?_concat,List.head?_cons,List.getLast?_nil,List.head?_nil,linkR,hl])
 by_cases ex:i=x
 ·rw [ex]
  rw [put_self (a:=([]:List Nat)) (b:=([]:List Nat)) hF hxp hu hl]
  have hh:=(at_same (at_other (h.node x hx) (h.ne hp hx (Ne.symm hxp)).symm hw0) hw1)
  simpa using hh
 rw [put_rec (a:=([]:List Nat)) (b:=([]:List Nat)) hF hu hl ex]
 have hh:=(at_other (at_other (h.node i hi) (h.ne hi hp ep) hw0) (h.ne hi hx ex) hw1)
 simpa [List.getLast?_concat,List.head?_cons,List.getLast?_nil,List.head?_nil,ep]using hh
set_option maxRecDepth 100000 in
set_option maxHeartbeats 1000000 in
theorem app_sn{B n:Nat}{w:World}{nb:Nat→Nat}{v:Nat→Value}{lab:Nat→NodeD}{F:Wd}(h:DomAt B w n nb v lab F)(hF:WOk n F){x p:Nat}(hp:p<n)(hx:x<n)(hxp:x≠p)(hu:F.up x=none)(a':List Nat)(q:Nat)(hl:F.kids p=(a'++[q])++[]):
  Calls Tryz.prog 82 #[.pointer (some ⟨nb p,0,none⟩),.pointer (some ⟨nb x,0,none⟩)] w (TurnPost B n nb v lab (F.put p (a'++[q]).length x) w):=by
 have hxk:∀g,x∉F.kids g:=fun g hm=>by rw [hF.iff,hu]at hm;cases hm
 have hnd:((a'++[q])++x::([]:List Nat)).Nodup:=by
  have :=nodup_put (hF.nd p) (a'++[q]).length (x:=x) (hxk p)
  rw [hl,take_len,drop_len]at this
  exact this
 obtain⟨n1,n2,n3,n4,n5,n6⟩:=nd_parts hnd
 have huq:F.up q=some p:=(hF.iff p q).1 (by rw [hl];simp)
 have hq:=(hF.ltUp huq).1
 have hqp:q≠p:=hF.irr huq
 have hqx:q≠x:=fun e=>n1 (by rw [←e];simp)
 have e0:(linkR F nb (lab x) (v x) x).par=none:=by unfold linkR;rw [hu];rfl
 have e3:(linkR F nb (lab x) (v x) x).prv=none:=by unfold linkR;rw [hu];rfl
 have e4:(linkR F nb (lab x) (v x) x).nxt=none:=by unfold linkR;rw [hu];rfl
 have e5:(linkR F nb (lab p) (v p) p).lst=(a'++[q]).getLast?.map nb:=by
  show(F.kids p).getLast?.map nb=_
  rw [hl,List.append_nil]
 rw [List.getLast?_concat]at e5
 refine(appendChild_sn (nb p) (nb x) (nb q) _ _ _ w (h.node p hp) (h.node x hx) (h.node q hq) (h.ne hp hx (Ne.symm hxp)) (h.ne hp hq (Ne.symm hqp)) (h.ne hx hq (Ne.symm hqx)) e0 e3 e4 e5).mono ?_
 rintro e w' ⟨he,w1,hw0,w2,hw1,hw2⟩
 have hon:OnlyN n nb w w':=(only_put (only_put (only_put (OnlyN.refl n nb w) hq hw0) hp hw1) hx hw2)
 refine⟨he,Lib.hid (h.turn hon (fun i hi=>?_)),Lib.hid hon⟩
 by_cases ep:i=p
 ·rw [ep]
  rw [put_rec (a:=(a'++[q])) (b:=([]:List Nat)) hF hu hl (Ne.symm hxp)]
  have hh:=(at_other (at_same (at_other (h.node p hp) (h.ne hp hq (Ne.symm hqp)) hw0) hw1) (h.ne hp hx (Ne.symm hxp)) hw2)
  first
   | simpa [List.getLast?_concat,List.head?_cons,List.getLast?_nil,List.head?_nil,hqp]using hh
   | (refine Eq.mp (congrArg _ ?_) hh;simp [List.getLast?_concat,List.head?_cons,List.getLast?_nil,List.head?_nil,hqp,linkR,hl])
 by_cases ex:i=x
 ·rw [ex]
  rw [put_self (a:=(a'++[q])) (b:=([]:List Nat)) hF hxp hu hl]
  have hh:=(at_same (at_other (at_other (h.node x hx) (h.ne hx hq (Ne.symm hqx)) hw0) (h.ne hp hx (Ne.symm hxp)).symm hw1) hw2)
  simpa using hh
 by_cases eq:i=q
 ·rw [eq]
  rw [put_rec (a:=(a'++[q])) (b:=([]:List Nat)) hF hu hl hqx]
  have hh:=(at_other (at_other (at_same (h.node q hq) hw0) (h.ne hp hq (Ne.symm hqp)).symm hw1) (h.ne hx hq (Ne.symm hqx)).symm hw2)
  first
   | simpa [List.getLast?_concat,List.head?_cons,List.getLast?_nil,List.head?_nil,hqp]using hh
   | (refine Eq.mp (congrArg _ ?_) hh;simp [List.getLast?_concat,List.head?_cons,List.getLast?_nil,List.head?_nil,hqp,linkR,hl])
 rw [put_rec (a:=(a'++[q])) (b:=([]:List Nat)) hF hu hl ex]
 have hh:=(at_other (at_other (at_other (h.node i hi) (h.ne hi hq eq) hw0) (h.ne hi hp ep) hw1) (h.ne hi hx ex) hw2)
 simpa [List.getLast?_concat,List.head?_cons,List.getLast?_nil,List.head?_nil,ep,Ne.symm eq,eq]using hh
theorem appendDom_any{B n:Nat}{w:World}{nb:Nat→Nat}{v:Nat→Value}{lab:Nat→NodeD}{F:Wd}(h:DomAt B w n nb v lab F)(hF:WOk n F){x p:Nat}(hp:p<n)(hx:x<n)(hxp:x≠p)(hu:F.up x=none):
  Calls Tryz.prog 82 #[.pointer (some ⟨nb p,0,none⟩),.pointer (some ⟨nb x,0,none⟩)] w (TurnPost B n nb v lab (F.put p (F.kids p).length x) w):=by
 rcases nil_or_snoc (F.kids p)with h0 | ⟨a',q,h0⟩
 ·have :=app_nn h hF hp hx hxp hu (by rw [h0];rfl)
  rwa [h0]
 ·have :=app_sn h hF hp hx hxp hu a' q (by rw [h0,List.append_nil])
  rwa [h0]
end Go.Proofs.YtkdomegcacgpnaaGreat
