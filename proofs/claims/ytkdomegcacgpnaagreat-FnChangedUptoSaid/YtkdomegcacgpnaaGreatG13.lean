/- Parts of a proof: InsK. -/
import Derived.Test.YtkdomegcacgpnaaGreatG12
import Derived.StillTailTactics
set_option linter.unusedVariables false
set_option linter.unusedSimpArgs false
namespace Go.Proofs.YtkdomegcacgpnaaGreat
open Go.RowKit
def Target(op:Int)(lab:Nat→NodeD)(F:Wd)(x p:Nat)(A B:List Nat):Prop:=
 F.kids p=A++B∧((op=1∧p=x∧B=[]∧(lab x).kind=3)∨(op=3∧F.up x=some p∧∃a,A=a++[x])∨(op=4∧F.up x=some p∧∃b,B=x::b)∨(op=2∧p=x∧A=[]∧(lab x).kind=3))
theorem Target.clear{op:Int}{lab:Nat→NodeD}{F:Wd}{x p:Nat}{A B:List Nat}(h:Target op lab F x p A B){ws:List Nat}(ha:ApartW F ws [x]):∀v∈ws,¬Anc F v p:=fun v hv hp=>by
 obtain⟨i,hi,rfl⟩:=List.getElem_of_mem hv
 have h1:=ha.on i 0 hi (by simp)
 have e:ws.getD i 0=ws[i]:=by simp [List.getD,hi]
 rw [e]at h1
 simp only [List.getD_cons_zero]at h1
 rcases h.2 with ⟨_,rfl,_⟩ | ⟨_,hu,_⟩ | ⟨_,hu,_⟩ | ⟨_,rfl,_⟩
 ·exact h1 hp
 ·exact h1 (.step hu hp)
 ·exact h1 (.step hu hp)
 ·exact h1 hp
theorem Target.notin{F:Wd}{ws:List Nat}{x:Nat}(ha:ApartW F ws [x]):x∉ws:=fun hv=>by
 obtain⟨i,hi,rfl⟩:=List.getElem_of_mem hv
 have h1:=ha.on i 0 hi (by simp)
 have e:ws.getD i 0=ws[i]:=by simp [List.getD,hi]
 rw [e]at h1
 exact h1 .refl
theorem WOk.off{n:Nat}{F:Wd}(h:WOk n F)(T:List Nat):WOk n (F.off T):=by rw [←cutsW_off];exact h.cuts T
theorem own_onlyK{B B1:Nat}{w w':World}{n:Nat}{kn:Nat→Nat}{kv av:Nat→Value}{pl:Nat→Int}{lab:Nat→NodeD}{F:Wd}(hK:Knots B w n kn kv av pl lab F){v:Value}{N:Nat}{xs:List Value}(h:w.ownsRow B1 69 1 v N xs)(ho:OnlyK n kn w w'):w'.ownsRow B1 69 1 v N xs:=
 ownsRow_kept h (fun q hq=>ho.block q (World.ownsRow.lt h q hq).2 (fun i hi e=>objAt_ne_own (hK.node i hi) h (by decide) (by rw [hq,e])))
theorem own_krow{w:World}{B:Nat}{e:TypeId}{g L cap:Nat}{l:List Nat}{kn:Nat→Nat}(h:w.ownsRow B e 1 (.slice (some ⟨g,0,none⟩) L cap) l.length (l.map fun y=>ptrV (kn y))):∀i,i<l.length→w.cell? ⟨g,i,none⟩=some (.pointer (some ⟨kn (l.getD i 0),0,none⟩)):=fun i hi=>by
 have :=h.cells (g:=g) rfl i (ptrV (kn (l.getD i 0))) (by simp [List.getD,hi])
 rwa [show(⟨g,0,none⟩:Addr).add i=⟨g,i,none⟩ by unfold Addr.add;split <;> simp_all]at this
def InsPost(B n:Nat)(kn:Nat→Nat)(av:Nat→Value)(pl:Nat→Int)(lab:Nat→NodeD)(F:Wd)(w:World)(e:Ending)(w':World):Prop:=∃kv,e=.returned (.tuple #[])∧Hid (Knots B w' n kn kv av pl lab F)∧Hid (OnlyK n kn w w')
set_option maxRecDepth 100000 in
set_option maxHeartbeats 4000000 in
theorem inserted_append{B B1:Nat}{w:World}{n:Nat}{kn:Nat→Nat}{kv av:Nat→Value}{pl:Nat→Int}{lab:Nat→NodeD}{F1:Wd}(h:Knots B w n kn kv av pl lab F1)(hF:WOk n F1)(hn:n≤900000)(f:Nat){x p:Nat}{A B' ws:List Nat}(hl:F1.kids p=A++B')(hpx:x=p)(hB0:B'=[])(hx:x<n)(hp:p<n)(gw cw:Nat)(hr:w.ownsRow B1 69 1 (.slice (some ⟨gw,0,none⟩) ws.length cw) ws.length (ws.map fun y=>ptrV (kn y)))(hws:∀v∈ws,v<n∧v≠p∧F1.up v=none)(hnd:ws.Nodup)(hwl:ws.length≤200):
  Calls Tryz.prog 106 #[.pointer (some ⟨f,0,none⟩),.int .i64 1,.pointer (some ⟨kn x,0,none⟩),.slice (some ⟨gw,0,none⟩) ws.length cw] w (InsPost B n kn av pl lab (F1.ins p A ws B') w):=by
 have hlx:F1.kids x=A++B':=by rw [hpx];exact hl
 have c7:=(h.cells hx).2.2
 obtain⟨a0,cap0,hkv0⟩:=ownsRow_slice (h.row x hx)
 rw [hkv0,hlx,hB0,List.append_nil]at c7
 have HPX:=Lib.hid hpx
 clear hkv0 hlx hpx
 have hkl:=hF.few p
 have HK:=Lib.hid h
 have HR:=Lib.hid hr
 have HW:=Lib.hid (And.intro hws (And.intro hnd hl))
 have HP:=Lib.hid hp
 have hlen:A.length+B'.length≤900000:=by
  have h1:=congrArg List.length hl
  rw [List.length_append]at h1
  omega
 have hALn:A.length≤900000:=by omega
 clear h hr hws hnd hp hF hkl
 clear hl
 go_enter Tryz.func106,Tryz.ntmps106
 have HKZ:=HK
 have HOZ:=Lib.hid (OnlyK.refl n kn w)
 have HRZ:=HR
 go_wp2
 clear c7
 go_loopw [10] (fun iv wr=>∃(i:Nat) (kv:Nat→Value),i≤ws.length∧iv=.int .i64 (i:Int)∧Hid (Knots B wr n kn kv av pl lab (F1.ins p A (ws.take i) B'))∧Hid (OnlyK n kn w wr)∧Hid (wr.ownsRow B1 69 1 (.slice (some ⟨gw,0,none⟩) ws.length cw) ws.length (ws.map fun y=>ptrV (kn y)))) (fun iv _=>ws.length-(intOf iv).toNat)
 case atStart=>exact⟨0,kv,by omega,by go_num,Lib.hid (by rw [List.take_zero,ins_nil HW.out.2.2];exact HKZ.out),HOZ,HRZ⟩
 case round=>
  obtain⟨i,kv,hi,rfl,HKr,HOr,HRr⟩:=hrel
  by_cases hlt:i<ws.length
  ·have ci:=own_krow HRr.out i hlt
   obtain⟨h1,h2,h3⟩:=HW.out.1 _ (getD_mem' (d:=0) hlt)
   have htk:=take_snoc hlt
   have hwT:ws.getD i 0∉ws.take i:=fun hm=>by
    have h4:=HW.out.2.1
    rw [←List.take_append_drop i ws,List.nodup_append]at h4
    refine h4.2.2 _ hm _ ?_ rfl
    rw [List.drop_eq_getElem_cons hlt,List.getD_eq_getElem?_getD,List.getElem?_eq_getElem hlt]
    exact List.mem_cons_self ..
   obtain⟨v,hv⟩:∃v,ws.getD i 0=v:=⟨_,rfl⟩
   rw [hv]at ci h1 h2 h3 htk hwT
   have hiI:(i:Int)<(ws.length:Int):=by omega
   have hti:(ws.take i).length=i:=by rw [List.length_take];omega
   have hput:=putK_any HKr.out (x:=v) (p:=p) HP.out h1 h2 (by simp only [Wd.ins,if_neg hwT];exact h3) (A++ws.take i) B' (by simp [Wd.ins]) (by simp only [Wd.ins,if_pos];simp only [List.length_append,List.length_cons,List.length_nil,hti]at hlen ⊢;omega)
   have hil:((A++ws.take i).length:Int)=(A.length:Int)+(i:Int):=by rw [List.length_append,hti];simp
   rw [hil,List.length_append,ins_put,←htk]at hput
   have hput:Calls Tryz.prog 108 #[.pointer (some ⟨kn x,0,none⟩),.int .i64 ((A.length:Int)+(i:Int)),.pointer (some ⟨kn v,0,none⟩)] wr (TurnKPost B n kn av pl lab (F1.ins p A (ws.take (i+1)) B') wr):=by rw [HPX.out];exact hput
   have HPUT:=Lib.hid hput
   clear hput hv h1 h2 h3 htk hwT hil hti
   go_wp2_with fail
   refine HPUT.out.mono ?_
   rintro e w3 ⟨kv3,rfl,hk3,ho3⟩
   have HR3:=Lib.hid (own_onlyK HKr.out HRr.out ho3.out)
   have HO3:=Lib.hid (HOr.out.trans ho3.out)
   clear ho3 HPUT ci
   go_wp2
   refine⟨?rel,?measure⟩
   case rel=>exact⟨i+1,kv3,by omega,by go_num,hk3,HO3,HR3⟩
   case measure=>simp [intOf];omega
  ·obtain rfl:i=ws.length:=by omega
   have hk:=HKr.out
   rw [List.take_length]at hk
   have HKE:=Lib.hid hk
   clear hk
   go_wp2
   go_end0
   exact⟨_,rfl,HKE,HOr⟩
set_option maxRecDepth 100000 in
set_option maxHeartbeats 4000000 in
theorem inserted_after{B B1:Nat}{w:World}{n:Nat}{kn:Nat→Nat}{kv av:Nat→Value}{pl:Nat→Int}{lab:Nat→NodeD}{F1:Wd}(h:Knots B w n kn kv av pl lab F1)(hF:WOk n F1)(hn:n≤900000)(f:Nat){x p:Nat}{A B' ws:List Nat}(hl:F1.kids p=A++B')(hu1:F1.up x=some p)(hA0:∃a,A=a++[x])(hx:x<n)(hp:p<n)(gw cw:Nat)(hr:w.ownsRow B1 69 1 (.slice (some ⟨gw,0,none⟩) ws.length cw) ws.length (ws.map fun y=>ptrV (kn y)))(hws:∀v∈ws,v<n∧v≠p∧F1.up v=none)(hnd:ws.Nodup)(hwl:ws.length≤200):
  Calls Tryz.prog 106 #[.pointer (some ⟨f,0,none⟩),.int .i64 3,.pointer (some ⟨kn x,0,none⟩),.slice (some ⟨gw,0,none⟩) ws.length cw] w (InsPost B n kn av pl lab (F1.ins p A ws B') w):=by
 obtain⟨a,rfl⟩:=hA0
 have hl2:F1.kids p=a++x::B':=by rw [hl];simp
 have hplc:=place_some h hF hl2
 have HPLC:=Lib.hid (fun q=>place_some (h.drewN q) hF hl2)
 have c6:=(h.cells hx).2.1
 rw [hu1]at c6
 simp only [Option.map_some,lk_some]at c6
 have hAl:((a++[x]).length:Int)=(a.length:Int)+1:=by simp
 clear hplc
 have hkl:=hF.few p
 have HK:=Lib.hid h
 have HR:=Lib.hid hr
 have HW:=Lib.hid (And.intro hws (And.intro hnd hl))
 have HP:=Lib.hid hp
 have hlen:(a++[x]).length+B'.length≤900000:=by
  have h1:=congrArg List.length hl
  rw [List.length_append]at h1
  omega
 have hALn:(a++[x]).length≤900000:=by omega
 clear h hr hws hnd hp hF hkl hl2
 clear hl
 go_enter Tryz.func106,Tryz.ntmps106
 go_wp2
 go_quiet (exact Calls.quiet_of_same ((HPLC.out _).mono fun _ _ hh=>⟨hh.1,hh.2.symm⟩))
 obtain⟨wz,hwz⟩:∃wz,w.drewN nq=wz:=⟨_,rfl⟩
 have HKZ:=Lib.hid (show Knots B wz n kn kv av pl lab F1 by rw [←hwz];exact HK.out.drewN _)
 have HOZ:=Lib.hid (show OnlyK n kn w wz by rw [←hwz];exact OnlyK.of_below (below_drewN (Below.refl _ _) _))
 have HRZ:=Lib.hid (show wz.ownsRow B1 69 1 (.slice (some ⟨gw,0,none⟩) ws.length cw) ws.length (ws.map fun y=>ptrV (kn y)) by rw [←hwz];exact HR.out)
 rw [hwz]
 clear hwz
 clear c6
 go_wp2
 go_loopw [10] (fun iv wr=>∃(i:Nat) (kv:Nat→Value),i≤ws.length∧iv=.int .i64 (i:Int)∧Hid (Knots B wr n kn kv av pl lab (F1.ins p (a++[x]) (ws.take i) B'))∧Hid (OnlyK n kn w wr)∧Hid (wr.ownsRow B1 69 1 (.slice (some ⟨gw,0,none⟩) ws.length cw) ws.length (ws.map fun y=>ptrV (kn y)))) (fun iv _=>ws.length-(intOf iv).toNat)
 case atStart=>exact⟨0,kv,by omega,by go_num,Lib.hid (by rw [List.take_zero,ins_nil HW.out.2.2];exact HKZ.out),HOZ,HRZ⟩
 case round=>
  obtain⟨i,kv,hi,rfl,HKr,HOr,HRr⟩:=hrel
  by_cases hlt:i<ws.length
  ·have ci:=own_krow HRr.out i hlt
   obtain⟨h1,h2,h3⟩:=HW.out.1 _ (getD_mem' (d:=0) hlt)
   have htk:=take_snoc hlt
   have hwT:ws.getD i 0∉ws.take i:=fun hm=>by
    have h4:=HW.out.2.1
    rw [←List.take_append_drop i ws,List.nodup_append]at h4
    refine h4.2.2 _ hm _ ?_ rfl
    rw [List.drop_eq_getElem_cons hlt,List.getD_eq_getElem?_getD,List.getElem?_eq_getElem hlt]
    exact List.mem_cons_self ..
   obtain⟨v,hv⟩:∃v,ws.getD i 0=v:=⟨_,rfl⟩
   rw [hv]at ci h1 h2 h3 htk hwT
   have hiI:(i:Int)<(ws.length:Int):=by omega
   have hti:(ws.take i).length=i:=by rw [List.length_take];omega
   have hput:=putK_any HKr.out (x:=v) (p:=p) HP.out h1 h2 (by simp only [Wd.ins,if_neg hwT];exact h3) ((a++[x])++ws.take i) B' (by simp [Wd.ins]) (by simp only [Wd.ins,if_pos];simp only [List.length_append,List.length_cons,List.length_nil,hti]at hlen ⊢;omega)
   have hil:(((a++[x])++ws.take i).length:Int)=(a.length:Int)+1+(i:Int):=by rw [List.length_append,hti];simp
   rw [hil,List.length_append,ins_put,←htk]at hput
   have HPUT:=Lib.hid hput
   clear hput hv h1 h2 h3 htk hwT hil hti
   go_wp2_with fail
   refine HPUT.out.mono ?_
   rintro e w3 ⟨kv3,rfl,hk3,ho3⟩
   have HR3:=Lib.hid (own_onlyK HKr.out HRr.out ho3.out)
   have HO3:=Lib.hid (HOr.out.trans ho3.out)
   clear ho3 HPUT ci
   go_wp2
   refine⟨?rel,?measure⟩
   case rel=>exact⟨i+1,kv3,by omega,by go_num,hk3,HO3,HR3⟩
   case measure=>simp [intOf];omega
  ·obtain rfl:i=ws.length:=by omega
   have hk:=HKr.out
   rw [List.take_length]at hk
   have HKE:=Lib.hid hk
   clear hk
   go_wp2
   go_end0
   exact⟨_,rfl,HKE,HOr⟩
set_option maxRecDepth 100000 in
set_option maxHeartbeats 4000000 in
theorem inserted_before{B B1:Nat}{w:World}{n:Nat}{kn:Nat→Nat}{kv av:Nat→Value}{pl:Nat→Int}{lab:Nat→NodeD}{F1:Wd}(h:Knots B w n kn kv av pl lab F1)(hF:WOk n F1)(hn:n≤900000)(f:Nat){x p:Nat}{A B' ws:List Nat}(hl:F1.kids p=A++B')(hu1:F1.up x=some p)(hB0:∃b,B'=x::b)(hx:x<n)(hp:p<n)(gw cw:Nat)(hr:w.ownsRow B1 69 1 (.slice (some ⟨gw,0,none⟩) ws.length cw) ws.length (ws.map fun y=>ptrV (kn y)))(hws:∀v∈ws,v<n∧v≠p∧F1.up v=none)(hnd:ws.Nodup)(hwl:ws.length≤200):
  Calls Tryz.prog 106 #[.pointer (some ⟨f,0,none⟩),.int .i64 4,.pointer (some ⟨kn x,0,none⟩),.slice (some ⟨gw,0,none⟩) ws.length cw] w (InsPost B n kn av pl lab (F1.ins p A ws B') w):=by
 obtain⟨b,rfl⟩:=hB0
 have hl2:F1.kids p=A++x::b:=hl
 have HPLC:=Lib.hid (fun q=>place_some (h.drewN q) hF hl2)
 have c6:=(h.cells hx).2.1
 rw [hu1]at c6
 simp only [Option.map_some,lk_some]at c6
 have hkl:=hF.few p
 have HK:=Lib.hid h
 have HR:=Lib.hid hr
 have HW:=Lib.hid (And.intro hws (And.intro hnd hl))
 have HP:=Lib.hid hp
 have hlen:A.length+(x::b).length≤900000:=by
  have h1:=congrArg List.length hl
  rw [List.length_append]at h1
  omega
 have hALn:A.length≤900000:=by omega
 clear h hr hws hnd hp hF hkl hl2
 clear hl
 go_enter Tryz.func106,Tryz.ntmps106
 go_wp2
 go_quiet (exact Calls.quiet_of_same ((HPLC.out _).mono fun _ _ hh=>⟨hh.1,hh.2.symm⟩))
 obtain⟨wz,hwz⟩:∃wz,w.drewN nq=wz:=⟨_,rfl⟩
 have HKZ:=Lib.hid (show Knots B wz n kn kv av pl lab F1 by rw [←hwz];exact HK.out.drewN _)
 have HOZ:=Lib.hid (show OnlyK n kn w wz by rw [←hwz];exact OnlyK.of_below (below_drewN (Below.refl _ _) _))
 have HRZ:=Lib.hid (show wz.ownsRow B1 69 1 (.slice (some ⟨gw,0,none⟩) ws.length cw) ws.length (ws.map fun y=>ptrV (kn y)) by rw [←hwz];exact HR.out)
 rw [hwz]
 clear hwz
 clear c6
 go_wp2
 go_loopw [10] (fun iv wr=>∃(i:Nat) (kv:Nat→Value),i≤ws.length∧iv=.int .i64 (i:Int)∧Hid (Knots B wr n kn kv av pl lab (F1.ins p A (ws.take i) (x::b)))∧Hid (OnlyK n kn w wr)∧Hid (wr.ownsRow B1 69 1 (.slice (some ⟨gw,0,none⟩) ws.length cw) ws.length (ws.map fun y=>ptrV (kn y)))) (fun iv _=>ws.length-(intOf iv).toNat)
 case atStart=>exact⟨0,kv,by omega,by go_num,Lib.hid (by rw [List.take_zero,ins_nil HW.out.2.2];exact HKZ.out),HOZ,HRZ⟩
 case round=>
  obtain⟨i,kv,hi,rfl,HKr,HOr,HRr⟩:=hrel
  by_cases hlt:i<ws.length
  ·have ci:=own_krow HRr.out i hlt
   obtain⟨h1,h2,h3⟩:=HW.out.1 _ (getD_mem' (d:=0) hlt)
   have htk:=take_snoc hlt
   have hwT:ws.getD i 0∉ws.take i:=fun hm=>by
    have h4:=HW.out.2.1
    rw [←List.take_append_drop i ws,List.nodup_append]at h4
    refine h4.2.2 _ hm _ ?_ rfl
    rw [List.drop_eq_getElem_cons hlt,List.getD_eq_getElem?_getD,List.getElem?_eq_getElem hlt]
    exact List.mem_cons_self ..
   obtain⟨v,hv⟩:∃v,ws.getD i 0=v:=⟨_,rfl⟩
   rw [hv]at ci h1 h2 h3 htk hwT
   have hiI:(i:Int)<(ws.length:Int):=by omega
   have hti:(ws.take i).length=i:=by rw [List.length_take];omega
   have hput:=putK_any HKr.out (x:=v) (p:=p) HP.out h1 h2 (by simp only [Wd.ins,if_neg hwT];exact h3) (A++ws.take i) (x::b) (by simp [Wd.ins]) (by simp only [Wd.ins,if_pos];simp only [List.length_append,List.length_cons,List.length_nil,hti]at hlen ⊢;omega)
   have hil:((A++ws.take i).length:Int)=(A.length:Int)+(i:Int):=by rw [List.length_append,hti];simp
   rw [hil,List.length_append,ins_put,←htk]at hput
   have HPUT:=Lib.hid hput
   clear hput hv h1 h2 h3 htk hwT hil hti
   go_wp2_with fail
   refine HPUT.out.mono ?_
   rintro e w3 ⟨kv3,rfl,hk3,ho3⟩
   have HR3:=Lib.hid (own_onlyK HKr.out HRr.out ho3.out)
   have HO3:=Lib.hid (HOr.out.trans ho3.out)
   clear ho3 HPUT ci
   go_wp2
   refine⟨?rel,?measure⟩
   case rel=>exact⟨i+1,kv3,by omega,by go_num,hk3,HO3,HR3⟩
   case measure=>simp [intOf];omega
  ·obtain rfl:i=ws.length:=by omega
   have hk:=HKr.out
   rw [List.take_length]at hk
   have HKE:=Lib.hid hk
   clear hk
   go_wp2
   go_end0
   exact⟨_,rfl,HKE,HOr⟩
set_option maxRecDepth 100000 in
set_option maxHeartbeats 4000000 in
theorem inserted_prepend{B B1:Nat}{w:World}{n:Nat}{kn:Nat→Nat}{kv av:Nat→Value}{pl:Nat→Int}{lab:Nat→NodeD}{F1:Wd}(h:Knots B w n kn kv av pl lab F1)(hF:WOk n F1)(hn:n≤900000)(f:Nat){x p:Nat}{A B' ws:List Nat}(hl:F1.kids p=A++B')(hpx:x=p)(hA0:A=[])(hx:x<n)(hp:p<n)(gw cw:Nat)(hr:w.ownsRow B1 69 1 (.slice (some ⟨gw,0,none⟩) ws.length cw) ws.length (ws.map fun y=>ptrV (kn y)))(hws:∀v∈ws,v<n∧v≠p∧F1.up v=none)(hnd:ws.Nodup)(hwl:ws.length≤200):
  Calls Tryz.prog 106 #[.pointer (some ⟨f,0,none⟩),.int .i64 2,.pointer (some ⟨kn x,0,none⟩),.slice (some ⟨gw,0,none⟩) ws.length cw] w (InsPost B n kn av pl lab (F1.ins p A ws B') w):=by
 have HPX:=Lib.hid hpx
 subst hA0
 clear hpx
 have hkl:=hF.few p
 have HK:=Lib.hid h
 have HR:=Lib.hid hr
 have HW:=Lib.hid (And.intro hws (And.intro hnd hl))
 have HP:=Lib.hid hp
 have hlen:([]:List Nat).length+B'.length≤900000:=by
  have h1:=congrArg List.length hl
  rw [List.length_append]at h1
  omega
 clear h hr hws hnd hp hF hkl
 clear hl
 go_enter Tryz.func106,Tryz.ntmps106
 have HKZ:=HK
 have HOZ:=Lib.hid (OnlyK.refl n kn w)
 have HRZ:=HR
 go_wp2
 go_loopw [10] (fun iv wr=>∃(i:Nat) (kv:Nat→Value),i≤ws.length∧iv=.int .i64 (i:Int)∧Hid (Knots B wr n kn kv av pl lab (F1.ins p [] (ws.take i) B'))∧Hid (OnlyK n kn w wr)∧Hid (wr.ownsRow B1 69 1 (.slice (some ⟨gw,0,none⟩) ws.length cw) ws.length (ws.map fun y=>ptrV (kn y)))) (fun iv _=>ws.length-(intOf iv).toNat)
 case atStart=>exact⟨0,kv,by omega,by go_num,Lib.hid (by rw [List.take_zero,ins_nil HW.out.2.2];exact HKZ.out),HOZ,HRZ⟩
 case round=>
  obtain⟨i,kv,hi,rfl,HKr,HOr,HRr⟩:=hrel
  by_cases hlt:i<ws.length
  ·have ci:=own_krow HRr.out i hlt
   obtain⟨h1,h2,h3⟩:=HW.out.1 _ (getD_mem' (d:=0) hlt)
   have htk:=take_snoc hlt
   have hwT:ws.getD i 0∉ws.take i:=fun hm=>by
    have h4:=HW.out.2.1
    rw [←List.take_append_drop i ws,List.nodup_append]at h4
    refine h4.2.2 _ hm _ ?_ rfl
    rw [List.drop_eq_getElem_cons hlt,List.getD_eq_getElem?_getD,List.getElem?_eq_getElem hlt]
    exact List.mem_cons_self ..
   obtain⟨v,hv⟩:∃v,ws.getD i 0=v:=⟨_,rfl⟩
   rw [hv]at ci h1 h2 h3 htk hwT
   have hiI:(i:Int)<(ws.length:Int):=by omega
   have hti:(ws.take i).length=i:=by rw [List.length_take];omega
   have hput:=putK_any HKr.out (x:=v) (p:=p) HP.out h1 h2 (by simp only [Wd.ins,if_neg hwT];exact h3) ([]++ws.take i) B' (by simp [Wd.ins]) (by simp only [Wd.ins,if_pos];simp only [List.length_append,List.length_cons,List.length_nil,hti]at hlen ⊢;omega)
   have hil:(([]++ws.take i).length:Int)=(i:Int):=by rw [List.nil_append,hti]
   rw [hil,List.length_append,ins_put,←htk]at hput
   have hput:Calls Tryz.prog 108 #[.pointer (some ⟨kn x,0,none⟩),.int .i64 (i:Int),.pointer (some ⟨kn v,0,none⟩)] wr (TurnKPost B n kn av pl lab (F1.ins p [] (ws.take (i+1)) B') wr):=by rw [HPX.out];exact hput
   have HPUT:=Lib.hid hput
   clear hput hv h1 h2 h3 htk hwT hil hti
   go_wp2_with fail
   refine HPUT.out.mono ?_
   rintro e w3 ⟨kv3,rfl,hk3,ho3⟩
   have HR3:=Lib.hid (own_onlyK HKr.out HRr.out ho3.out)
   have HO3:=Lib.hid (HOr.out.trans ho3.out)
   clear ho3 HPUT ci
   go_wp2
   refine⟨?rel,?measure⟩
   case rel=>exact⟨i+1,kv3,by omega,by go_num,hk3,HO3,HR3⟩
   case measure=>simp [intOf];omega
  ·obtain rfl:i=ws.length:=by omega
   have hk:=HKr.out
   rw [List.take_length]at hk
   have HKE:=Lib.hid hk
   clear hk
   go_wp2
   go_end0
   exact⟨_,rfl,HKE,HOr⟩
set_option maxRecDepth 100000 in
set_option maxHeartbeats 4000000 in
theorem inserted_replace{B B1:Nat}{w:World}{n:Nat}{kn:Nat→Nat}{kv av:Nat→Value}{pl:Nat→Int}{lab:Nat→NodeD}{F1:Wd}(h:Knots B w n kn kv av pl lab F1)(hF:WOk n F1)(hn:n≤900000)(f:Nat){x p:Nat}{A B' ws:List Nat}(hl:F1.kids p=A++B')(hu1:F1.up x=some p)(hA0:∃a,A=a++[x])(hx:x<n)(hp:p<n)(gw cw:Nat)(hr:w.ownsRow B1 69 1 (.slice (some ⟨gw,0,none⟩) ws.length cw) ws.length (ws.map fun y=>ptrV (kn y)))(hws:∀v∈ws,v<n∧v≠p∧F1.up v=none)(hnd:ws.Nodup)(hwl:ws.length≤200):
  Calls Tryz.prog 106 #[.pointer (some ⟨f,0,none⟩),.int .i64 5,.pointer (some ⟨kn x,0,none⟩),.slice (some ⟨gw,0,none⟩) ws.length cw] w (InsPost B n kn av pl lab (F1.ins p A ws B') w):=by
 obtain⟨a,rfl⟩:=hA0
 have hl2:F1.kids p=a++x::B':=by rw [hl];simp
 have hplc:=place_some h hF hl2
 have HPLC:=Lib.hid (fun q=>place_some (h.drewN q) hF hl2)
 have c6:=(h.cells hx).2.1
 rw [hu1]at c6
 simp only [Option.map_some,lk_some]at c6
 have hAl:((a++[x]).length:Int)=(a.length:Int)+1:=by simp
 clear hplc
 have hkl:=hF.few p
 have HK:=Lib.hid h
 have HR:=Lib.hid hr
 have HW:=Lib.hid (And.intro hws (And.intro hnd hl))
 have HP:=Lib.hid hp
 have hlen:(a++[x]).length+B'.length≤900000:=by
  have h1:=congrArg List.length hl
  rw [List.length_append]at h1
  omega
 have hALn:(a++[x]).length≤900000:=by omega
 clear h hr hws hnd hp hF hkl hl2
 clear hl
 go_enter Tryz.func106,Tryz.ntmps106
 go_wp2
 go_quiet (exact Calls.quiet_of_same ((HPLC.out _).mono fun _ _ hh=>⟨hh.1,hh.2.symm⟩))
 obtain⟨wz,hwz⟩:∃wz,w.drewN nq=wz:=⟨_,rfl⟩
 have HKZ:=Lib.hid (show Knots B wz n kn kv av pl lab F1 by rw [←hwz];exact HK.out.drewN _)
 have HOZ:=Lib.hid (show OnlyK n kn w wz by rw [←hwz];exact OnlyK.of_below (below_drewN (Below.refl _ _) _))
 have HRZ:=Lib.hid (show wz.ownsRow B1 69 1 (.slice (some ⟨gw,0,none⟩) ws.length cw) ws.length (ws.map fun y=>ptrV (kn y)) by rw [←hwz];exact HR.out)
 rw [hwz]
 clear hwz
 clear c6
 go_wp2
 go_loopw [10] (fun iv wr=>∃(i:Nat) (kv:Nat→Value),i≤ws.length∧iv=.int .i64 (i:Int)∧Hid (Knots B wr n kn kv av pl lab (F1.ins p (a++[x]) (ws.take i) B'))∧Hid (OnlyK n kn w wr)∧Hid (wr.ownsRow B1 69 1 (.slice (some ⟨gw,0,none⟩) ws.length cw) ws.length (ws.map fun y=>ptrV (kn y)))) (fun iv _=>ws.length-(intOf iv).toNat)
 case atStart=>exact⟨0,kv,by omega,by go_num,Lib.hid (by rw [List.take_zero,ins_nil HW.out.2.2];exact HKZ.out),HOZ,HRZ⟩
 case round=>
  obtain⟨i,kv,hi,rfl,HKr,HOr,HRr⟩:=hrel
  by_cases hlt:i<ws.length
  ·have ci:=own_krow HRr.out i hlt
   obtain⟨h1,h2,h3⟩:=HW.out.1 _ (getD_mem' (d:=0) hlt)
   have htk:=take_snoc hlt
   have hwT:ws.getD i 0∉ws.take i:=fun hm=>by
    have h4:=HW.out.2.1
    rw [←List.take_append_drop i ws,List.nodup_append]at h4
    refine h4.2.2 _ hm _ ?_ rfl
    rw [List.drop_eq_getElem_cons hlt,List.getD_eq_getElem?_getD,List.getElem?_eq_getElem hlt]
    exact List.mem_cons_self ..
   obtain⟨v,hv⟩:∃v,ws.getD i 0=v:=⟨_,rfl⟩
   rw [hv]at ci h1 h2 h3 htk hwT
   have hiI:(i:Int)<(ws.length:Int):=by omega
   have hti:(ws.take i).length=i:=by rw [List.length_take];omega
   have hput:=putK_any HKr.out (x:=v) (p:=p) HP.out h1 h2 (by simp only [Wd.ins,if_neg hwT];exact h3) ((a++[x])++ws.take i) B' (by simp [Wd.ins]) (by simp only [Wd.ins,if_pos];simp only [List.length_append,List.length_cons,List.length_nil,hti]at hlen ⊢;omega)
   have hil:(((a++[x])++ws.take i).length:Int)=(a.length:Int)+1+(i:Int):=by rw [List.length_append,hti];simp
   rw [hil,List.length_append,ins_put,←htk]at hput
   have HPUT:=Lib.hid hput
   clear hput hv h1 h2 h3 htk hwT hil hti
   go_wp2_with fail
   refine HPUT.out.mono ?_
   rintro e w3 ⟨kv3,rfl,hk3,ho3⟩
   have HR3:=Lib.hid (own_onlyK HKr.out HRr.out ho3.out)
   have HO3:=Lib.hid (HOr.out.trans ho3.out)
   clear ho3 HPUT ci
   go_wp2
   refine⟨?rel,?measure⟩
   case rel=>exact⟨i+1,kv3,by omega,by go_num,hk3,HO3,HR3⟩
   case measure=>simp [intOf];omega
  ·obtain rfl:i=ws.length:=by omega
   have hk:=HKr.out
   rw [List.take_length]at hk
   have HKE:=Lib.hid hk
   clear hk
   go_wp2
   go_end0
   exact⟨_,rfl,HKE,HOr⟩
end Go.Proofs.YtkdomegcacgpnaaGreat
