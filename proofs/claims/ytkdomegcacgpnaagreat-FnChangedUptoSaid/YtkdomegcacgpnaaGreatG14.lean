/- Parts of a proof: CopyAll. -/
import Derived.Test.YtkdomegcacgpnaaGreatG08
import Derived.Test.YtkdomegcacgpnaaGreatG10
import Derived.Test.YtkdomegcacgpnaaGreatG11
import Derived.Test.YtkdomegcacgpnaaGreatG13
import Derived.Test.YtkdomegcacgpnaaGreatG12
set_option linter.unusedVariables false
set_option linter.unusedSimpArgs false
namespace Go.Proofs.YtkdomegcacgpnaaGreat
def ix:List Nat→Nat→Nat
 | [],_=>0
 | a::r,y=>if a=y then 0 else ix r y+1
theorem ix_lt{y:Nat}:∀{L:List Nat},y∈L→ix L y<L.length
 | a::r,h=>by
  simp only [ix,List.length_cons]
  by_cases e:a=y
  ·rw [if_pos e];omega
  ·rw [if_neg e]
   have :=ix_lt (L:=r) (by rcases List.mem_cons.1 h with h | h;exact absurd h.symm e;exact h)
   omega
theorem ix_get{y:Nat}:∀{L:List Nat},y∈L→L.getD (ix L y) 0=y
 | a::r,h=>by
  simp only [ix]
  by_cases e:a=y
  ·rw [if_pos e];exact e
  ·rw [if_neg e,List.getD_cons_succ]
   exact ix_get (by rcases List.mem_cons.1 h with h | h;exact absurd h.symm e;exact h)
theorem get_ix:∀{L:List Nat} {j:Nat},L.Nodup→j<L.length→ix L (L.getD j 0)=j
 | a::r,0,_,_=>by simp [ix]
 | a::r,j+1,hd,h=>by
  rw [List.nodup_cons]at hd
  simp only [List.length_cons,Nat.add_lt_add_iff_right]at h
  rw [List.getD_cons_succ]
  have hm:r.getD j 0∈r:=getD_mem' h
  simp only [ix,if_neg (fun e:a=r.getD j 0=>hd.1 (e▸hm))]
  rw [get_ix hd.2 h]
theorem ix_app_left{y:Nat}{B:List Nat}:∀{A:List Nat},y∈A→ix (A++B) y=ix A y
 | a::r,h=>by
  simp only [List.cons_append,ix]
  by_cases e:a=y
  ·rw [if_pos e,if_pos e]
  ·rw [if_neg e,if_neg e,ix_app_left (by rcases List.mem_cons.1 h with h | h;exact absurd h.symm e;exact h)]
theorem ix_app_right{y:Nat}{B:List Nat}:∀{A:List Nat},y∉A→ix (A++B) y=A.length+ix B y
 | [],_=>by simp
 | a::r,h=>by
  simp only [List.mem_cons,not_or]at h
  simp only [List.cons_append,ix,if_neg (Ne.symm h.1),List.length_cons]
  rw [ix_app_right h.2]
  omega
theorem ix_inj{L:List Nat}{x y:Nat}(hx:x∈L)(hy:y∈L)(h:ix L x=ix L y):x=y:=by
 rw [←ix_get hx,←ix_get hy,h]
def cpW(F:Wd)(n:Nat)(L ws:List Nat):Wd:=
 ⟨fun q=>if n≤q∧q<n+L.length then(F.kids (L.getD (q-n) 0)).map (fun y=>n+ix L y)else F.kids q,
  fun q=>if n≤q∧q<n+L.length then(if L.getD (q-n) 0∈ws then none else(F.up (L.getD (q-n) 0)).map (fun y=>n+ix L y))else F.up q⟩
structure CpOk (n:Nat) (F:Wd) (L ws:List Nat):Prop where
 nd:L.Nodup
 lt:∀y∈L,y<n
 sub:∀x∈L,∀y∈F.kids x,y∈L∧y∉ws
 up:∀y∈L,y∉ws→∃p∈L,F.up y=some p
 ws:∀x∈ws,x∈L
theorem cpOk_of{n:Nat}{F:Wd}(hF:WOk n F){L ws:List Nat}(h:Fl F.kids ws L)(hl:Lone F ws)(hw:∀x∈ws,x<n):CpOk n F L ws:=by
 have hlt:∀y∈L,y<n:=fun y hy=>by
  obtain⟨q,hq,ha⟩:=(h.anc hF y).1 hy
  rcases ha.inv with e | ⟨p,hp,_⟩
  ·rw [←e];exact hw q hq
  ·exact(hF.lt p y ((hF.iff p y).2 hp)).2
 refine⟨h.nodup hF hl,hlt,fun x hx y hy=>?_,fun y hy hn=>?_,fun x hx=>(h.anc hF x).2 ⟨x,hx,.refl⟩⟩
 ·obtain⟨q,hq,ha⟩:=(h.anc hF x).1 hx
  have hu:=(hF.iff x y).1 hy
  refine⟨(h.anc hF y).2 ⟨q,hq,.step hu ha⟩,fun hm=>?_⟩
  have e:=hl.2 q hq y hm (.step hu ha)
  subst e
  exact hF.not_up hu ha
 ·obtain⟨q,hq,ha⟩:=(h.anc hF y).1 hy
  rcases ha.inv with e | ⟨p,hp,hpa⟩
  ·exact absurd (e▸hq) hn
  ·exact⟨p,(h.anc hF p).2 ⟨q,hq,hpa⟩,hp⟩
theorem cp_old{F:Wd}{n q:Nat}(L ws:List Nat)(h:q<n):(cpW F n L ws).kids q=F.kids q∧(cpW F n L ws).up q=F.up q:=by
 simp only [cpW]
 rw [if_neg (by omega),if_neg (by omega)]
 exact⟨rfl,rfl⟩
theorem cp_new{F:Wd}{n:Nat}{L ws:List Nat}{x:Nat}(hx:x∈L):(cpW F n L ws).kids (n+ix L x)=(F.kids x).map (fun y=>n+ix L y)∧
  (cpW F n L ws).up (n+ix L x)=if x∈ws then none else(F.up x).map (fun y=>n+ix L y):=by
 have :=ix_lt hx
 have e:n+ix L x-n=ix L x:=by omega
 simp only [cpW]
 rw [if_pos (by omega),if_pos (by omega),e,ix_get hx]
 exact⟨rfl,rfl⟩
theorem cp_num{n q:Nat}{L:List Nat}(hd:L.Nodup)(h:n≤q)(h2:q<n+L.length):∃x∈L,q=n+ix L x:=by
 have hj:q-n<L.length:=by omega
 refine⟨L.getD (q-n) 0,getD_mem' hj,?_⟩
 rw [get_ix hd hj]
 omega
theorem cp_far{n:Nat}{F:Wd}(hF:WOk n F){q:Nat}{L ws:List Nat}(h:n+L.length≤q):(cpW F n L ws).kids q=[]∧(cpW F n L ws).up q=none:=by
 have h1:F.kids q=[]:=by
  cases hk:F.kids q with
  | nil=>rfl
  | cons y r=>have :=(hF.lt q y (by rw [hk];exact List.mem_cons_self ..)).1;omega
 have h2:F.up q=none:=by
  cases hu:F.up q with
  | none=>rfl
  | some p=>have :=(hF.lt p q ((hF.iff p q).2 hu)).2;omega
 simp only [cpW]
 rw [if_neg (by omega),if_neg (by omega)]
 exact⟨h1,h2⟩
theorem cp_ok{n:Nat}{F:Wd}(hF:WOk n F){L ws:List Nat}(h:CpOk n F L ws):WOk (n+L.length) (cpW F n L ws):=by
 have hbig:∀y∈L,∀z,z∈F.kids y→n≤n+ix L z:=fun _ _ z _=>by omega
 refine⟨fun x y hy=>?_,fun x y=>?_,fun x=>?_,?_⟩
 ·by_cases hx:x<n
  ·rw [(cp_old L ws hx).1]at hy
   have :=hF.lt x y hy
   omega
  ·by_cases hx2:x<n+L.length
   ·obtain⟨a,ha,rfl⟩:=cp_num h.nd (by omega) hx2
    rw [(cp_new ha).1,List.mem_map]at hy
    obtain⟨b,hb,rfl⟩:=hy
    have :=ix_lt (h.sub a ha b hb).1
    omega
   ·rw [(cp_far hF (by omega)).1]at hy
    cases hy
 ·by_cases hy:y<n
  ·rw [(cp_old L ws hy).2]
   by_cases hx:x<n
   ·rw [(cp_old L ws hx).1]
    exact hF.iff x y
   ·constructor
    ·intro hm
     by_cases hx2:x<n+L.length
     ·obtain⟨a,ha,rfl⟩:=cp_num h.nd (by omega) hx2
      rw [(cp_new ha).1,List.mem_map]at hm
      obtain⟨b,hb,e⟩:=hm
      omega
     ·rw [(cp_far hF (by omega)).1]at hm
      cases hm
    ·intro hu
     have :=(hF.lt x y ((hF.iff x y).2 hu)).1
     omega
  ·by_cases hy2:y<n+L.length
   ·obtain⟨b,hb,rfl⟩:=cp_num h.nd (by omega) hy2
    rw [(cp_new hb).2]
    by_cases hx:x<n
    ·rw [(cp_old L ws hx).1]
     constructor
     ·intro hm
      have :=(hF.lt x _ hm).2
      omega
     ·intro hu
      split at hu
      ·cases hu
      ·obtain⟨p,hp,hpx⟩:=Option.map_eq_some_iff.1 hu
       omega
    ·by_cases hx2:x<n+L.length
     ·obtain⟨a,ha,rfl⟩:=cp_num h.nd (by omega) hx2
      rw [(cp_new ha).1,List.mem_map]
      constructor
      ·rintro⟨c,hc,e⟩
       have hcL:=h.sub a ha c hc
       have e2:c=b:=ix_inj hcL.1 hb (by omega)
       subst e2
       rw [if_neg hcL.2,(hF.iff a c).1 hc]
       rfl
      ·intro hu
       split at hu
       ·cases hu
       ·rename_i hnw
        obtain⟨p,hp,hpx⟩:=Option.map_eq_some_iff.1 hu
        obtain⟨p2,hp2,hu2⟩:=h.up b hb hnw
        have e0:p2=p:=Option.some.inj (hu2.symm.trans hp)
        rw [←e0]at hpx
        have e2:p2=a:=ix_inj hp2 ha (by omega)
        rw [←e2]
        exact⟨b,(hF.iff _ _).2 hu2,rfl⟩
     ·rw [(cp_far hF (by omega)).1]
      constructor
      ·intro hm;cases hm
      ·intro hu
       split at hu
       ·cases hu
       ·rename_i hnw
        obtain⟨p2,hp2,hu2⟩:=h.up b hb hnw
        rw [hu2]at hu
        simp at hu
        have :=ix_lt hp2
        omega
   ·rw [(cp_far hF (by omega)).2]
    constructor
    ·intro hm
     by_cases hx:x<n
     ·rw [(cp_old L ws hx).1]at hm
      have :=(hF.lt x y hm).2
      omega
     ·by_cases hx2:x<n+L.length
      ·obtain⟨a,ha,rfl⟩:=cp_num h.nd (by omega) hx2
       rw [(cp_new ha).1,List.mem_map]at hm
       obtain⟨b,hb,rfl⟩:=hm
       have :=ix_lt (h.sub a ha b hb).1
       omega
      ·rw [(cp_far hF (by omega)).1]at hm
       cases hm
    ·intro hu;cases hu
 ·by_cases hx:x<n
  ·rw [(cp_old L ws hx).1]
   exact hF.nd x
  ·by_cases hx2:x<n+L.length
   ·obtain⟨a,ha,rfl⟩:=cp_num h.nd (by omega) hx2
    rw [(cp_new ha).1]
    have hk:=hF.nd a
    have hm:∀y∈F.kids a,y∈L:=fun y hy=>(h.sub a ha y hy).1
    revert hk hm
    generalize F.kids a=l
    intro hk hm
    induction l with
    | nil=>exact List.nodup_nil
    | cons c r ih=>
     rw [List.nodup_cons]at hk
     rw [List.map_cons,List.nodup_cons]
     refine⟨fun hc=>?_,ih hk.2 (fun y hy=>hm y (List.mem_cons_of_mem _ hy))⟩
     obtain⟨b,hb,e⟩:=List.mem_map.1 hc
     have e2:=ix_inj (hm b (List.mem_cons_of_mem _ hb)) (hm c (List.mem_cons_self ..)) (by omega)
     subst e2
     exact hk.1 hb
   ·rw [(cp_far hF (by omega)).1]
    exact List.nodup_nil
 ·obtain⟨d,M,h1,h2⟩:=hF.deep
  refine⟨fun q=>if n≤q∧q<n+L.length then d (L.getD (q-n) 0)else d q,M,fun y=>by simp only;split <;> exact h1 _,fun x y hu=>?_⟩
  by_cases hy:y<n
  ·rw [(cp_old L ws hy).2]at hu
   have hx:=(hF.lt x y ((hF.iff x y).2 hu)).1
   simp only
   rw [if_neg (by omega),if_neg (by omega)]
   exact h2 x y hu
  ·by_cases hy2:y<n+L.length
   ·obtain⟨b,hb,rfl⟩:=cp_num h.nd (by omega) hy2
    rw [(cp_new hb).2]at hu
    split at hu
    ·cases hu
    ·rename_i hnw
     obtain⟨p2,hp2,hu2⟩:=h.up b hb hnw
     rw [hu2]at hu
     simp at hu
     subst hu
     have k1:=ix_lt hp2
     have k2:=ix_lt hb
     have e1:n+ix L p2-n=ix L p2:=by omega
     have e2:n+ix L b-n=ix L b:=by omega
     simp only
     rw [if_pos (by omega),if_pos (by omega),e1,e2,ix_get hp2,ix_get hb]
     exact h2 _ _ hu2
   ·rw [(cp_far hF (by omega)).2]at hu
    cases hu
theorem cp_root{F:Wd}{n:Nat}{L ws:List Nat}{x:Nat}(hx:x∈ws)(hL:x∈L):(cpW F n L ws).up (n+ix L x)=none:=by
 rw [(cp_new hL).2,if_pos hx]
theorem Fl.congr{k1 k2:Nat→List Nat}{xs L:List Nat}(h:Fl k1 xs L):(∀y∈L,k2 y=k1 y)→Fl k2 xs L:=by
 induction h with
 | nil=>intro _;exact .nil
 | @cons x xs A B h1 h2 ih1 ih2=>
  intro hk
  have e:=hk x (List.mem_cons_self ..)
  refine .cons ?_ (ih2 (fun y hy=>hk y (List.mem_cons_of_mem _ (List.mem_append_right _ hy))))
  rw [e]
  exact ih1 (fun y hy=>hk y (List.mem_cons_of_mem _ (List.mem_append_left _ hy)))
theorem getD_app_left{L1 L2:List Nat}{j:Nat}(h:j<L1.length):(L1++L2).getD j 0=L1.getD j 0:=by
 rw [List.getD_eq_getElem?_getD,List.getD_eq_getElem?_getD,List.getElem?_append_left h]
theorem getD_app_right{L1 L2:List Nat}{j:Nat}(h:L1.length≤j):(L1++L2).getD j 0=L2.getD (j-L1.length) 0:=by
 rw [List.getD_eq_getElem?_getD,List.getD_eq_getElem?_getD,List.getElem?_append_right h]
theorem map_same{f g:Nat→Nat}{l:List Nat}(h:∀y∈l,f y=g y):l.map f=l.map g:=List.map_congr_left h
theorem cp_snoc{n:Nat}{F:Wd}{L1 L2 w1 w2:List Nat}(h1:CpOk n F L1 w1)(h2:CpOk n F L2 w2)(hd:∀y∈L1,y∉L2):cpW (cpW F n L1 w1) (n+L1.length) L2 w2=cpW F n (L1++L2) (w1++w2):=by
 have hgap:∀q,n+L1.length≤q→q-n-L1.length=q-(n+L1.length):=fun q _=>by omega
 have k1:∀y∈L1,(y∈w1++w2↔y∈w1):=fun y hy=>by
  rw [List.mem_append]
  exact⟨fun h=>h.elim id (fun hm=>absurd (h2.ws y hm) (hd y hy)),.inl⟩
 have k2:∀y∈L2,(y∈w1++w2↔y∈w2):=fun y hy=>by
  rw [List.mem_append]
  exact⟨fun h=>h.elim (fun hm=>absurd hy (hd y (h1.ws y hm))) id,.inr⟩
 have hlen:(L1++L2).length=L1.length+L2.length:=List.length_append
 show Wd.mk _ _=Wd.mk _ _
 rw [Wd.mk.injEq]
 refine⟨funext fun q=>?_,funext fun q=>?_⟩
 ·show(if _ then _ else(cpW F n L1 w1).kids q)=if _ then _ else _
  by_cases a:n+L1.length≤q
  ·by_cases b:q<n+L1.length+L2.length
   ·have hj:q-(n+L1.length)<L2.length:=by omega
    have hm:=getD_mem' (d:=0) hj
    rw [if_pos ⟨a,b⟩,if_pos (by omega),getD_app_right (by omega),hgap q a,(cp_old _ _ (h2.lt _ hm)).1]
    refine map_same (fun y hy=>?_)
    rw [ix_app_right (fun hy1=>hd y hy1 (h2.sub _ hm y hy).1)]
    omega
   ·rw [if_neg (by omega),if_neg (by omega)]
    simp only [cpW]
    rw [if_neg (by omega)]
  ·rw [if_neg (by omega)]
   by_cases b:n≤q
   ·have hj:q-n<L1.length:=by omega
    have hm:=getD_mem' (d:=0) hj
    rw [if_pos (by omega),getD_app_left hj]
    simp only [cpW]
    rw [if_pos (by omega)]
    refine map_same (fun y hy=>?_)
    rw [ix_app_left (h1.sub _ hm y hy).1]
   ·rw [if_neg (by omega)]
    simp only [cpW]
    rw [if_neg (by omega)]
 ·show(if _ then(if _ then _ else _)else(cpW F n L1 w1).up q)=if _ then(if _ then _ else _)else _
  by_cases a:n+L1.length≤q
  ·by_cases b:q<n+L1.length+L2.length
   ·have hj:q-(n+L1.length)<L2.length:=by omega
    have hm:=getD_mem' (d:=0) hj
    rw [if_pos ⟨a,b⟩,if_pos (show n≤q∧q<n+(L1++L2).length by omega),getD_app_right (by omega),hgap q a,(cp_old _ _ (h2.lt _ hm)).2]
    generalize L2.getD (q-(n+L1.length)) 0=y at hm
    by_cases e:y∈w2
    ·rw [if_pos e,if_pos ((k2 y hm).2 e)]
    ·rw [if_neg e,if_neg (fun h=>e ((k2 y hm).1 h))]
     obtain⟨p,hp,hu⟩:=h2.up y hm e
     rw [hu]
     simp only [Option.map_some,Option.some.injEq]
     rw [ix_app_right (fun hy1=>hd p hy1 hp)]
     omega
   ·rw [if_neg (by omega),if_neg (by omega)]
    simp only [cpW]
    rw [if_neg (by omega)]
  ·rw [if_neg (by omega)]
   by_cases b:n≤q
   ·have hj:q-n<L1.length:=by omega
    have hm:=getD_mem' (d:=0) hj
    rw [if_pos (show n≤q∧q<n+(L1++L2).length by omega),getD_app_left hj]
    simp only [cpW]
    rw [if_pos (show n≤q∧q<n+L1.length by omega)]
    generalize L1.getD (q-n) 0=y at hm
    by_cases e:y∈w1
    ·rw [if_pos e,if_pos ((k1 y hm).2 e)]
    ·rw [if_neg e,if_neg (fun h=>e ((k1 y hm).1 h))]
     obtain⟨p,hp,hu⟩:=h1.up y hm e
     rw [hu]
     simp only [Option.map_some,Option.some.injEq]
     rw [ix_app_left hp]
   ·rw [if_neg (by omega)]
    simp only [cpW]
    rw [if_neg (by omega)]
theorem cp_nil(F:Wd)(n:Nat):cpW F n [] []=F:=by
 cases F
 simp only [cpW,Wd.mk.injEq]
 refine⟨funext fun q=>?_,funext fun q=>?_⟩ <;> rw [if_neg (by simp)]
def cgW(F:Wd)(n:Nat)(L ys:List Nat):Wd:=(cpW F (n+1) L ys).ins n [] (ys.map fun y=>n+1+ix L y) []
theorem cg_all{n:Nat}{F:Wd}(hF:WOk n F){x:Nat}{L:List Nat}(hx:x<n)(h:CpOk n F L (F.kids x))(hxL:x∉L):cgW F n L (F.kids x)=cpW F n (x::L) [x]:=by
 have hfn:F.kids n=[]:=by
  cases hk:F.kids n with
  | nil=>rfl
  | cons y r=>have :=(hF.lt n y (by rw [hk];exact List.mem_cons_self ..)).1;omega
 have e1:∀y,y∈L→n+ix (x::L) y=n+1+ix L y:=fun y hy=>by
  simp only [ix,if_neg (fun e:x=y=>hxL (e▸hy))]
  omega
 show Wd.mk _ _=Wd.mk _ _
 rw [Wd.mk.injEq]
 refine⟨funext fun q=>?_,funext fun q=>?_⟩
 ·simp only [List.nil_append,List.append_nil,List.length_cons]
  by_cases a:q=n
  ·subst a
   rw [if_pos rfl,if_pos (by omega),Nat.sub_self,List.getD_cons_zero]
   exact map_same (fun y hy=>(e1 y (by
    exact h.ws y hy)).symm)
  ·rw [if_neg a]
   simp only [cpW]
   by_cases b:n+1≤q∧q<n+1+L.length
   ·have hj:q-(n+1)<L.length:=by omega
    have e2:q-n=(q-(n+1))+1:=by omega
    have hm:=getD_mem' (d:=0) hj
    rw [if_pos b,if_pos (by omega),e2,List.getD_cons_succ]
    exact map_same (fun y hy=>(e1 y (h.sub _ hm y hy).1).symm)
   ·rw [if_neg b,if_neg (by omega)]
 ·simp only [cpW,List.length_cons]
  by_cases a:q=n
  ·subst a
   rw [if_neg (by
    intro hm
    obtain⟨y,_,e⟩:=List.mem_map.1 hm
    omega),if_neg (by omega),if_pos (by omega),Nat.sub_self,List.getD_cons_zero,if_pos (by simp)]
   cases hu:F.up q with
   | none=>rfl
   | some p=>have :=(hF.lt p q ((hF.iff p q).2 hu)).2;omega
  ·by_cases b:n+1≤q∧q<n+1+L.length
   ·obtain⟨y,hy,rfl⟩:=cp_num h.nd b.1 b.2
    have e2:n+1+ix L y-n=ix L y+1:=by omega
    have e3:n+1+ix L y-(n+1)=ix L y:=by omega
    have hyx:y≠x:=fun e=>hxL (e▸hy)
    rw [if_pos (show n≤n+1+ix L y∧n+1+ix L y<n+(L.length+1) by omega),e2,List.getD_cons_succ,ix_get hy,if_neg (show y∉[x] by simpa using hyx)]
    by_cases c:y∈F.kids x
    ·rw [if_pos (show n+1+ix L y∈(F.kids x).map (fun y=>n+1+ix L y) from List.mem_map.2 ⟨y,c,rfl⟩),(hF.iff x y).1 c]
     simp [ix]
    ·rw [if_neg (show n+1+ix L y∉(F.kids x).map (fun y=>n+1+ix L y) from fun hm=>by
      obtain⟨z,hz,e⟩:=List.mem_map.1 hm
      have :=ix_inj (h.ws z hz) hy (by omega)
      subst this
      exact c hz),if_pos b,e3,ix_get hy,if_neg c]
     obtain⟨p,hp,hu⟩:=h.up y hy c
     rw [hu]
     simp only [Option.map_some]
     rw [e1 p hp]
   ·rw [if_neg (by
     intro hm
     obtain⟨z,hz,e⟩:=List.mem_map.1 hm
     have :=ix_lt (h.ws z hz)
     omega),if_neg b,if_neg (by omega)]
theorem cg_nil{n:Nat}{F:Wd}(hF:WOk n F):cgW F n [] []=F:=by
 unfold cgW
 rw [cp_nil]
 refine ins_nil ?_
 cases hk:F.kids n with
 | nil=>rfl
 | cons y r=>have :=(hF.lt n y (by rw [hk];exact List.mem_cons_self ..)).1;omega
theorem cg_snoc{n:Nat}{F:Wd}(hF:WOk n F){L1 L2 ys:List Nat}{y:Nat}(h1:CpOk (n+1) F L1 ys)(h2:CpOk (n+1) F L2 [y])(hd:∀z∈L1,z∉L2)(hn:n∉L2)(hy:L2.head?=some y):
  (cpW (cgW F n L1 ys) (n+1+L1.length) L2 [y]).put n ys.length (n+1+L1.length)=cgW F n (L1++L2) (ys++[y]):=by
 have e0:ix L2 y=0:=by
  cases L2 with
  | nil=>cases hy
  | cons a r=>simp at hy;simp [ix,hy]
 have hyL:y∈L2:=h2.ws y (by simp)
 have eroot:n+1+ix (L1++L2) y=n+1+L1.length:=by
  rw [ix_app_right (fun h=>hd y h hyL),e0]
  omega
 have hcom:cpW (cgW F n L1 ys) (n+1+L1.length) L2 [y]=(cpW (cpW F (n+1) L1 ys) (n+1+L1.length) L2 [y]).ins n [] (ys.map fun y=>n+1+ix L1 y) []:=by
  unfold cgW
  show Wd.mk _ _=Wd.mk _ _
  rw [Wd.mk.injEq]
  refine⟨funext fun q=>?_,funext fun q=>?_⟩
  ·by_cases a:n+1+L1.length≤q∧q<n+1+L1.length+L2.length
   ·have hj:q-(n+1+L1.length)<L2.length:=by omega
    have hm:=getD_mem' (d:=0) hj
    rw [if_pos a,if_neg (by omega)]
    simp only [Wd.ins,cpW]
    rw [if_neg (fun e:L2.getD (q-(n+1+L1.length)) 0=n=>hn (e▸hm)),if_pos a]
   ·rw [if_neg a]
    simp only [Wd.ins,cpW]
    rw [if_neg a]
  ·by_cases a:n+1+L1.length≤q∧q<n+1+L1.length+L2.length
   ·have hj:q-(n+1+L1.length)<L2.length:=by omega
    have hm:=getD_mem' (d:=0) hj
    have hnm:q∉ys.map fun y=>n+1+ix L1 y:=fun hm=>by
     obtain⟨z,hz,e⟩:=List.mem_map.1 hm
     have :=ix_lt (h1.ws z hz)
     omega
    have hnm2:L2.getD (q-(n+1+L1.length)) 0∉ys.map fun y=>n+1+ix L1 y:=fun hmm=>by
     obtain⟨z,hz,e⟩:=List.mem_map.1 hmm
     have :=h2.lt _ hm
     omega
    rw [if_pos a,if_neg hnm]
    simp only [Wd.ins]
    rw [if_neg hnm2]
    simp only [cpW]
    rw [if_pos a]
   ·rw [if_neg a]
    simp only [Wd.ins]
    by_cases hm:q∈ys.map fun y=>n+1+ix L1 y
    ·rw [if_pos hm,if_pos hm]
    ·rw [if_neg hm,if_neg hm]
     simp only [cpW]
     rw [if_neg a]
 have hmap:(ys.map fun z=>n+1+ix (L1++L2) z)=ys.map fun z=>n+1+ix L1 z:=map_same (fun z hz=>by rw [ix_app_left (h1.ws z hz)])
 have hput:=ins_put (cpW (cpW F (n+1) L1 ys) (n+1+L1.length) L2 [y]) n [] (ys.map fun y=>n+1+ix L1 y) [] (n+1+L1.length)
 rw [List.length_nil,Nat.zero_add,List.length_map]at hput
 rw [hcom,hput,cp_snoc h1 h2 hd]
 unfold cgW
 rw [List.map_append,List.map_cons,List.map_nil,eroot,hmap]
end Go.Proofs.YtkdomegcacgpnaaGreat
namespace Go.Proofs.YtkdomegcacgpnaaGreat
open Go.RowKit
def upd{α:Type}(g:Nat→α)(x:Nat)(v:α):Nat→α:=fun i=>if i=x then v else g i
theorem upd_same{α:Type}(g:Nat→α)(x:Nat)(v:α):upd g x v x=v:=by simp [upd]
theorem upd_other{α:Type}(g:Nat→α){x i:Nat}(v:α)(h:i≠x):upd g x v i=g i:=by simp [upd,h]
structure KeptF (f:Nat) (w w':World):Prop where
 size:w.heap.size≤w'.heap.size
 block:∀k,k<w.heap.size→k≠f→w'.heap[k]? =w.heap[k]?
 below:∀B,B≤w.heap.size→B≤f→Below B w w'
theorem KeptF.refl(f:Nat)(w:World):KeptF f w w:=⟨Nat.le_refl _,fun _ _ _=>rfl,fun _ _ _=>Below.refl _ _⟩
theorem KeptF.trans{f:Nat}{a b c:World}(h:KeptF f a b)(h':KeptF f b c):KeptF f a c:=
 ⟨Nat.le_trans h.size h'.size,fun k hk hf=>(h'.block k (Nat.lt_of_lt_of_le hk h.size) hf).trans (h.block k hk hf),fun B hB hf=>(h.below B hB hf).trans (h'.below B (Nat.le_trans hB h.size) hf)⟩
theorem KeptF.of_below{f:Nat}{w w':World}(h:Below w.heap.size w w'):KeptF f w w':=⟨h.size,fun k hk _=>h.block k hk,fun B hB _=>h.mono hB⟩
theorem KeptF.set{f:Nat}{a w:World}(h:KeptF f a w){cs:Array Value}{t:TypeId}(ho:World.objAt w f cs t)(o:Nat)(v:Value):KeptF f a (w.setCell ⟨f,o,none⟩ v):=by
 refine⟨by rw [size_set9];exact h.size,fun k hk hn=>?_,fun B hB hn=>ho.setBelow o v (h.below B hB hn) hn⟩
 rw [setCell_block ho o v hn]
 exact h.block k hk hn
theorem KeptF.set_new{f:Nat}{a w:World}(h:KeptF f a w){b:Nat}{cs:Array Value}{t:TypeId}(ho:World.objAt w b cs t)(hb:a.heap.size≤b)(o:Nat)(v:Value):KeptF f a (w.setCell ⟨b,o,none⟩ v):=by
 refine⟨by rw [size_set9];exact h.size,fun k hk hn=>?_,fun B hB hn=>ho.setBelow o v (h.below B hB hn) (Nat.le_trans hB hb)⟩
 rw [setCell_block ho o v (by omega)]
 exact h.block k hk hn
theorem KeptF.grown{f:Nat}{a w w':World}(h:KeptF f a w){row:Option Nat}(hg:w.grownBy w' row)(hr:∀q,row=some q→a.heap.size≤q):KeptF f a w':=by
 refine⟨Nat.le_trans h.size hg.size,fun k hk hn=>?_,fun B hB hn=>(h.below B hB hn).grown hg (Nat.le_trans hB h.size) (fun q hq=>Nat.le_trans hB (hr q hq))⟩
 rw [hg.block k (Nat.lt_of_lt_of_le hk h.size) (fun e=>by have :=hr k e.symm;omega)]
 exact h.block k hk hn
theorem Knots.keptF{B:Nat}{w w':World}{n f:Nat}{kn:Nat→Nat}{kv av:Nat→Value}{pl:Nat→Int}{lab:Nat→NodeD}{F:Wd}(h:Knots B w n kn kv av pl lab F){cs:Array Value}(hf:World.objAt w f cs 68)(hk:KeptF f w w'):Knots B w' n kn kv av pl lab F:=by
 refine⟨fun i hi=>?_,fun i hi=>?_,fun i hi=>?_,h.base,h.inj⟩
 ·have h1:=h.node i hi
  have h2:=h1.lt
  unfold World.objAt at h1 hf ⊢
  rw [hk.block _ h2 (fun e=>by
   rw [e,hf]at h1
   simp only [Option.some.injEq,Obj.cells.injEq]at h1
   exact absurd h1.2.1 (by decide))]
  exact h1
 ·exact ownsRow_kept (h.row i hi) (fun b hb=>hk.block b (World.ownsRow.lt (h.row i hi) b hb).2 (fun e=>objAt_ne_own hf (h.row i hi) (by decide) (by rw [hb,e])))
 ·exact ownsRow_kept (h.attrs i hi) (fun b hb=>hk.block b (World.ownsRow.lt (h.attrs i hi) b hb).2 (fun e=>objAt_ne_own hf (h.attrs i hi) (by decide) (by rw [hb,e])))
theorem WOk.lone{n:Nat}{F:Wd}(h:WOk n F){x:Nat}(hx:n≤x):F.kids x=[]∧F.up x=none:=by
 constructor
 ·cases hk:F.kids x with
  | nil=>rfl
  | cons y r=>have :=(h.lt x y (by rw [hk];exact List.mem_cons_self ..)).1;omega
 ·cases hu:F.up x with
  | none=>rfl
  | some p=>have :=(h.lt p x ((h.iff p x).2 hu)).2;omega
theorem WOk.more{n m:Nat}{F:Wd}(h:WOk n F)(hm:n≤m):WOk m F:=⟨fun x y hy=>by have :=h.lt x y hy;omega,h.iff,h.nd,h.deep⟩
theorem Knots.more{B:Nat}{w:World}{n:Nat}{kn:Nat→Nat}{kv av:Nat→Value}{pl:Nat→Int}{lab:Nat→NodeD}{F:Wd}(h:Knots B w n kn kv av pl lab F)(hF:WOk n F){b:Nat}{z:Int}{m:NodeD}{v0:Value}
  (ho:World.objAt w b (knotCells z m v0 none (.slice none 0 0)) 97) (hv:OwnKV w B v0 m.attrs) (hb:B≤b) (hne:∀i,i<n→kn i≠b):
  Knots B w (n+1) (upd kn n b) (updV kv n (.slice none 0 0)) (updV av n v0) (upd pl n z) (upd lab n m) F:=by
 obtain⟨l1,l2⟩:=hF.lone (Nat.le_refl n)
 refine⟨fun i hi=>?_,fun i hi=>?_,fun i hi=>?_,fun i hi=>?_,fun i j hi hj he=>?_⟩
 ·by_cases e:i=n
  ·subst e
   simp only [upd_same,updV,if_true,l2,Option.map_none]
   exact ho
  ·have hi2:i<n:=by omega
   simp only [upd_other _ _ e,updV,if_neg e]
   have hup:(F.up i).map (upd kn n b)=(F.up i).map kn:=by
    cases hu:F.up i with
    | none=>rfl
    | some p=>
     have :=(hF.lt p i ((hF.iff p i).2 hu)).1
     simp only [Option.map_some]
     rw [upd_other _ _ (by omega)]
   rw [hup]
   exact h.node i hi2
 ·by_cases e:i=n
  ·subst e
   simp only [updV,if_true,l1,List.length_nil,List.map_nil]
   exact World.ownsRow_nil _ _ _ _
  ·have hi2:i<n:=by omega
   simp only [updV,if_neg e]
   have hm:((F.kids i).map fun y=>ptrV (upd kn n b y))=(F.kids i).map fun y=>ptrV (kn y):=List.map_congr_left (fun y hy=>by
    have :=(hF.lt i y hy).2
    rw [upd_other _ _ (by omega)])
   rw [hm]
   exact h.row i hi2
 ·by_cases e:i=n
  ·subst e
   simp only [upd_same,updV,if_true]
   exact hv
  ·simp only [upd_other _ _ e,updV,if_neg e]
   exact h.attrs i (by omega)
 ·by_cases e:i=n
  ·subst e;rw [upd_same];exact hb
  ·rw [upd_other _ _ e];exact h.base i (by omega)
 ·by_cases e:i=n
  ·by_cases e2:j=n
   ·rw [e,e2]
   ·subst e
    rw [upd_same,upd_other _ _ e2]at he
    exact absurd he.symm (hne j (by omega))
  ·by_cases e2:j=n
   ·subst e2
    rw [upd_same,upd_other _ _ e]at he
    exact absurd he (hne i (by omega))
   ·rw [upd_other _ _ e,upd_other _ _ e2]at he
    exact h.inj i j (by omega) (by omega) he
theorem Knots.append7n{B:Nat}{w w9:World}{n:Nat}{kn:Nat→Nat}{kv av:Nat→Value}{pl:Nat→Int}{lab:Nat→NodeD}{F:Wd}(h:Knots B w n kn kv av pl lab F){i:Nat}(hs:∀j,j<n→j≠i→∀b,(kv j).ownBlock=some b→(kv i).ownBlock≠some b)(hi:i<n){v9:Value}{l:List Nat}
  (hblk:∀b,b<w.heap.size→some b≠(kv i).ownBlock→w9.heap[b]? =w.heap[b]?) (ho:w9.ownsRow B 69 1 v9 l.length (l.map fun y=>ptrV (kn y))):
  Knots B (w9.setCell ⟨kn i,7,none⟩ v9) n kn (updV kv i v9) av pl lab ⟨fun q=>if q=i then l else F.kids q,F.up⟩∧World.objAt w9 (kn i) (knotCells (pl i) (lab i) (av i) ((F.up i).map kn) (kv i)) 97:=by
 have hki:∀j,j<n→some (kn j)≠(kv i).ownBlock:=fun j hj e=>objAt_ne_own (h.node j hj) (h.row i hi) (by decide) e.symm
 have hnode:∀j,j<n→World.objAt w9 (kn j) (knotCells (pl j) (lab j) (av j) ((F.up j).map kn) (kv j)) 97:=fun j hj=>by
  have h1:=h.node j hj
  have h2:=h1.lt
  unfold World.objAt at h1 ⊢
  rw [hblk _ h2 (hki j hj)]
  exact h1
 have hop:=hnode i hi
 refine⟨⟨fun j hj=>?_,fun j hj=>?_,fun j hj=>?_,h.base,h.inj⟩,hop⟩
 ·unfold updV
  by_cases e:j=i
  ·subst e
   rw [if_pos rfl]
   exact hop.set 7 v9
  ·rw [if_neg e]
   have :=hnode j hj
   unfold World.objAt at this ⊢
   rw [setCell_block hop 7 v9 (fun he=>e (h.inj j i hj hi he))]
   exact this
 ·unfold updV
  by_cases e:j=i
  ·subst e
   simp only [if_true]
   exact ownsRow_kept ho (fun b hb=>setCell_block hop 7 v9 (fun e2=>objAt_ne_own hop ho (by decide) (by rw [hb,e2])))
  ·simp only [if_neg e]
   have h1:=h.row j hj
   refine ownsRow_kept h1 (fun b hb=>?_)
   have h2:=(World.ownsRow.lt h1 b hb).2
   rw [setCell_block hop 7 v9 (fun e2=>objAt_ne_own (h.node i hi) h1 (by decide) (by rw [hb,e2]))]
   exact hblk b h2 (fun e2=>hs j hj e b hb e2.symm)
 ·have h1:=h.attrs j hj
  refine ownsRow_kept h1 (fun b hb=>?_)
  have h2:=(World.ownsRow.lt h1 b hb).2
  rw [setCell_block hop 7 v9 (fun e2=>objAt_ne_own (h.node i hi) h1 (by decide) (by rw [hb,e2]))]
  exact hblk b h2 (fun e2=>own_ne_own h1 (h.row i hi) (by decide) hb e2.symm)
structure CopiedK (H n:Nat) (kn:Nat→Nat) (kv av:Nat→Value) (pl:Nat→Int) (lab:Nat→NodeD) (F:Wd) (x:Nat) (L:List Nat) (m:Nat) (kn':Nat→Nat) (kv' av':Nat→Value) (pl':Nat→Int) (lab':Nat→NodeD) (G:Wd):Prop where
 lo:n<m
 hi:m≤n+L.length
 ok:WOk m G
 old:∀i,i<n→kn' i=kn i∧kv' i=kv i∧av' i=av i∧pl' i=pl i∧lab' i=lab i
 oldF:∀i,i<n→G.kids i=F.kids i∧G.up i=F.up i
 root:G.up n=none
 new:∀i,n≤i→i<m→H≤kn' i∧pl' i= -1∧∀b,(kv' i).ownBlock=some b→H≤b
 exact :m≤600→m=n+L.length∧G=cpW F n L [x]∧∀i,i<L.length→lab' (n+i)=lab (L.getD i 0)
def CopiedPost(B f:Nat)(vf:Value)(len:Nat)(kn0:Nat→Nat)(n:Nat)(kn:Nat→Nat)(kv av:Nat→Value)(pl:Nat→Int)(lab:Nat→NodeD)(F:Wd)(x:Nat)(L:List Nat)(w:World)(e:Ending)(w':World):Prop:=
 ∃m kn' kv' av' pl' lab' G,e=.returned (.pointer (some ⟨kn' n,0,none⟩))∧Hid (CopiedK w.heap.size n kn kv av pl lab F x L m kn' kv' av' pl' lab' G)∧Hid (Knots B w' m kn' kv' av' pl' lab' G)∧Hid (ForestK B w' f vf len kn0 (m:Int) (decide (600<m)))∧Hid (KeptF f w w')
structure CopyingK (H n:Nat) (kn:Nat→Nat) (kv av:Nat→Value) (pl:Nat→Int) (lab:Nat→NodeD) (F:Wd) (x:Nat) (L1 A:List Nat) (m:Nat) (kn':Nat→Nat) (kv' av':Nat→Value) (pl':Nat→Int) (lab':Nat→NodeD) (G:Wd):Prop where
 lo:n<m
 hi:m≤n+1+L1.length
 ok:WOk m G
 old:∀i,i<n→kn' i=kn i∧kv' i=kv i∧av' i=av i∧pl' i=pl i∧lab' i=lab i
 oldF:∀i,i<n→G.kids i=F.kids i∧G.up i=F.up i
 root:G.up n=none
 kids:(G.kids n).length=A.length
 new:∀i,n≤i→i<m→H≤kn' i∧pl' i= -1∧∀b,(kv' i).ownBlock=some b→H≤b
 sep:∀j,j<m→j≠n→∀b,(kv' j).ownBlock=some b→(kv' n).ownBlock≠some b
 exact :m≤600→m=n+1+L1.length∧G=cgW F n L1 A∧lab' n=lab x∧∀i,i<L1.length→lab' (n+1+i)=lab (L1.getD i 0)
theorem CpOk.mono{n m:Nat}{F:Wd}{L ws:List Nat}(h:CpOk n F L ws)(hm:n≤m):CpOk m F L ws:=⟨h.nd,fun y hy=>by have :=h.lt y hy;omega,h.sub,h.up,h.ws⟩
theorem CpOk.congr{n:Nat}{F G:Wd}{L ws:List Nat}(h:CpOk n F L ws)(hG:∀i,i<n→G.kids i=F.kids i∧G.up i=F.up i):CpOk n G L ws:=
 ⟨h.nd,h.lt,fun x hx y hy=>h.sub x hx y (by rwa [(hG x (h.lt x hx)).1]at hy),fun y hy hn=>by rw [(hG y (h.lt y hy)).2];exact h.up y hy hn,h.ws⟩
theorem CopyingK.done{H n:Nat}{kn:Nat→Nat}{kv av:Nat→Value}{pl:Nat→Int}{lab:Nat→NodeD}{F:Wd}(hF:WOk n F){x:Nat}(hx:x<n){L1:List Nat}{m:Nat}{kn':Nat→Nat}{kv' av':Nat→Value}{pl':Nat→Int}{lab':Nat→NodeD}{G:Wd}
  (hL:Fl F.kids (F.kids x) L1) (h:CopyingK H n kn kv av pl lab F x L1 (F.kids x) m kn' kv' av' pl' lab' G):CopiedK H n kn kv av pl lab F x (x::L1) m kn' kv' av' pl' lab' G:=by
 have hnd:=(Fl.one hL).nodup hF (lone_one F x)
 rw [List.nodup_cons]at hnd
 refine⟨h.lo,by rw [List.length_cons];have :=h.hi;omega,h.ok,h.old,h.oldF,h.root,h.new,fun hm=>?_⟩
 obtain⟨h1,h2,h3,h4⟩:=h.exact hm
 refine⟨by rw [List.length_cons];omega,?_,fun i hi=>?_⟩
 ·rw [h2]
  exact cg_all hF hx (cpOk_of hF hL (hF.lone_kids x) (fun y hy=>(hF.lt x y hy).2)) hnd.1
 ·cases i with
  | zero=>exact h3
  | succ i=>
   rw [List.length_cons]at hi
   rw [List.getD_cons_succ,←h4 i (by omega)]
   congr 1
   omega
theorem Fl.head{kids:Nat→List Nat}{x:Nat}{L:List Nat}(h:Fl kids [x] L):L.head?=some x:=by
 obtain⟨A,rfl,_⟩:=h.one_inv
 rfl
theorem CopyingK.step{H H2 n:Nat}{kn:Nat→Nat}{kv av:Nat→Value}{pl:Nat→Int}{lab:Nat→NodeD}{F:Wd}(hF:WOk n F){x:Nat}(hx:x<n){L1 L2 A:List Nat}{y m:Nat}{kn':Nat→Nat}{kv' av':Nat→Value}{pl':Nat→Int}{lab':Nat→NodeD}{G:Wd}
  (hA:∀z∈A++[y],z∈F.kids x) (hAnd:(A++[y]).Nodup) (hL1:Fl F.kids A L1) (hL2:Fl F.kids [y] L2) (h:CopyingK H n kn kv av pl lab F x L1 A m kn' kv' av' pl' lab' G) (hH:H≤H2)
  {m2:Nat} {kn2:Nat→Nat} {kv2 av2:Nat→Value} {pl2:Nat→Int} {lab2:Nat→NodeD} {G2:Wd} (h2:CopiedK H2 m kn' kv' av' pl' lab' G y L2 m2 kn2 kv2 av2 pl2 lab2 G2)
  (hbig:∀b,(kv' n).ownBlock=some b→b<H2) {v9:Value} (hv9:∀b,v9.ownBlock=some b→(kv' n).ownBlock=some b∨H2≤b) (hv9b:∀j,j<m2→j≠n→∀b,(kv2 j).ownBlock=some b→v9.ownBlock≠some b):
  CopyingK H n kn kv av pl lab F x (L1++L2) (A++[y]) m2 kn2 (updV kv2 n v9) av2 pl2 lab2 (G2.put n (G2.kids n).length m):=by
 have hyx:y∈F.kids x:=hA y (by simp)
 have hyn:=(hF.lt x y hyx).2
 have hlo:=h.lo
 have hlo2:=h2.lo
 have hloneA:Lone F A:=⟨(List.nodup_append.1 hAnd).1,fun a ha b hb hab=>(hF.lone_kids x).2 a (hA a (List.mem_append_left _ ha)) b (hA b (List.mem_append_left _ hb)) hab⟩
 have hAn:∀z∈A,z<n:=fun z hz=>(hF.lt x z (hA z (List.mem_append_left _ hz))).2
 have hc1:=cpOk_of hF hL1 hloneA hAn
 have hc2:=cpOk_of hF hL2 (lone_one F y) (fun z hz=>by simp at hz;omega)
 have hG2n:G2.up n=none:=by rw [(h2.oldF n hlo).2];exact h.root
 have hG2k:G2.kids n=G.kids n:=(h2.oldF n hlo).1
 have hna:¬Anc G2 m n:=fun ha=>by
  rcases ha.inv with e | ⟨p,hp,_⟩
  ·omega
  ·rw [hG2n]at hp;cases hp
 refine⟨by omega,?_,h2.ok.put _ (by omega) hlo2 h2.root hna,fun i hi=>?_,fun i hi=>?_,?_,?_,fun i h1 h3=>?_,fun j hj hjn b hb=>?_,fun hm=>?_⟩
 ·have :=h.hi
  have :=h2.hi
  rw [List.length_append]
  omega
 ·obtain⟨a1,a2,a3,a4,a5⟩:=h.old i hi
  obtain⟨b1,b2,b3,b4,b5⟩:=h2.old i (by omega)
  refine⟨b1.trans a1,?_,b3.trans a3,b4.trans a4,b5.trans a5⟩
  unfold updV
  rw [if_neg (by omega)]
  exact b2.trans a2
 ·obtain⟨a1,a2⟩:=h.oldF i hi
  obtain⟨b1,b2⟩:=h2.oldF i (by omega)
  simp only [Wd.put]
  rw [if_neg (by omega),if_neg (by omega)]
  exact⟨b1.trans a1,b2.trans a2⟩
 ·simp only [Wd.put]
  rw [if_neg (by omega)]
  exact hG2n
 ·simp only [Wd.put,if_true]
  rw [List.take_length,List.drop_length,List.length_append,hG2k,h.kids]
  simp
 ·by_cases e:i<m
  ·obtain⟨a1,a2,a3⟩:=h.new i h1 e
   obtain⟨b1,b2,b3,b4,b5⟩:=h2.old i e
   refine⟨by rw [b1];exact a1,by rw [b4];exact a2,fun b hb=>?_⟩
   unfold updV at hb
   split at hb
   ·rcases hv9 b hb with h5 | h5
    ·rename_i e2;subst e2;exact a3 b h5
    ·omega
   ·rw [b2]at hb;exact a3 b hb
  ·obtain⟨a1,a2,a3⟩:=h2.new i (by omega) h3
   refine⟨by omega,a2,fun b hb=>?_⟩
   unfold updV at hb
   rw [if_neg (by omega)]at hb
   have :=a3 b hb
   omega
 ·unfold updV at hb ⊢
  rw [if_neg hjn]at hb
  rw [if_pos rfl]
  exact hv9b j hj hjn b hb
 ·obtain⟨a1,a2,a3,a4⟩:=h.exact (by omega)
  obtain⟨b1,b2,b3⟩:=h2.exact hm
  have hdis:∀z∈L1,z∉L2:=fun z h1z h2z=>by
   obtain⟨q,hq,hqa⟩:=(hL1.anc hF z).1 h1z
   obtain⟨r,hr,hra⟩:=(hL2.anc hF z).1 h2z
   simp at hr
   subst hr
   have hqy:q≠r:=fun e=>(List.nodup_append.1 hAnd).2.2 q hq r (by simp) e
   rcases hqa.cmp hra with h5 | h5
   ·exact hqy ((hF.lone_kids x).2 q (hA q (List.mem_append_left _ hq)) r hyx h5)
   ·exact hqy ((hF.lone_kids x).2 r hyx q (hA q (List.mem_append_left _ hq)) h5).symm
  refine⟨by rw [List.length_append];omega,?_,?_,fun i hi=>?_⟩
  ·have hs:=cg_snoc hF (hc1.mono (Nat.le_succ n)) (hc2.mono (Nat.le_succ n)) hdis (fun hm2=>by have :=hc2.lt n hm2;omega) hL2.head
   rw [←a1,←a2,←b2]at hs
   rw [hG2k,h.kids]
   exact hs
  ·have e1:=(h2.old n hlo).2.2.2.2
   rw [e1];exact a3
  ·rw [List.length_append]at hi
   by_cases e:i<L1.length
   ·rw [getD_app_left e,(h2.old (n+1+i) (by omega)).2.2.2.2]
    exact a4 i e
   ·rw [getD_app_right (by omega)]
    have h5:=b3 (i-L1.length) (by omega)
    have h6:L2.getD (i-L1.length) 0∈L2:=getD_mem' (by omega)
    rw [(h.old _ (hc2.lt _ h6)).2.2.2.2]at h5
    rw [←h5]
    congr 1
    omega
theorem ForestK.keptF{B:Nat}{w w':World}{f len:Nat}{vf:Value}{kn:Nat→Nat}{many many':Int}{opn opn':Bool}(h:ForestK B w f vf len kn many opn)(hk:KeptF f w w')(ho:World.objAt w' f #[vf,.int .i64 many',.bool opn'] 68):ForestK B w' f vf len kn many' opn':=
 ⟨ho,ownsRow_kept h.all (fun k hkk=>hk.block k (World.ownsRow.lt h.all k hkk).2 (fun e=>objAt_ne_own h.obj h.all (by decide) (by rw [hkk,e]))),h.base⟩
theorem objAt_keptF{w w':World}{f b:Nat}{cs:Array Value}{t:TypeId}(h:World.objAt w b cs t)(hk:KeptF f w w')(hne:b≠f):World.objAt w' b cs t:=by
 have h2:=h.lt
 unfold World.objAt at h ⊢
 rw [hk.block b h2 hne]
 exact h
end Go.Proofs.YtkdomegcacgpnaaGreat
namespace Go.Proofs.YtkdomegcacgpnaaGreat
open Go.RowKit
set_option maxRecDepth 100000 in
set_option maxHeartbeats 4000000 in
theorem copied_any:∀(d B:Nat) (w:World) (f len:Nat) (vf:Value) (kn0:Nat→Nat) (n:Nat) (kn:Nat→Nat) (kv av:Nat→Value) (pl:Nat→Int) (lab:Nat→NodeD) (F:Wd) (x:Nat) (L:List Nat) (hK:Knots B w n kn kv av pl lab F) (hF:WOk n F)
  (hFo:ForestK B w f vf len kn0 (n:Int) (decide (600<n))) (hx:x<n) (hL:Fl F.kids [x] L) (hd:L.length≤d) (hfit:∀y∈L,(lab y).attrs.length≤100∧∀z∈(lab y).attrs,z.1.size≤maxLen∧z.2.size≤maxLen) (hn:n+L.length≤1000000),
  Calls Tryz.prog 105 #[.pointer (some ⟨f,0,none⟩),.pointer (some ⟨kn x,0,none⟩)] w (CopiedPost B f vf len kn0 n kn kv av pl lab F x L w):=by
 intro d
 induction d with
 | zero=>
  intro B w f len vf kn0 n kn kv av pl lab F x L hK hF hFo hx hL hd hfit hn
  obtain⟨L',rfl,_⟩:=hL.one_inv
  simp at hd
 | succ d ih=>
  intro B w f len vf kn0 n kn kv av pl lab F x L hK hF hFo hx hL hd hfit hn
  obtain⟨L',rfl,hL'⟩:=hL.one_inv
  have hfit0:=hfit x (List.mem_cons_self ..)
  have hfit1:∀y∈L',(lab y).attrs.length≤100∧∀z∈(lab y).attrs,z.1.size≤maxLen∧z.2.size≤maxLen:=fun y hy=>hfit y (List.mem_cons_of_mem _ hy)
  rw [List.length_cons]at hd hn
  have hfobj:=hFo.obj
  obtain⟨N,hN⟩:∃N:Int,(n:Int)=N:=⟨_,rfl⟩
  have hN0:0≤N:=by omega
  have hN1:N≤1000000:=by omega
  rw [hN]at hfobj
  have f1:=hfobj.cell (i:=1) (v:=.int .i64 N) rfl
  have f1f:=hfobj.free 1
  obtain⟨w1,hw1⟩:∃w1,w.setCell ⟨f,1,none⟩ (.int .i64 (N+1))=w1:=⟨_,rfl⟩
  have o1:World.objAt w1 f #[vf,.int .i64 (N+1),.bool (decide (600<n))] 68:=by rw [←hw1];exact hfobj.set 1 _
  have k1:KeptF f w w1:=by rw [←hw1];exact(KeptF.refl f w).set hfobj 1 _
  have hK1:=hK.keptF hfobj k1
  have g1:=o1.cell (i:=1) (v:=.int .i64 (N+1)) rfl
  have g2:=o1.cell (i:=2) (v:=.bool (decide (600<n))) rfl
  have g2f:=o1.free 2
  have hnode:=hK1.node x hx
  obtain⟨lb,hlb⟩:∃lb,lab x=lb:=⟨_,rfl⟩
  rw [hlb]at hnode hfit0
  have n1:=hnode.cell (i:=1) (v:=.int .i64 lb.kind) rfl
  have n2:=hnode.cell (i:=2) (v:=.string lb.tag) rfl
  have n3:=hnode.cell (i:=3) (v:=.string lb.text) rfl
  have n4:=hnode.cell (i:=4) (v:=av x) rfl
  have n5:=hnode.cell (i:=5) (v:=.int .i64 lb.size) rfl
  have n7:=hnode.cell (i:=7) (v:=kv x) rfl
  obtain⟨ta,tc,hav⟩:=ownsRow_slice (hK1.attrs x hx)
  rw [hlb]at hav
  rw [hav]at n4
  obtain⟨al,hal⟩:∃al,lb.attrs.length=al:=⟨_,rfl⟩
  rw [hal]at hav n4
  obtain⟨sa,sc,hkv⟩:=ownsRow_slice (hK1.row x hx)
  rw [hkv]at n7
  obtain⟨kl,hkl⟩:∃kl,(F.kids x).length=kl:=⟨_,rfl⟩
  rw [hkl]at hkv n7
  have HN:=Lib.hid (And.intro hN hn)
  have HLB:=Lib.hid (And.intro hlb (And.intro hal (And.intro hav (And.intro hkv hkl))))
  have HK1:=Lib.hid (And.intro hK1 (And.intro o1 k1))
  have HF:=Lib.hid hF
  have HFO:=Lib.hid hFo
  have HL:=Lib.hid (And.intro hL' (And.intro hfit0 (And.intro hfit1 hd)))
  have HX:=Lib.hid hx
  have HIH:=Lib.hid ih
  have hcN:decide (600<N+1)=decide (600<n+1):=by
   have :(600<N+1)↔(600<n+1):=by omega
   simp only [this]
  clear hfobj hnode hlb hal hav hkv hkl hK hF hFo hL hL' hd hfit hn hfit0 hfit1 ih hK1 o1 k1 hx hN
  have hBw:B≤w1.heap.size:=Nat.le_trans HFO.out.base (Nat.le_of_lt HK1.out.2.1.lt)
  have hbs1:=HK1.out.2.2.size
  cases hc:decide (600<n+1)
  ·rw [hc]at hcN
   have HC:=Lib.hid hc
   clear hc
   obtain⟨i0,hi,hz0,hz1,hz2⟩:=info_parts Tryz.infoKV
   obtain⟨j0,hj,hy0,hy1,hy2⟩:=info_parts Tryz.infoKnotP
   have hal20:al≤100:=by rw [←HLB.out.2.1];exact HL.out.2.1.1
   have hat0:AttrsAt w1 ta al lb.attrs:=by
    obtain⟨a9,c9,e9,h9⟩:=OwnKV.at_ (HK1.out.1.attrs x HX.out) (by rw [HLB.out.1];exact HL.out.2.1.2)
    rw [HLB.out.1,HLB.out.2.1]at h9 e9
    rw [HLB.out.2.2.1]at e9
    simp only [Value.slice.injEq]at e9
    rw [e9.1]
    exact h9
   have hE:((w1.alloc (.cells #[.int .i64 (-1),.int .i64 lb.kind,.string lb.tag,.string lb.text,.slice ta al tc,.int .i64 lb.size,.pointer none,.slice none 0 0] 97)).alloc (.cells #[] 61)).ownsRow B 61 2 (.slice (some ⟨w1.heap.size+1,0,none⟩) 0 0) 0 []:=by
    have :=owns_empty2 (w1.alloc (.cells #[.int .i64 (-1),.int .i64 lb.kind,.string lb.tag,.string lb.text,.slice ta al tc,.int .i64 lb.size,.pointer none,.slice none 0 0] 97)) B (by simp;omega) 61
    rwa [World.size_alloc]at this
   have hb12:Below w1.heap.size w1 ((w1.alloc (.cells #[.int .i64 (-1),.int .i64 lb.kind,.string lb.tag,.string lb.text,.slice ta al tc,.int .i64 lb.size,.pointer none,.slice none 0 0] 97)).alloc (.cells #[] 61)):=((Below.refl _ _).alloc (Nat.le_refl _) _).alloc (by simp) _
   have hAT:=hat0.below hb12
   have n4b:=cell_alloc_old n4 (.cells #[.int .i64 (-1),.int .i64 lb.kind,.string lb.tag,.string lb.text,.slice ta al tc,.int .i64 lb.size,.pointer none,.slice none 0 0] 97)
   have n4a:=cell_alloc_old n4b (.cells #[] 61)
   have HE:=Lib.hid hE
   have HAT:=Lib.hid hAT
   have HB12:=Lib.hid hb12
   clear hE hAT hat0 hb12
   go_enter Tryz.func105,Tryz.ntmps105
   go_wp2_with (at_builtin;refine wpList_append_kv rfl _ _ 36 rfl B 61 i0 (.agg #[.string ByteArray.empty,.string ByteArray.empty]) 32 Tryz.underlying36 hi hz0 hz1 hz2 rfl (some ⟨w1.heap.size+1,0,none⟩) 0 0 [] rfl HE.out ta al tc lb.attrs rfl HAT.out (by unfold maxLen;omega) (by omega) (by simp;omega) ?_)
   intro b2 c2 w3 hown3 hgrow3
   have hbs3:=hgrow3.size
   simp only [World.size_alloc]at hbs3
   have hC3:World.objAt w3 w1.heap.size (knotCells (-1) lb (.slice ta al tc) none (.slice none 0 0)) 97:=by
    have h1:World.objAt ((w1.alloc (.cells #[.int .i64 (-1),.int .i64 lb.kind,.string lb.tag,.string lb.text,.slice ta al tc,.int .i64 lb.size,.pointer none,.slice none 0 0] 97)).alloc (.cells #[] 61)) w1.heap.size (knotCells (-1) lb (.slice ta al tc) none (.slice none 0 0)) 97:=World.objAt.below (B:=w1.heap.size+1) (objAt_alloc_new w1 _ _) ((Below.refl _ _).alloc (by simp) _) (by omega)
    unfold World.objAt at h1 ⊢
    rw [hgrow3.block w1.heap.size (by simp;omega) (by simp [Value.ownBlock])]
    exact h1
   have k13:KeptF f w1 w3:=(KeptF.of_below HB12.out).grown hgrow3 (fun q hq=>by simp [Value.ownBlock]at hq;omega)
   obtain⟨w4,hw4⟩:∃w4,w3.setCell ⟨w1.heap.size,4,none⟩ (.slice b2 al c2)=w4:=⟨_,rfl⟩
   have k14:KeptF f w1 w4:=by rw [←hw4];exact k13.set_new hC3 (Nat.le_refl _) 4 _
   have hC4:World.objAt w4 w1.heap.size (knotCells (-1) lb (.slice b2 al c2) none (.slice none 0 0)) 97:=by rw [←hw4];exact hC3.set 4 _
   have hfl:=HK1.out.2.1.lt
   have hA4:OwnKV w4 B (.slice b2 al c2) lb.attrs:=by
    unfold OwnKV
    rw [HLB.out.2.1]
    refine ownsRow_kept hown3 (fun q hq=>?_)
    rw [←hw4]
    exact setCell_block hC3 4 _ (fun e=>objAt_ne_own hC3 hown3 (by decide) (by rw [hq,e]))
   have o4:World.objAt w4 f #[vf,.int .i64 (N+1),.bool (decide (600<n))] 68:=by
    have h1:World.objAt w3 f #[vf,.int .i64 (N+1),.bool (decide (600<n))] 68:=by
     have h2:=HK1.out.2.1
     unfold World.objAt at h2 ⊢
     rw [hgrow3.block f (by simp;omega) (by simp [Value.ownBlock];omega),HB12.out.block f hfl]
     exact h2
    rw [←hw4]
    unfold World.objAt at h1 ⊢
    rw [setCell_block hC3 4 _ (by omega)]
    exact h1
   have r4:w3.cell? ⟨w1.heap.size,4,none⟩=some (.slice ta al tc):=hC3.cell rfl
   have r4f:=hC3.free 4
   have hcn:decide (600<n)=false:=by have :=HC.out;simp at this ⊢;omega
   have hF4:ForestK B w4 f vf len kn0 ((n+1:Nat):Int) (decide (600<n+1)):=by
    refine HFO.out.keptF (HK1.out.2.2.trans k14) ?_
    rw [HC.out,←hcn,show((n+1:Nat):Int)=N+1 by rw [←HN.out.1];rfl]
    exact o4
   have hK4:=(HK1.out.1.keptF HK1.out.2.1 k14).more HF.out hC4 hA4 hBw (fun i hi=>by have :=(HK1.out.1.node i hi).lt;omega)
   have hst:CopyingK w.heap.size n kn kv av pl lab F x [] [] (n+1) (upd kn n w1.heap.size) (updV kv n (.slice none 0 0)) (updV av n (.slice b2 al c2)) (upd pl n (-1)) (upd lab n lb) F:=by
    obtain⟨l1,l2⟩:=HF.out.lone (Nat.le_refl n)
    refine⟨by omega,by simp,HF.out.more (by omega),fun i hi=>⟨upd_other _ _ (by omega),if_neg (by omega),if_neg (by omega),upd_other _ _ (by omega),upd_other _ _ (by omega)⟩,fun i _=>⟨rfl,rfl⟩,l2,by rw [l1],fun i h1 h2=>?_,fun j h1 h2 b hb=>?_,fun _=>⟨by simp,(cg_nil HF.out).symm,?_,fun i hi=>absurd hi (Nat.not_lt_zero i)⟩⟩
    ·obtain rfl:i=n:=by omega
     refine⟨by rw [upd_same];omega,upd_same _ _ _,fun b hb=>by simp [updV,Value.ownBlock]at hb⟩
    ·simp [updV,Value.ownBlock]
    ·rw [upd_same];exact HLB.out.1.symm
   have HST:=Lib.hid hst
   have HK4:=Lib.hid hK4
   have HF4:=Lib.hid hF4
   have HK14:=Lib.hid (HK1.out.2.2.trans k14)
   clear hst hK4 hF4 hcn o4 hA4 hC4 k14 k13 hC3 hown3 hgrow3 n4a n4b
   have HR0:=Lib.hid (show upd kn n w1.heap.size n=w1.heap.size from upd_same _ _ _)
   have HHS:=Lib.hid (show w.heap.size=w.heap.size from rfl)
   obtain⟨r0,hr0⟩:∃r0,w1.heap.size=r0:=⟨_,rfl⟩
   rw [hr0]at HST HK4 HR0 hw4 r4 r4f ⊢
   have HRW:=Lib.hid (show w.heap.size≤r0 by omega)
   have hkl100:kl≤1000000:=by
    have h1:=HF.out.few x
    rw [HLB.out.2.2.2.2]at h1
    have :=HN.out.2
    omega
   clear hr0 HE HAT HB12 hbs3 hBw hbs1
   go_wp2
   go_loopw [6] (fun iv wr=>∃(k:Nat) (A rest L1 R:List Nat) (m:Nat) (kn':Nat→Nat) (kv' av':Nat→Value) (pl':Nat→Int) (lab':Nat→NodeD) (G:Wd),k≤kl∧iv=.int .i64 (k:Int)∧Hid (A.length=k∧F.kids x=A++rest∧Fl F.kids A L1∧Fl F.kids rest R∧L'=L1++R∧kn' n=r0)∧Hid (CopyingK w.heap.size n kn kv av pl lab F x L1 A m kn' kv' av' pl' lab' G)∧Hid (Knots B wr m kn' kv' av' pl' lab' G)∧Hid (ForestK B wr f vf len kn0 (m:Int) (decide (600<m)))∧Hid (KeptF f w wr)) (fun i _=>kl-(intOf i).toNat)
   case atStart=>exact⟨0,[],F.kids x,[],L',n+1,_,_,_,_,_,F,by omega,by go_num,Lib.hid ⟨rfl,rfl,.nil,HL.out.1,rfl,HR0.out⟩,HST,HK4,HF4,HK14⟩
   case round=>
    obtain⟨k,A,rest,L1,R,m,kn',kv',av',pl',lab',G,hk,rfl,HA,HC1,HKr,HFr,HKF⟩:=hrel
    have hxo:=HC1.out.old x HX.out
    have hn7:=(HKr.out.cells (Nat.lt_trans HX.out HC1.out.lo)).2.2
    rw [hxo.1,hxo.2.1,HLB.out.2.2.2.1]at hn7
    by_cases hlt:k<kl
    ·have hkI:(k:Int)<(kl:Int):=by omega
     have hA1:=HA.out.1
     have hA2:=HA.out.2.1
     obtain⟨y,rest',hrest⟩:∃y rest',rest=y::rest':=by
      cases hr:rest with
      | nil=>
       have h1:=HLB.out.2.2.2.2
       rw [hA2,hr,List.append_nil]at h1
       omega
      | cons y r=>exact⟨y,r,rfl⟩
     have hRr:=HA.out.2.2.2.1
     rw [hrest]at hRr
     obtain⟨L2,R',hR2,hL2,hR'⟩:=hRr.split
     have hyx:y∈F.kids x:=by rw [hA2,hrest];simp
     have hyn:=(HF.out.lt x y hyx).2
     have hLL:=HA.out.2.2.2.2.1
     rw [hR2]at hLL
     have hL2n:∀z∈L2,z<n:=fun z hz=>by
      have :=(cpOk_of HF.out hL2 (lone_one F y) (fun q hq=>by simp at hq;omega)).lt z hz
      exact this
     have hfitL:=HL.out.2.2.1
     have hdL:=HL.out.2.2.2
     have hcall:=HIH.out B wr f len vf kn0 m kn' kv' av' pl' lab' G y L2 HKr.out HC1.out.ok HFr.out (Nat.lt_trans hyn HC1.out.lo) (hL2.congr (fun z hz=>(HC1.out.oldF z (hL2n z hz)).1)) (by
       have h1:=congrArg List.length hLL
       simp only [List.length_append]at h1
       omega) (fun z hz=>by
       rw [(HC1.out.old z (hL2n z hz)).2.2.2.2]
       exact hfitL z (by rw [hLL];simp [hz])) (by
       have h1:=congrArg List.length hLL
       have h2:=HC1.out.hi
       have h3:=HN.out.2
       simp only [List.length_append]at h1
       omega)
     rw [(HC1.out.old y hyn).1]at hcall
     have hrowx:=HKr.out.row x (Nat.lt_trans HX.out HC1.out.lo)
     rw [hxo.2.1,HLB.out.2.2.2.1,(HC1.out.oldF x HX.out).1]at hrowx
     obtain⟨ra,rc,rg,hre,_,_,hrs,hrcell,_,_⟩:=own_open hrowx
     simp only [Value.slice.injEq]at hre
     have hsa:=hrs (by rw [HLB.out.2.2.2.2];omega)
     rw [←hre.1]at hsa
     have hck:=hrcell k (by rw [HLB.out.2.2.2.2];omega)
     have hyk:(F.kids x).getD k 0=y:=by
      rw [hA2,hrest,getD_app_right (by omega),hA1,Nat.sub_self,List.getD_cons_zero]
     rw [hyk,(HC1.out.old y hyn).1]at hck
     subst hsa
     have HCALL:=Lib.hid hcall
     have HY:=Lib.hid (And.intro hyx (And.intro hrest (And.intro hL2 (And.intro hR' (And.intro hLL hR2)))))
     clear hcall hyx hrest hL2 hR' hLL hR2 hfitL hdL hL2n hrowx hre hrs hrcell hyk hRr hA1 hA2 hxo hyn
     go_wp2_with fail
     refine HCALL.out.mono ?_
     rintro e w2 ⟨m2,kn2,kv2,av2,pl2,lab2,G2,rfl,HC2,HK2,HF2,HKF2⟩
     have hm2:=HC2.out.lo
     have hnm:=HC1.out.lo
     have c6:=(HK2.out.node m hm2).cell (i:=6) (v:=lk ((G2.up m).map kn2)) rfl
     have c6f:=(HK2.out.node m hm2).free 6
     have hr2:kn2 n=r0:=by rw [(HC2.out.old n hnm).1];exact HA.out.2.2.2.2.2
     obtain⟨w3,hw3⟩:∃w3,w2.setCell ⟨kn2 m,6,none⟩ (.pointer (some ⟨r0,0,none⟩))=w3:=⟨_,rfl⟩
     have hK3:=HK2.out.set6 hm2 (some n)
     rw [Option.map_some,hr2,lk_some,hw3]at hK3
     have hkf3:KeptF f wr w3:=by rw [←hw3];exact HKF2.out.set_new (HK2.out.node m hm2) (HC2.out.new m (Nat.le_refl _) hm2).1 6 _
     have c7:=(hK3.cells (Nat.lt_trans hnm hm2)).2.2
     rw [hr2]at c7
     have hrow3:=hK3.row n (Nat.lt_trans hnm hm2)
     obtain⟨pa,pc,hpv⟩:=ownsRow_slice hrow3
     have hgk:(⟨G2.kids,fun q=>if q=m then some n else G2.up q⟩:Wd).kids n=G.kids n:=(HC2.out.oldF n hnm).1
     rw [hgk]at hpv hrow3
     rw [HC1.out.kids,HA.out.1]at hpv hrow3
     rw [hpv]at c7 hrow3
     have hO3:World.objAt w3 f #[vf,.int .i64 (m2:Int),.bool (decide (600<m2))] 68:=by
      have h1:=HF2.out.obj
      rw [←hw3]
      have h2:kn2 m≠f:=fun e=>by
       have h3:=HK2.out.node m hm2
       unfold World.objAt at h1 h3
       rw [e,h1]at h3
       simp only [Option.some.injEq,Obj.cells.injEq]at h3
       exact absurd h3.2.1 (by decide)
      unfold World.objAt at h1 ⊢
      rw [setCell_block (HK2.out.node m hm2) 6 _ (Ne.symm h2)]
      exact h1
     have hx1:(w3.alloc (.cells #[.pointer (some ⟨kn2 m,0,none⟩)] 69)).ownsRow B 69 1 (.slice pa k pc) k ((G.kids n).map fun y=>ptrV (kn2 y)):=World.ownsRow.alloc hrow3 _
     have hnews:∀j u,[Value.pointer (some ⟨kn2 m,0,none⟩)][j]? =some u→(w3.alloc (.cells #[.pointer (some ⟨kn2 m,0,none⟩)] 69)).cell? ((⟨w3.heap.size,0,none⟩:Addr).add j)=some u:=
      World.news_of_block (cs:= #[.pointer (some ⟨kn2 m,0,none⟩)]) (t:=69) (fr:=(0,0)) (heap_alloc_new w3 (.cells #[.pointer (some ⟨kn2 m,0,none⟩)] 69))
     have hBw3:B≤w3.heap.size:=Nat.le_trans HF2.out.base (Nat.le_of_lt hO3.lt)
     have HX1:=Lib.hid hx1
     have HNEWS:=Lib.hid hnews
     have HK3:=Lib.hid (And.intro hK3 (And.intro hkf3 (And.intro hO3 (And.intro hpv hr2))))
     clear hx1 hnews hK3 hkf3 hO3 hpv hr2 hrow3 hgk hm2 hnm HCALL
     go_wp2_with (at_builtin;refine wpList_append_lies _ rfl _ _ 66 rfl B 69 j0 (.pointer none) 1 8 Tryz.underlying66 hj hy0 hy1 hy2 rfl (by decide) (.slice pa k pc) k ((G.kids n).map fun y=>ptrV (kn2 y)) rfl HX1.out ⟨w3.heap.size,0,none⟩ 1 1 [.pointer (some ⟨kn2 m,0,none⟩)] rfl rfl HNEWS.out (by simp [Value.oneCell']) (by omega) (by unfold maxLen;omega) (by omega) (by simp;omega) _ rfl ?_)
     intro g6 cap6 w6 hown6 hgrow6 hat6 hlt6
     have hm2:=HC2.out.lo
     have hnm:=HC1.out.lo
     obtain⟨hK3,hkf3,hO3,hpv,hr2⟩:=HK3.out
     have hkn2:kv2 n=kv' n:=(HC2.out.old n hnm).2.1
     have hpv':kv' n=.slice pa k pc:=by rw [←hkn2];exact hpv
     have hsep:∀j,j<m2→j≠n→∀b,(kv2 j).ownBlock=some b→(kv2 n).ownBlock≠some b:=fun j hj hjn b hb=>by
      rw [hkn2]
      by_cases e:j<m
      ·rw [(HC2.out.old j e).2.1]at hb
       exact HC1.out.sep j e hjn b hb
      ·intro h9
       have h1:=(HC2.out.new j (by omega) hj).2.2 b hb
       have h2:=(World.ownsRow.lt (HKr.out.row n hnm) b h9).2
       omega
     have hs3:wr.heap.size≤w3.heap.size:=hkf3.size
     have hs6:w3.heap.size+1≤w6.heap.size:=by have :=hgrow6.size;simpa using this
     have hblk:∀b,b<w3.heap.size→some b≠(kv2 n).ownBlock→w6.heap[b]? =w3.heap[b]? :=fun b hb hne=>by
      rw [hpv]at hne
      rw [hgrow6.block b (by simp;omega) hne]
      exact Below.heap_alloc w3 _ b hb
     obtain⟨hK7,ho7⟩:=hK3.append7n hsep (Nat.lt_trans hnm hm2) (v9:=.slice (some ⟨g6,0,none⟩) (k+1) cap6) (l:=G.kids n++[m]) hblk (by
      rw [List.length_append,HC1.out.kids,HA.out.1]
      simpa [ptrV]using hown6)
     rw [hr2]at hK7 ho7
     obtain⟨w7,hw7⟩:∃w7,w6.setCell ⟨r0,7,none⟩ (.slice (some ⟨g6,0,none⟩) (k+1) cap6)=w7:=⟨_,rfl⟩
     rw [hw7]at hK7
     have hbk:∀b,(kv' n).ownBlock=some b→w.heap.size≤b∧b<wr.heap.size:=fun b hb=>⟨(HC1.out.new n (Nat.le_refl _) hnm).2.2 b hb,(World.ownsRow.lt (HKr.out.row n hnm) b hb).2⟩
     have kf6:KeptF f w w6:=((HKF.out.trans hkf3).trans (KeptF.of_below ((Below.refl _ _).alloc (Nat.le_refl _) _))).grown hgrow6 (fun q hq=>by rw [←hpv']at hq;exact(hbk q hq).1)
     have kf7:KeptF f w w7:=by rw [←hw7];exact kf6.set_new ho7 HRW.out 7 _
     have hf6:World.objAt w6 f #[vf,.int .i64 (m2:Int),.bool (decide (600<m2))] 68:=by
      have h1:=hO3
      have h2:=objAt_ne_own hO3 (hK3.row n (Nat.lt_trans hnm hm2)) (by decide)
      have h3:=hO3.lt
      unfold World.objAt at h1 ⊢
      rw [hblk f h3 (fun e=>h2 e.symm)]
      exact h1
     have hf7:World.objAt w7 f #[vf,.int .i64 (m2:Int),.bool (decide (600<m2))] 68:=by
      have h1:=hf6
      have h2:r0≠f:=fun e=>by
       have h4:=ho7
       unfold World.objAt at h1 h4
       rw [e,h1]at h4
       simp only [Option.some.injEq,Obj.cells.injEq]at h4
       exact absurd h4.2.1 (by decide)
      rw [←hw7]
      unfold World.objAt at h1 ⊢
      rw [setCell_block ho7 7 _ (Ne.symm h2)]
      exact h1
     have hF7:=HFO.out.keptF kf7 hf7
     have hv9:∀b,(Value.slice (some ⟨g6,0,none⟩) (k+1) cap6).ownBlock=some b→(kv' n).ownBlock=some b∨wr.heap.size≤b:=fun b hb=>by
      simp only [Value.ownBlock,Option.some.injEq]at hb
      subst hb
      rw [hpv']
      rcases hat6 with h | h
      ·exact .inl h
      ·exact .inr (by first | omega | (simp at h;omega))
     have hK3row:=fun j (hj:j<m2)=>hK3.row j hj
     have hstep:=CopyingK.step HF.out HX.out (A:=A) (y:=y) (fun z hz=>by
      rw [HA.out.2.1,HY.out.2.1]
      simp only [List.mem_append,List.mem_cons,List.mem_singleton,List.not_mem_nil,or_false]at hz ⊢
      rcases hz with h | h
      ·exact .inl h
      ·exact .inr (.inl h)) (by
      have h1:=HF.out.nd x
      rw [HA.out.2.1,HY.out.2.1,show A++y::rest'=(A++[y])++rest' by simp]at h1
      exact(List.nodup_append.1 h1).1) HA.out.2.2.1 HY.out.2.2.1 HC1.out (Nat.le_trans HKF.out.size (Nat.le_refl _)) HC2.out (fun b hb=>(hbk b hb).2) hv9 (fun j hj hjn b hb h9=>by
      rcases hv9 b h9 with h | h
      ·exact hsep j hj hjn b hb (by rw [hkn2];exact h)
      ·simp only [Value.ownBlock,Option.some.injEq]at h9
       subst h9
       rcases hat6 with h5 | h5
       ·exact hsep j hj hjn g6 hb (by rw [hpv];exact h5)
       ·have h6:=(World.ownsRow.lt (hK3row j hj) g6 hb).2
        first | omega | (simp at h5;omega))
     have hput:Knots B w7 m2 kn2 (updV kv2 n (.slice (some ⟨g6,0,none⟩) (k+1) cap6)) av2 pl2 lab2 (G2.put n (G2.kids n).length m):=hK7.congr (fun q _=>by
      simp only [Wd.put]
      by_cases e:q=n
      ·rw [if_pos e,if_pos e,List.take_length,List.drop_length,(HC2.out.oldF n hnm).1]
      ·rw [if_neg e,if_neg e]) (fun q _=>rfl)
     have q7:=ho7.cell (i:=7) (v:=kv2 n) rfl
     have q7f:=ho7.free 7
     have hkn3:kn2 n=r0:=hr2
     have HNEW:=Lib.hid (And.intro hstep (And.intro hput (And.intro hF7 (And.intro kf7 hkn3))))
     have hfl2:=Fl.append HA.out.2.2.1 HY.out.2.2.1
     have HFL2:=Lib.hid hfl2
     clear hstep hput hF7 kf7 hfl2 hf6 hf7 kf6 hK7 ho7 hK3 hkf3 hO3 hpv hpv' hkn2 hr2 hkn3 hsep hblk hbk hv9 hK3row hown6 hgrow6 hat6 hlt6 hs3 hs6
     go_wp2
     go_roundw
     case rel=>exact⟨k+1,A++[y],rest',L1++L2,R',m2,kn2,_,av2,pl2,lab2,_,by omega,by go_num,Lib.hid ⟨by rw [List.length_append,HA.out.1];rfl,by rw [HA.out.2.1,HY.out.2.1];simp,HFL2.out,HY.out.2.2.2.1,HY.out.2.2.2.2.1.trans (List.append_assoc ..).symm,HNEW.out.2.2.2.2⟩,Lib.hid HNEW.out.1,Lib.hid HNEW.out.2.1,Lib.hid HNEW.out.2.2.1,Lib.hid HNEW.out.2.2.2.1⟩
     case measure=>simp [intOf];omega
    ·obtain rfl:k=kl:=by omega
     have hres:rest=[]:=by
      have h1:=HLB.out.2.2.2.2
      rw [HA.out.2.1,List.length_append,HA.out.1]at h1
      cases hr:rest with
      | nil=>rfl
      | cons y r=>rw [hr,List.length_cons]at h1;omega
     have hdone:CopiedK w.heap.size n kn kv av pl lab F x (x::L') m kn' kv' av' pl' lab' G:=by
      obtain⟨h1,h2,h3,h4,h5,h6⟩:=HA.out
      rw [hres,List.append_nil]at h2
      rw [hres]at h4
      cases h4
      rw [List.append_nil]at h5
      subst h5
      rw [←h2]at h3
      have h7:=HC1.out
      rw [←h2]at h7
      exact CopyingK.done HF.out HX.out h3 h7
     have HD:=Lib.hid hdone
     have HKN:=Lib.hid HA.out.2.2.2.2.2
     clear hres hdone hxo
     go_wp2
     go_ret
     exact⟨m,kn',kv',av',pl',lab',G,by rw [HKN.out];rfl,HD,HKr,HFr,HKF⟩
  ·rw [hc]at hcN
   have HC:=Lib.hid hc
   clear hc
   obtain⟨w2,hw2⟩:∃w2,w1.setCell ⟨f,2,none⟩ (.bool true)=w2:=⟨_,rfl⟩
   have o2:World.objAt w2 f #[vf,.int .i64 (N+1),.bool true] 68:=by rw [←hw2];exact HK1.out.2.1.set 2 _
   have k2:KeptF f w1 w2:=by rw [←hw2];exact(KeptF.refl f w1).set HK1.out.2.1 2 _
   have hK2:=HK1.out.1.keptF HK1.out.2.1 k2
   have hne:kn x≠f:=fun e=>by
    have h1:=HK1.out.1.node x HX.out
    have h3:=HK1.out.2.1
    unfold World.objAt at h1 h3
    rw [e,h3]at h1
    simp only [Option.some.injEq,Obj.cells.injEq]at h1
    exact absurd h1.2.1 (by decide)
   have n1:w2.cell? ⟨kn x,1,none⟩=some (.int .i64 lb.kind):=by rw [←n1];exact World.cell?_of_block (k2.block _ (HK1.out.1.node x HX.out).lt hne)
   have n2:w2.cell? ⟨kn x,2,none⟩=some (.string lb.tag):=by rw [←n2];exact World.cell?_of_block (k2.block _ (HK1.out.1.node x HX.out).lt hne)
   have n3:w2.cell? ⟨kn x,3,none⟩=some (.string lb.text):=by rw [←n3];exact World.cell?_of_block (k2.block _ (HK1.out.1.node x HX.out).lt hne)
   have n4:w2.cell? ⟨kn x,4,none⟩=some (.slice ta al tc):=by rw [←n4];exact World.cell?_of_block (k2.block _ (HK1.out.1.node x HX.out).lt hne)
   have n5:w2.cell? ⟨kn x,5,none⟩=some (.int .i64 lb.size):=by rw [←n5];exact World.cell?_of_block (k2.block _ (HK1.out.1.node x HX.out).lt hne)
   have HK2:=Lib.hid (And.intro hK2 (And.intro o2 (HK1.out.2.2.trans k2)))
   clear hK2 o2 k2 hne
   go_enter Tryz.func105,Tryz.ntmps105
   obtain⟨X,hX⟩:∃X,w2.alloc (.cells #[.int .i64 (-1),.int .i64 lb.kind,.string lb.tag,.string lb.text,.slice ta al tc,.int .i64 lb.size,.pointer none,.slice none 0 0] 97)=X:=⟨_,rfl⟩
   have hbX:Below w2.heap.size w2 X:=by rw [←hX];exact(Below.refl _ _).alloc (Nat.le_refl _) _
   have hoX:World.objAt X w2.heap.size (knotCells (-1) lb (.slice ta al tc) none (.slice none 0 0)) 97:=by rw [←hX];exact objAt_alloc_new w2 _ _
   have kX:=KeptF.of_below (f:=f) hbX
   have oX:=objAt_keptF HK2.out.2.1 (KeptF.of_below (f:=w2.heap.size) hbX) (by have :=HK2.out.2.1.lt;omega)
   have hKX:=(HK2.out.1.keptF HK2.out.2.1 kX)
   have hAX:OwnKV X B (.slice ta al tc) lb.attrs:=by
    have h1:=hKX.attrs x HX.out
    rw [HLB.out.1,HLB.out.2.2.1]at h1
    exact h1
   have hs2:=HK2.out.2.2.size
   have hKM:=hKX.more HF.out hoX hAX (Nat.le_trans HFO.out.base (Nat.le_of_lt HK2.out.2.1.lt)) (fun i hi=>by have :=(HK2.out.1.node i hi).lt;omega)
   have hFX:ForestK B X f vf len kn0 ((n+1:Nat):Int) (decide (600<n+1)):=by
    refine HFO.out.keptF (HK2.out.2.2.trans kX) ?_
    rw [HC.out,show((n+1:Nat):Int)=N+1 by rw [←HN.out.1];rfl]
    exact oX
   have hcp:CopiedK w.heap.size n kn kv av pl lab F x (x::L') (n+1) (upd kn n w2.heap.size) (updV kv n (.slice none 0 0)) (updV av n (.slice ta al tc)) (upd pl n (-1)) (upd lab n lb) F:=by
    obtain⟨l1,l2⟩:=HF.out.lone (Nat.le_refl n)
    refine⟨by omega,by simp,HF.out.more (by omega),fun i hi=>⟨upd_other _ _ (by omega),if_neg (by omega),if_neg (by omega),upd_other _ _ (by omega),upd_other _ _ (by omega)⟩,fun i _=>⟨rfl,rfl⟩,l2,fun i h1 h2=>?_,fun hm=>?_⟩
    ·obtain rfl:i=n:=by omega
     refine⟨by rw [upd_same];omega,upd_same _ _ _,fun b hb=>by simp [updV,Value.ownBlock]at hb⟩
    ·have :=HC.out
     simp at this
     omega
   have HE:=Lib.hid (And.intro hcp (And.intro hKM (And.intro hFX (HK2.out.2.2.trans kX))))
   have HRT:=Lib.hid (show upd kn n w2.heap.size n=w2.heap.size from upd_same _ _ _)
   clear hcp hKM hFX hAX hKX oX kX hoX hbX hs2
   go_wp2
   go_ret
   exact⟨_,_,_,_,_,_,_,by rw [HRT.out];rfl,Lib.hid HE.out.1,Lib.hid HE.out.2.1,Lib.hid HE.out.2.2.1,Lib.hid HE.out.2.2.2⟩
end Go.Proofs.YtkdomegcacgpnaaGreat
namespace Go.Proofs.YtkdomegcacgpnaaGreat
theorem anc_same{n:Nat}{F G:Wd}(hF:WOk n F)(hup:∀i,i<n→G.up i=F.up i){v q:Nat}(hq:q<n):Anc G v q↔Anc F v q:=by
 constructor
 ·intro h
  induction h with
  | refl=>exact .refl
  | @step y p hu _ ih=>
   rw [hup y hq]at hu
   exact .step hu (ih (hF.lt p y ((hF.iff p y).2 hu)).1)
 ·intro h
  induction h with
  | refl=>exact .refl
  | @step y p hu _ ih=>
   have h1:=(hF.lt p y ((hF.iff p y).2 hu)).1
   exact .step (by rw [hup y hq];exact hu) (ih h1)
theorem WOk.insNew{m m2:Nat}{H:Wd}(hH:WOk m2 H)(hm:m≤m2)(hold:∀i,i<m→∀q,H.up i=some q→q<m){p:Nat}(hp:p<m){A B:List Nat}(hl:H.kids p=A++B){rs:List Nat}(hr:∀r∈rs,m≤r∧r<m2∧H.up r=none)(hnd:rs.Nodup):WOk m2 (H.ins p A rs B):=by
 have key:∀k,k≤rs.length→WOk m2 (H.ins p A (rs.take k) B):=by
  intro k
  induction k with
  | zero=>intro _;rw [List.take_zero,ins_nil hl];exact hH
  | succ k ih=>
   intro hk
   have h1:=ih (by omega)
   have htk:=take_snoc (l:=rs) (k:=k) (by omega)
   obtain⟨r,hr0⟩:∃r,rs.getD k 0=r:=⟨_,rfl⟩
   have hrm:r∈rs:=by rw [←hr0];exact getD_mem' (by omega)
   rw [hr0]at htk
   have hnm:r∉rs.take k:=fun hm2=>by
    have h4:=hnd
    rw [←List.take_append_drop k rs,List.nodup_append]at h4
    refine h4.2.2 _ hm2 _ ?_ rfl
    rw [List.drop_eq_getElem_cons (by omega),←hr0,List.getD_eq_getElem?_getD,List.getElem?_eq_getElem (by omega)]
    exact List.mem_cons_self ..
   obtain⟨g1,g2,g3⟩:=hr r hrm
   have hup:(H.ins p A (rs.take k) B).up r=none:=by simp only [Wd.ins,if_neg hnm];exact g3
   have hlow:∀q,q<m→∀v,Anc (H.ins p A (rs.take k) B) v q→v<m:=fun q hq v hv=>by
    induction hv with
    | refl=>exact hq
    | @step y z hu _ ih2=>
     refine ih2 ?_
     have hy:y∉rs.take k:=fun hm2=>by have :=(hr y (List.mem_of_mem_take hm2)).1;omega
     simp only [Wd.ins,if_neg hy]at hu
     exact hold y hq z hu
   have hput:=h1.put (A.length+(rs.take k).length) (p:=p) (x:=r) (by omega) g2 hup (fun ha=>by have :=hlow p hp r ha;omega)
   rw [ins_put,←htk]at hput
   exact hput
 have :=key rs.length (Nat.le_refl _)
 rwa [List.take_length]at this
structure MidW (n:Nat) (F:Wd) (L:List Nat) (m:Nat) (G:Wd):Prop where
 ok:WOk m G
 le:n≤m
 up:∀i,i<n→G.up i=F.up i
 tree:∀y∈L,G.kids y=F.kids y
theorem MidW.refl{n:Nat}{F:Wd}(hF:WOk n F)(L:List Nat):MidW n F L n F:=⟨hF,Nat.le_refl _,fun _ _=>rfl,fun _ _=>rfl⟩
theorem MidW.cp{n:Nat}{F:Wd}{L ws:List Nat}{m:Nat}{G:Wd}(h:MidW n F L m G)(hc:CpOk n F L ws):CpOk m G L ws:=
 ⟨hc.nd,fun y hy=>Nat.lt_of_lt_of_le (hc.lt y hy) h.le,fun x hx y hy=>hc.sub x hx y (by rwa [h.tree x hx]at hy),fun y hy hn=>by rw [h.up y (hc.lt y hy)];exact hc.up y hy hn,hc.ws⟩
theorem MidW.step{n:Nat}{F:Wd}{L ws:List Nat}{m:Nat}{G:Wd}(h:MidW n F L m G)(hF:WOk n F)(hc:CpOk n F L ws)(hnd:ws.Nodup){p:Nat}(hp:p<n)(hpL:p∉L){A B:List Nat}(hl:G.kids p=A++B):
  MidW n F L (m+L.length) ((cpW G m L ws).ins p A (ws.map fun v=>m+ix L v) B):=by
 have hc2:=h.cp hc
 have hok:=cp_ok h.ok hc2
 have hle:=h.le
 have hmem:∀r,r∈ws.map (fun v=>m+ix L v)→m≤r∧r<m+L.length∧(cpW G m L ws).up r=none:=fun r hr=>by
  obtain⟨v,hv,rfl⟩:=List.mem_map.1 hr
  have :=ix_lt (hc.ws v hv)
  exact⟨by omega,by omega,cp_root hv (hc.ws v hv)⟩
 refine⟨hok.insNew (m:=m) (by omega) (fun i hi q hq=>?_) (by omega) (by rw [(cp_old L ws (by omega)).1];exact hl) hmem ?_,by omega,fun i hi=>?_,fun y hy=>?_⟩
 ·rw [(cp_old L ws hi).2]at hq
  exact(h.ok.lt q i ((h.ok.iff q i).2 hq)).1
 ·have hw:∀v∈ws,v∈L:=hc.ws
  clear hmem hc hc2
  induction ws with
  | nil=>exact List.nodup_nil
  | cons a r ih=>
   rw [List.nodup_cons]at hnd
   rw [List.map_cons,List.nodup_cons]
   refine⟨fun hm=>?_,(List.Pairwise.imp_of_mem (R:=fun x y=>x≠y) (fun{x y} hx hy hne=>?_) (List.pairwise_map.2 (List.Pairwise.imp_of_mem (R:=fun x y=>x≠y) (S:=fun x y=>m+ix L x≠m+ix L y) (fun{x y} hx hy hne e=>hne (ix_inj (hw x (List.mem_cons_of_mem _ hx)) (hw y (List.mem_cons_of_mem _ hy)) (by omega))) hnd.2)))⟩
   ·obtain⟨b,hb,e⟩:=List.mem_map.1 hm
    have :=ix_inj (hw b (List.mem_cons_of_mem _ hb)) (hw a (List.mem_cons_self ..)) (by omega)
    subst this
    exact hnd.1 hb
   ·exact hne
 ·simp only [Wd.ins]
  rw [if_neg (fun hm=>by have :=(hmem i hm).1;omega),(cp_old L ws (by omega)).2]
  exact h.up i hi
 ·have :=hc.lt y hy
  simp only [Wd.ins]
  rw [if_neg (fun e:y=p=>hpL (e▸hy)),(cp_old L ws (by omega)).1]
  exact h.tree y hy
inductive Many (op:Int) (ws L:List Nat) (n2:Nat) (lab2:Nat→NodeD) (G2:Wd):List Nat→Nat→(Nat→NodeD)→Wd→Prop
 | last {x p m:Nat} {lab:Nat→NodeD} {G:Wd} {A B:List Nat} (h:Target op lab G x p A B) (hm:n2=m) (hl:∀i,i<m→lab2 i=lab i) (hG:G2=(G.off ws).ins p (offL ws A) ws (offL ws B)):Many op ws L n2 lab2 G2 [x] m lab G
 | more {x y p m:Nat} {xs:List Nat} {lab lab':Nat→NodeD} {G:Wd} {A B:List Nat} (h:Target op lab G x p A B) (h1:∀i,i<m→lab' i=lab i) (h2:∀i,i<L.length→lab' (m+i)=lab (L.getD i 0))
   (h3:Many op ws L n2 lab2 G2 (y::xs) (m+L.length) lab' ((cpW G m L ws).ins p A (ws.map fun v=>m+ix L v) B)):Many op ws L n2 lab2 G2 (x::y::xs) m lab G
end Go.Proofs.YtkdomegcacgpnaaGreat
namespace Go.Proofs.YtkdomegcacgpnaaGreat
open Go.RowKit
structure CopiesK (H m:Nat) (kn:Nat→Nat) (kv av:Nat→Value) (pl:Nat→Int) (lab:Nat→NodeD) (G:Wd) (T L1 rs:List Nat) (mj:Nat) (kn':Nat→Nat) (kv' av':Nat→Value) (pl':Nat→Int) (lab':Nat→NodeD) (G':Wd):Prop where
 lo:m≤mj
 hi:mj≤m+L1.length
 ok:WOk mj G'
 old:∀i,i<m→kn' i=kn i∧kv' i=kv i∧av' i=av i∧pl' i=pl i∧lab' i=lab i
 oldF:∀i,i<m→G'.kids i=G.kids i∧G'.up i=G.up i
 len:rs.length=T.length
 tops:∀r∈rs,m≤r∧r<mj∧G'.up r=none
 nd:rs.Nodup
 new:∀i,m≤i→i<mj→H≤kn' i∧pl' i= -1∧∀b,(kv' i).ownBlock=some b→H≤b
 exact :mj≤600→mj=m+L1.length∧G'=cpW G m L1 T∧rs=T.map (fun v=>m+ix L1 v)∧∀i,i<L1.length→lab' (m+i)=lab (L1.getD i 0)
theorem CopiesK.start{H m:Nat}{kn:Nat→Nat}{kv av:Nat→Value}{pl:Nat→Int}{lab:Nat→NodeD}{G:Wd}(hG:WOk m G):CopiesK H m kn kv av pl lab G [] [] [] m kn kv av pl lab G:=
 ⟨Nat.le_refl _,by simp,hG,fun _ _=>⟨rfl,rfl,rfl,rfl,rfl⟩,fun _ _=>⟨rfl,rfl⟩,rfl,(fun r hr=>by cases hr),List.nodup_nil,fun i h1 h2=>by omega,fun _=>⟨by simp,(cp_nil G m).symm,rfl,fun i hi=>absurd hi (Nat.not_lt_zero i)⟩⟩
theorem CopiesK.step{H H2 m:Nat}{kn:Nat→Nat}{kv av:Nat→Value}{pl:Nat→Int}{lab:Nat→NodeD}{G:Wd}{T L1 L2 rs:List Nat}{v mj:Nat}{kn':Nat→Nat}{kv' av':Nat→Value}{pl':Nat→Int}{lab':Nat→NodeD}{G':Wd}(h:CopiesK H m kn kv av pl lab G T L1 rs mj kn' kv' av' pl' lab' G')(hH:H≤H2)
  (hc1:CpOk m G L1 T) (hc2:CpOk m G L2 [v]) (hv:L2.head?=some v) (hd:∀z∈L1,z∉L2)
  {m2:Nat} {kn2:Nat→Nat} {kv2 av2:Nat→Value} {pl2:Nat→Int} {lab2:Nat→NodeD} {G2:Wd} (h2:CopiedK H2 mj kn' kv' av' pl' lab' G' v L2 m2 kn2 kv2 av2 pl2 lab2 G2):
  CopiesK H m kn kv av pl lab G (T++[v]) (L1++L2) (rs++[mj]) m2 kn2 kv2 av2 pl2 lab2 G2:=by
 have hlo:=h.lo
 have hlo2:=h2.lo
 refine⟨by omega,?_,h2.ok,fun i hi=>?_,fun i hi=>?_,?_,fun r hr=>?_,?_,fun i h1 h3=>?_,fun hm=>?_⟩
 ·have :=h.hi
  have :=h2.hi
  rw [List.length_append]
  omega
 ·obtain⟨a1,a2,a3,a4,a5⟩:=h.old i hi
  obtain⟨b1,b2,b3,b4,b5⟩:=h2.old i (by omega)
  exact⟨b1.trans a1,b2.trans a2,b3.trans a3,b4.trans a4,b5.trans a5⟩
 ·obtain⟨a1,a2⟩:=h.oldF i hi
  obtain⟨b1,b2⟩:=h2.oldF i (by omega)
  exact⟨b1.trans a1,b2.trans a2⟩
 ·rw [List.length_append,List.length_append,h.len];rfl
 ·rcases List.mem_append.1 hr with h5 | h5
  ·obtain⟨a1,a2,a3⟩:=h.tops r h5
   exact⟨a1,by omega,by rw [(h2.oldF r a2).2];exact a3⟩
  ·simp at h5
   subst h5
   exact⟨hlo,hlo2,h2.root⟩
 ·rw [List.nodup_append]
  exact⟨h.nd,by simp,fun a ha b hb e=>by
   simp at hb
   have :=(h.tops a ha).2.1
   omega⟩
 ·by_cases e:i<mj
  ·obtain⟨a1,a2,a3⟩:=h.new i h1 e
   obtain⟨b1,b2,b3,b4,b5⟩:=h2.old i e
   exact⟨by rw [b1];exact a1,by rw [b4];exact a2,fun b hb=>by rw [b2]at hb;exact a3 b hb⟩
  ·obtain⟨a1,a2,a3⟩:=h2.new i (by omega) h3
   exact⟨by omega,a2,fun b hb=>by have :=a3 b hb;omega⟩
 ·obtain⟨a1,a2,a3,a4⟩:=h.exact (by omega)
  obtain⟨b1,b2,b3⟩:=h2.exact hm
  have hvL:v∈L2:=hc2.ws v (by simp)
  have hv0:ix L2 v=0:=by
   cases L2 with
   | nil=>cases hv
   | cons a r=>simp at hv;simp [ix,hv]
  refine⟨by rw [List.length_append];omega,?_,?_,fun i hi=>?_⟩
  ·rw [b2,a2,a1]
   exact cp_snoc hc1 hc2 hd
  ·rw [a3,List.map_append,List.map_cons,List.map_nil,ix_app_right (fun hm2=>hd v hm2 hvL),hv0,a1]
   congr 1
   exact map_same (fun z hz=>by rw [ix_app_left (hc1.ws z hz)])
  ·rw [List.length_append]at hi
   by_cases e:i<L1.length
   ·rw [getD_app_left e,(h2.old (m+i) (by omega)).2.2.2.2]
    exact a4 i e
   ·rw [getD_app_right (by omega)]
    have h5:=b3 (i-L1.length) (by omega)
    have h6:L2.getD (i-L1.length) 0∈L2:=getD_mem' (by omega)
    rw [(h.old _ (hc2.lt _ h6)).2.2.2.2]at h5
    rw [←h5]
    congr 1
    omega
theorem own_keptF{B1:Nat}{w w':World}{f:Nat}{cs:Array Value}(hf:World.objAt w f cs 68){v:Value}{N:Nat}{xs:List Value}(h:w.ownsRow B1 69 1 v N xs)(hk:KeptF f w w'):w'.ownsRow B1 69 1 v N xs:=
 ownsRow_kept h (fun q hq=>hk.block q (World.ownsRow.lt h q hq).2 (fun e=>objAt_ne_own hf h (by decide) (by rw [hq,e])))
theorem apart_lone{F:Wd}{ws on:List Nat}(h:ApartW F ws on)(hnd:ws.Nodup):Lone F ws:=by
 refine⟨hnd,fun a ha b hb hab=>?_⟩
 obtain⟨i,hi,rfl⟩:=List.getElem_of_mem ha
 obtain⟨j,hj,rfl⟩:=List.getElem_of_mem hb
 by_cases e:j=i
 ·subst e;rfl
 ·have h1:=h.each i j hi hj e
  simp [List.getD,hi,hj]at h1
  exact absurd hab h1
theorem Fl.take_drop{kids:Nat→List Nat}{ws L:List Nat}(h:Fl kids ws L)(j:Nat):∃L1 R,L=L1++R∧Fl kids (ws.take j) L1∧Fl kids (ws.drop j) R:=by
 have key:∀xs ys:List Nat,∀L,Fl kids (xs++ys) L→∃A B,L=A++B∧Fl kids xs A∧Fl kids ys B:=by
  intro xs ys
  induction xs with
  | nil=>intro L hL;exact⟨[],L,rfl,.nil,hL⟩
  | cons x xs ih=>
   intro L hL
   cases hL with
   | cons h1 h2=>
    obtain⟨A,B,rfl,hA,hB⟩:=ih _ h2
    exact⟨_,B,by rw [List.cons_append,List.append_assoc],.cons h1 hA,hB⟩
 have :=key (ws.take j) (ws.drop j) L (by rw [List.take_append_drop];exact h)
 exact this
theorem lone_disjoint{n:Nat}{F:Wd}(hF:WOk n F){T:List Nat}{v:Nat}{L1 L2:List Nat}(hl:Lone F (T++[v]))(h1:Fl F.kids T L1)(h2:Fl F.kids [v] L2):∀z∈L1,z∉L2:=fun z h1z h2z=>by
 obtain⟨q,hq,hqa⟩:=(h1.anc hF z).1 h1z
 obtain⟨r,hr,hra⟩:=(h2.anc hF z).1 h2z
 simp at hr
 subst hr
 have hqy:q≠r:=fun e=>(List.nodup_append.1 hl.1).2.2 q hq r (by simp) e
 rcases hqa.cmp hra with h5 | h5
 ·exact hqy (hl.2 q (List.mem_append_left _ hq) r (by simp) h5)
 ·exact hqy (hl.2 r (by simp) q (List.mem_append_left _ hq) h5).symm
theorem Lone.sub{F:Wd}{a b:List Nat}(h:Lone F (a++b)):Lone F a:=⟨(List.nodup_append.1 h.1).1,fun x hx y hy=>h.2 x (List.mem_append_left _ hx) y (List.mem_append_left _ hy)⟩
theorem nodup_sub_len:∀{a b:List Nat},a.Nodup→(∀z∈a,z∈b)→a.length≤b.length
 | [],_,_,_=>Nat.zero_le _
 | x::r,b,hd,h=>by
  rw [List.nodup_cons]at hd
  obtain⟨s,t,rfl⟩:=List.append_of_mem (h x (List.mem_cons_self ..))
  have :=nodup_sub_len (a:=r) (b:=s++t) hd.2 (fun z hz=>by
   have h1:=h z (List.mem_cons_of_mem _ hz)
   rw [List.mem_append,List.mem_cons]at h1
   rw [List.mem_append]
   rcases h1 with h1 | h1 | h1
   ·exact .inl h1
   ·exact absurd (h1▸hz) hd.1
   ·exact .inr h1)
  rw [List.length_append]at this
  rw [List.length_cons,List.length_append,List.length_cons]
  omega
def OpT(op op':Int):Prop:=(op=1∧op'=1)∨(op=2∧op'=2)∨(op=3∧op'=3)∨(op=4∧op'=4)∨(op=5∧op'=3)
theorem insertedK_any{op op':Int}(hop:OpT op op'){B B1:Nat}{w:World}{n:Nat}{kn:Nat→Nat}{kv av:Nat→Value}{pl:Nat→Int}{lab:Nat→NodeD}{F1:Wd}(h:Knots B w n kn kv av pl lab F1)(hF:WOk n F1)(hn:n≤900000)(f:Nat){lb:Nat→NodeD}{x p:Nat}{A B' ws:List Nat}(ht:Target op' lb F1 x p A B')(hx:x<n)(hp:p<n)(gw cw:Nat)(hr:w.ownsRow B1 69 1 (.slice (some ⟨gw,0,none⟩) ws.length cw) ws.length (ws.map fun y=>ptrV (kn y)))(hws:∀v∈ws,v<n∧v≠p∧F1.up v=none)(hnd:ws.Nodup)(hwl:ws.length≤200):
  Calls Tryz.prog 106 #[.pointer (some ⟨f,0,none⟩),.int .i64 op,.pointer (some ⟨kn x,0,none⟩),.slice (some ⟨gw,0,none⟩) ws.length cw] w (InsPost B n kn av pl lab (F1.ins p A ws B') w):=by
 rcases hop with ⟨rfl,rfl⟩ | ⟨rfl,rfl⟩ | ⟨rfl,rfl⟩ | ⟨rfl,rfl⟩ | ⟨rfl,rfl⟩
 ·rcases ht.2 with ⟨e,h1,h2,_⟩ | ⟨e,_⟩ | ⟨e,_⟩ | ⟨e,_⟩ <;> first | exact inserted_append h hF hn f ht.1 h1.symm h2 hx hp gw cw hr hws hnd hwl | exact absurd e (by decide)
 ·rcases ht.2 with ⟨e,_⟩ | ⟨e,_⟩ | ⟨e,_⟩ | ⟨e,h1,h2,_⟩ <;> first | exact inserted_prepend h hF hn f ht.1 h1.symm h2 hx hp gw cw hr hws hnd hwl | exact absurd e (by decide)
 ·rcases ht.2 with ⟨e,_⟩ | ⟨e,h1,h2⟩ | ⟨e,_⟩ | ⟨e,_⟩ <;> first | exact inserted_after h hF hn f ht.1 h1 h2 hx hp gw cw hr hws hnd hwl | exact absurd e (by decide)
 ·rcases ht.2 with ⟨e,_⟩ | ⟨e,_⟩ | ⟨e,h1,h2⟩ | ⟨e,_⟩ <;> first | exact inserted_before h hF hn f ht.1 h1 h2 hx hp gw cw hr hws hnd hwl | exact absurd e (by decide)
 ·rcases ht.2 with ⟨e,_⟩ | ⟨e,h1,h2⟩ | ⟨e,_⟩ | ⟨e,_⟩ <;> first | exact inserted_replace h hF hn f ht.1 h1 h2 hx hp gw cw hr hws hnd hwl | exact absurd e (by decide)
theorem Target.congr{op:Int}{lab lab':Nat→NodeD}{F F':Wd}{x p:Nat}{A B:List Nat}(h:Target op lab F x p A B)(hk:F'.kids p=F.kids p)(hu:F'.up x=F.up x)(hl:lab' x=lab x):Target op lab' F' x p A B:=by
 refine⟨by rw [hk];exact h.1,?_⟩
 rcases h.2 with ⟨h1,h2,h3,h4⟩ | ⟨h1,h2,h3⟩ | ⟨h1,h2,h3⟩ | ⟨h1,h2,h3,h4⟩
 ·exact .inl ⟨h1,h2,h3,by rw [hl];exact h4⟩
 ·exact .inr (.inl ⟨h1,by rw [hu];exact h2,h3⟩)
 ·exact .inr (.inr (.inl ⟨h1,by rw [hu];exact h2,h3⟩))
 ·exact .inr (.inr (.inr ⟨h1,h2,h3,by rw [hl];exact h4⟩))
theorem Target.off{op:Int}{lab:Nat→NodeD}{F:Wd}{x p:Nat}{A B:List Nat}(h:Target op lab F x p A B){ws:List Nat}(hx:x∉ws):Target op lab (F.off ws) x p (offL ws A) (offL ws B):=by
 refine⟨by show offL ws (F.kids p)=_;rw [h.1,offL_append],?_⟩
 rcases h.2 with ⟨h1,h2,h3,h4⟩ | ⟨h1,h2,a,h3⟩ | ⟨h1,h2,b,h3⟩ | ⟨h1,h2,h3,h4⟩
 ·exact .inl ⟨h1,h2,by rw [h3];rfl,h4⟩
 ·exact .inr (.inl ⟨h1,by rw [off_up hx];exact h2,offL ws a,by rw [h3,offL_append,offL_keep hx]⟩)
 ·exact .inr (.inr (.inl ⟨h1,by rw [off_up hx];exact h2,offL ws b,by rw [h3,offL_cons hx]⟩))
 ·exact .inr (.inr (.inr ⟨h1,h2,by rw [h3];rfl,h4⟩))
def Spot(op:Int)(lab:Nat→NodeD)(F:Wd)(x:Nat):Prop:=if op=1∨op=2 then(lab x).kind=3 else ∃p,F.up x=some p
theorem Target.at_{op op':Int}(hop:OpT op op'){n:Nat}{lab:Nat→NodeD}{F:Wd}(hF:WOk n F){x:Nat}(hs:Spot op lab F x):∃p A B,Target op' lab F x p A B:=by
 have side:(∃p,F.up x=some p)→∃p aa bb,F.kids p=aa++x::bb∧F.up x=some p:=fun⟨p,hu⟩=>by
  obtain⟨aa,bb,hab⟩:=List.append_of_mem ((hF.iff p x).2 hu)
  exact⟨p,aa,bb,hab,hu⟩
 rcases hop with ⟨rfl,rfl⟩ | ⟨rfl,rfl⟩ | ⟨rfl,rfl⟩ | ⟨rfl,rfl⟩ | ⟨rfl,rfl⟩
 ·exact⟨x,F.kids x,[],by simp,.inl ⟨rfl,rfl,rfl,by simpa [Spot]using hs⟩⟩
 ·exact⟨x,[],F.kids x,by simp,.inr (.inr (.inr ⟨rfl,rfl,rfl,by simpa [Spot]using hs⟩))⟩
 ·obtain⟨p,aa,bb,hab,hu⟩:=side (by simpa [Spot]using hs)
  exact⟨p,aa++[x],bb,by rw [hab];simp,.inr (.inl ⟨rfl,hu,aa,rfl⟩)⟩
 ·obtain⟨p,aa,bb,hab,hu⟩:=side (by simpa [Spot]using hs)
  exact⟨p,aa,x::bb,hab,.inr (.inr (.inl ⟨rfl,hu,bb,rfl⟩))⟩
 ·obtain⟨p,aa,bb,hab,hu⟩:=side (by simpa [Spot]using hs)
  exact⟨p,aa++[x],bb,by rw [hab];simp,.inr (.inl ⟨rfl,hu,aa,rfl⟩)⟩
theorem Target.parent{op:Int}{n:Nat}{lab:Nat→NodeD}{F G:Wd}(hF:WOk n F)(hup:∀i,i<n→G.up i=F.up i){x p:Nat}{A B:List Nat}(h:Target op lab G x p A B)(hx:x<n){ws L:List Nat}(hL:Fl F.kids ws L)(hw:∀v∈ws,¬Anc F v x):p<n∧p∉L∧∀v∈ws,¬Anc F v p:=by
 have key:∀q,(q=x∨F.up x=some q)→q<n∧q∉L∧∀v∈ws,¬Anc F v q:=fun q hq=>by
  have h3:∀v∈ws,¬Anc F v q:=fun v hv ha=>by
   rcases hq with e | e
   ·subst e;exact hw v hv ha
   ·exact hw v hv (.step e ha)
  refine⟨?_,fun hm=>?_,h3⟩
  ·rcases hq with e | e
   ·omega
   ·exact(hF.lt q x ((hF.iff q x).2 e)).1
  ·obtain⟨v,hv,ha⟩:=(hL.anc hF q).1 hm
   exact h3 v hv ha
 rcases h.2 with ⟨_,h2,_⟩ | ⟨_,h2,_⟩ | ⟨_,h2,_⟩ | ⟨_,h2,_⟩
 ·exact key p (.inl h2)
 ·exact key p (.inr (by rw [←hup x hx];exact h2))
 ·exact key p (.inr (by rw [←hup x hx];exact h2))
 ·exact key p (.inl h2)
end Go.Proofs.YtkdomegcacgpnaaGreat
