/- Parts of a proof: UnwPure, OnceF, UnwK. -/
import Derived.Test.YtkdomegcacgpnaaGreatG07
import Derived.Test.YtkdomegcacgpnaaGreatG01
import Derived.Test.YtkdomegcacgpnaaGreatG23
import Derived.Test.YtkdomegcacgpnaaGreatG13
import Derived.Test.YtkdomegcacgpnaaGreatG08
set_option linter.unusedVariables false
set_option linter.unusedSimpArgs false
namespace Go.Proofs.YtkdomegcacgpnaaGreat
def putsW:Wd→Nat→Nat→List Nat→Wd
 | G,_,_,[]=>G
 | G,g,a,y::r=>putsW ((G.cut y).put g a y) g (a+1) r
def unwr(G:Wd)(p g a:Nat):Wd:=(putsW G g a (G.kids p)).cut p
structure UnwAt (n:Nat) (G0 G:Wd) (p g:Nat) (A B M ys:List Nat):Prop where
 ok:WOk n G
 up:G.up p=some g
 kg:G.kids g=A++M++p::B
 kp:G.kids p=ys
 other:∀z,z≠g→z≠p→G.kids z=G0.kids z
 ups:∀z,z∉M→G.up z=G0.up z
 upm:∀z∈M,G.up z=some g
 all:G0.kids p=M++ys
theorem UnwAt.start{n:Nat}{G:Wd}(hG:WOk n G){p g:Nat}{A B:List Nat}(hu:G.up p=some g)(hk:G.kids g=A++p::B):UnwAt n G G p g A B [] (G.kids p):=
 ⟨hG,hu,by rw [List.append_nil];exact hk,rfl,fun _ _ _=>rfl,fun _ _=>rfl,fun _ h=>(by cases h),rfl⟩
theorem UnwAt.ne{n:Nat}{G0 G:Wd}{p g:Nat}{A B M ys:List Nat}(h:UnwAt n G0 G p g A B M ys):p≠g:=fun e=>by
 have :=h.ok.not_up h.up
 rw [e]at this
 exact this .refl
structure UnwStep (n:Nat) (G:Wd) (p g y:Nat) (A M B:List Nat):Prop where
 yn:y<n
 gn:g<n
 pn:p<n
 ne:y≠g
 upy:G.up y=some p
 row:(G.cut y).kids g=(A++M)++p::B
theorem UnwAt.now{n:Nat}{G0 G:Wd}{p g:Nat}{A B M:List Nat}{y:Nat}{r:List Nat}(h:UnwAt n G0 G p g A B M (y::r)):UnwStep n G p g y A M B∧UnwAt n G0 ((G.cut y).put g (A.length+M.length) y) p g A B (M++[y]) r:=by
 have hy:G.up y=some p:=(h.ok.iff p y).1 (by rw [h.kp];simp)
 obtain⟨hpn,hyn⟩:=h.ok.lt p y ((h.ok.iff p y).2 hy)
 obtain⟨hgn,_⟩:=h.ok.lt g p ((h.ok.iff g p).2 h.up)
 have hpg:=h.ne
 have hyp:y≠p:=fun e=>by
  have :=h.ok.not_up hy
  rw [e]at this
  exact this .refl
 have hyg:y≠g:=fun e=>by
  have h1:=h.ok.not_up hy
  rw [e]at h1
  exact h1 (.step h.up .refl)
 have hnd:=h.ok.nd p
 rw [h.kp,List.nodup_cons]at hnd
 have hno:∀z,z≠p→y∉G.kids z:=fun z hz hm=>by
  have :=(h.ok.iff z y).1 hm
  rw [hy]at this
  exact hz (Option.some.inj this).symm
 have hrow:(G.cut y).kids g=(A++M)++p::B:=by
  show(G.kids g).filter _=_
  rw [filter_none (hno g (Ne.symm hpg)),h.kg]
 have hcut:=h.ok.cut y
 have hup:(G.cut y).up y=none:=by simp [Wd.cut]
 have hanc:¬Anc (G.cut y) y g:=fun ha=>by
  have key:∀t,Anc G t g→∀c,Anc (G.cut y) c t→Anc G c g:=fun t ht c hct=>by
   induction hct with
   | refl=>exact ht
   | @step a b hab _ ih=>
    refine ih ?_
    simp only [Wd.cut]at hab
    split at hab
    ·cases hab
    ·exact Anc.trans (.step hab .refl) ht
  have h1:=key g .refl y ha
  have h2:=h.ok.not_up hy
  exact h2 (Anc.trans h1 (.step h.up .refl))
 have hyM:y∉M:=fun hm=>by
  have :=h.upm y hm
  rw [hy]at this
  exact hpg (Option.some.inj this)
 refine⟨⟨hyn,hgn,hpn,hyg,hy,hrow⟩,⟨hcut.put _ hgn hyn hup hanc,?_,?_,?_,fun z hzg hzp=>?_,fun z hz=>?_,fun z hz=>?_,by rw [h.all];simp⟩⟩
 ·simp only [Wd.put,Wd.cut]
  rw [if_neg (Ne.symm hyp),if_neg (Ne.symm hyp)]
  exact h.up
 ·simp only [Wd.put,if_true]
  rw [hrow]
  have e1:A.length+M.length=(A++M).length:=by simp
  rw [e1,List.take_left' rfl,List.drop_left' rfl]
  simp
 ·simp only [Wd.put]
  rw [if_neg hpg]
  show(G.kids p).filter _=_
  rw [h.kp,List.filter_cons,if_neg (by simp)]
  exact filter_none hnd.1
 ·simp only [Wd.put]
  rw [if_neg hzg]
  show(G.kids z).filter _=_
  rw [filter_none (hno z hzp)]
  exact h.other z hzg hzp
 ·have hzy:z≠y:=fun e=>hz (by rw [e];simp)
  simp only [Wd.put,Wd.cut]
  rw [if_neg hzy,if_neg hzy]
  exact h.ups z (fun hm=>hz (List.mem_append_left _ hm))
 ·simp only [Wd.put,Wd.cut]
  by_cases e:z=y
  ·rw [if_pos e]
  ·rw [if_neg e,if_neg e]
   rcases List.mem_append.1 hz with h1 | h1
   ·exact h.upm z h1
   ·simp at h1;exact absurd h1 e
theorem UnwAt.puts{n:Nat}{G0:Wd}{p g:Nat}{A B:List Nat}:∀(ys M:List Nat) (G:Wd),UnwAt n G0 G p g A B M ys→UnwAt n G0 (putsW G g (A.length+M.length) ys) p g A B (M++ys) []
 | [],M,G,h=>by rw [List.append_nil];exact h
 | y::r,M,G,h=>by
  have h1:=UnwAt.puts r (M++[y]) _ h.now.2
  rw [List.append_assoc]at h1
  have e:A.length+(M++[y]).length=A.length+M.length+1:=by simp;omega
  rw [e]at h1
  exact h1
structure UnwOut (n:Nat) (G:Wd) (p g:Nat) (A B:List Nat) (G2:Wd):Prop where
 ok:WOk n G2
 kg:G2.kids g=A++G.kids p++B
 kp:G2.kids p=[]
 other:∀z,z≠g→z≠p→G2.kids z=G.kids z
 up:G2.up p=none
 upk:∀z∈G.kids p,G2.up z=some g
 ups:∀z,z∉G.kids p→z≠p→G2.up z=G.up z
theorem UnwAt.cut{n:Nat}{G0 G:Wd}{p g:Nat}{A B M:List Nat}(h:UnwAt n G0 G p g A B M []):UnwOut n G0 p g A B (G.cut p):=by
 have hall:G0.kids p=M:=by rw [h.all,List.append_nil]
 have hpg:=h.ne
 have hnd:=h.ok.nd g
 rw [h.kg]at hnd
 obtain⟨n1,n2,_⟩:=nd_parts hnd
 have hpM:∀z∈M,z≠p:=fun z hz e=>n1 (List.mem_append_right _ (e▸hz))
 refine⟨h.ok.cut p,?_,?_,fun z hzg hzp=>?_,by simp [Wd.cut],fun z hz=>?_,fun z hz hzp=>?_⟩
 ·show(G.kids g).filter _=_
  rw [h.kg,List.filter_append,filter_none n1,List.filter_cons,if_neg (by simp),filter_none n2,hall]
 ·show(G.kids p).filter _=_
  rw [h.kp]
  rfl
 ·show(G.kids z).filter _=_
  rw [filter_none (fun hm=>by
   have :=(h.ok.iff z p).1 hm
   rw [h.up]at this
   exact hzg (Option.some.inj this).symm)]
  exact h.other z hzg hzp
 ·rw [hall]at hz
  simp only [Wd.cut]
  rw [if_neg (hpM z hz)]
  exact h.upm z hz
 ·rw [hall]at hz
  simp only [Wd.cut]
  rw [if_neg hzp]
  exact h.ups z hz
theorem unwr_out{n:Nat}{G:Wd}(hG:WOk n G){p g:Nat}{A B:List Nat}(hu:G.up p=some g)(hk:G.kids g=A++p::B):UnwOut n G p g A B (unwr G p g A.length):=by
 have h1:=UnwAt.puts _ [] _ (UnwAt.start hG hu hk)
 rw [List.nil_append]at h1
 exact h1.cut
theorem UnwOut.eq{n:Nat}{G:Wd}{p g:Nat}{A B:List Nat}{G2 G3:Wd}(h2:UnwOut n G p g A B G2)(h3:UnwOut n G p g A B G3):G2=G3:=by
 cases G2 with
 | mk k2 u2=>
  cases G3 with
  | mk k3 u3=>
   have e1:k2=k3:=funext fun z=>by
    by_cases e:z=g
    ·rw [e];exact h2.kg.trans h3.kg.symm
    ·by_cases e2:z=p
     ·rw [e2];exact h2.kp.trans h3.kp.symm
     ·exact(h2.other z e e2).trans (h3.other z e e2).symm
   have e2:u2=u3:=funext fun z=>by
    by_cases e:z=p
    ·rw [e];exact h2.up.trans h3.up.symm
    ·by_cases e2:z∈G.kids p
     ·exact(h2.upk z e2).trans (h3.upk z e2).symm
     ·exact(h2.ups z e2 e).trans (h3.ups z e2 e).symm
   rw [e1,e2]
inductive Unws (G2:Wd):List Nat→Wd→Prop
 | nil {G:Wd} (h:G2=G):Unws G2 [] G
 | cons {p g:Nat} {ps A B:List Nat} {G:Wd} (hu:G.up p=some g) (hk:G.kids g=A++p::B) (h:Unws G2 ps (unwr G p g A.length)):Unws G2 (p::ps) G
theorem Unws.ok{n:Nat}{G2:Wd}{ps:List Nat}{G:Wd}(h:Unws G2 ps G):WOk n G→WOk n G2:=by
 induction h with
 | nil h=>intro hG;rw [h];exact hG
 | cons hu hk _ ih=>intro hG;exact ih (unwr_out hG hu hk).ok
theorem unw_uniq{x:Nat}:∀{a b a' b':List Nat},a++x::b=a'++x::b'→x∉a→x∉a'→a=a'∧b=b'
 | [],b,[],b',h,_,_=>by simp at h;exact⟨rfl,h⟩
 | [],b,c::r,b',h,_,h2=>by simp at h;exact absurd (by simp [h.1]) h2
 | c::r,b,[],b',h,h1,_=>by simp at h;exact absurd (by simp [h.1]) h1
 | c::r,b,c'::r',b',h,h1,h2=>by
  simp only [List.cons_append,List.cons.injEq]at h
  have :=unw_uniq h.2 (fun hm=>h1 (List.mem_cons_of_mem _ hm)) (fun hm=>h2 (List.mem_cons_of_mem _ hm))
  exact⟨by rw [h.1,this.1],this.2⟩
theorem Unws.det{n:Nat}{G2 G3:Wd}{ps:List Nat}{G:Wd}(h:Unws G2 ps G):WOk n G→Unws G3 ps G→G2=G3:=by
 induction h with
 | nil h=>
  intro _ h'
  cases h' with
  | nil h'=>exact h.trans h'.symm
 | @cons p g ps A B G hu hk _ ih=>
  intro hG h'
  cases h' with
  | @cons _ g' _ A' B' _ hu' hk' h3=>
   have e:g=g':=by rw [hu]at hu';exact Option.some.inj hu'
   subst e
   have n1:=hG.nd g
   rw [hk]at n1
   have n2:=hG.nd g
   rw [hk']at n2
   obtain⟨rfl,rfl⟩:=unw_uniq (hk.symm.trans hk') (nd_parts n1).1 (nd_parts n2).1
   exact ih (unwr_out hG hu hk).ok h3
theorem unwr_up{n:Nat}{G:Wd}(hG:WOk n G){p g:Nat}{A B:List Nat}(hu:G.up p=some g)(hk:G.kids g=A++p::B){z:Nat}(hz:z≠p)(hzu:∃q,G.up z=some q):∃q,(unwr G p g A.length).up z=some q:=by
 have h:=unwr_out hG hu hk
 by_cases e:z∈G.kids p
 ·exact⟨g,h.upk z e⟩
 ·rw [h.ups z e hz];exact hzu
end Go.Proofs.YtkdomegcacgpnaaGreat
namespace Go.Proofs.YtkdomegcacgpnaaGreat
open Go.RowKit
def onceF(l:List Nat):List Nat:=l.foldl (fun acc x=>if x∈acc then acc else acc++[x]) []
theorem onceF_snoc(l:List Nat)(x:Nat):onceF (l++[x])=if x∈onceF l then onceF l else onceF l++[x]:=by
 unfold onceF
 rw [List.foldl_append]
 rfl
theorem onceF_take{l:List Nat}{k:Nat}(h:k<l.length):onceF (l.take (k+1))=if l.getD k 0∈onceF (l.take k)then onceF (l.take k)else onceF (l.take k)++[l.getD k 0]:=by
 rw [take_snoc h,onceF_snoc]
theorem onceF_mem_take{l:List Nat}{y:Nat}:∀k,k≤l.length→(y∈onceF (l.take k)↔y∈l.take k):=by
 intro k
 induction k with
 | zero=>intro _;simp [onceF]
 | succ k ih=>
  intro hk
  have h:=ih (by omega)
  rw [onceF_take (by omega),take_snoc (by omega)]
  split
  ·rename_i hm
   rw [h]
   have hx:l.getD k 0∈l.take k:=by
    have :=(onceF_mem_take_aux l k (l.getD k 0)) hm
    exact this
   constructor
   ·intro h1;exact List.mem_append_left _ h1
   ·intro h1
    rcases List.mem_append.mp h1 with h2 | h2
    ·exact h2
    ·simp at h2;rw [h2];simpa using hx
  ·simp only [List.mem_append];rw [h]
where
 onceF_mem_take_aux (l:List Nat) (k:Nat) (y:Nat):y∈onceF (l.take k)→y∈l.take k:=by
  generalize l.take k=m
  clear l k
  have :∀(m acc:List Nat),(∀z∈m.foldl (fun acc x=>if x∈acc then acc else acc++[x]) acc,z∈acc∨z∈m):=by
   intro m
   induction m with
   | nil=>intro acc z hz;exact .inl hz
   | cons a m ih=>
    intro acc z hz
    simp only [List.foldl_cons]at hz
    rcases ih _ z hz with h | h
    ·split at h
     ·exact .inl h
     ·rcases List.mem_append.mp h with h | h
      ·exact .inl h
      ·simp at h;exact .inr (by simp [h])
    ·exact .inr (List.mem_cons_of_mem _ h)
  intro h
  rcases this m [] y h with h | h
  ·cases h
  ·exact h
theorem onceF_mem{l:List Nat}{y:Nat}:y∈onceF l↔y∈l:=by
 have :=onceF_mem_take (l:=l) (y:=y) l.length (Nat.le_refl _)
 rwa [List.take_length]at this
theorem Once.nodup{l:List Nat}(h:Once l):l.Nodup:=by
 rw [List.nodup_iff_pairwise_ne,List.pairwise_iff_getElem]
 intro i j hi hj hij he
 have :=h i j hi hj (by simp [List.getD,hi,hj,he])
 omega
def parK(F:Wd)(x:Nat):Nat:=(F.up x).getD 0
def UnwGood(lab:Nat→NodeD)(F:Wd)(x:Nat):Prop:=∃p g,F.up x=some p∧F.up p=some g∧(lab p).kind=3∧((lab p).tag.toList==[98,111,100,121])=false
def UnwKPost(B n:Nat)(kn:Nat→Nat)(av:Nat→Value)(pl:Nat→Int)(lab:Nat→NodeD)(F:Wd)(xs:List Nat)(w:World)(e:Ending)(w':World):Prop:=
 (e=.returned (.bool false)∧Hid (OnlyK n kn w w'))∨
 (e=.returned (.bool true)∧∃kv' G2,Hid (∀x∈xs,UnwGood lab F x)∧Hid (Unws G2 (onceF (xs.map (parK F))) F)∧Hid (Knots B w' n kn kv' av pl lab G2)∧Hid (OnlyK n kn w w'))
theorem drop_at{xs:List Nat}{i:Nat}(h:i<xs.length):xs.drop i=xs.getD i 0::xs.drop (i+1):=by
 rw [List.drop_eq_getElem_cons h]
 simp [List.getD,h]
theorem ownU_onlyK{B B1:Nat}{w w':World}{n:Nat}{kn:Nat→Nat}{kv av:Nat→Value}{pl:Nat→Int}{lab:Nat→NodeD}{F:Wd}(hK:Knots B w n kn kv av pl lab F){v:Value}{N:Nat}{xs:List Value}(h:w.ownsRow B1 69 1 v N xs)(ho:OnlyK n kn w w'):w'.ownsRow B1 69 1 v N xs:=
 ownsRow_kept h (fun q hq=>ho.block q (World.ownsRow.lt h q hq).2 (fun i hi e=>objAt_ne_own (hK.node i hi) h (by decide) (by rw [hq,e])))
theorem getD_map_par{F:Wd}{xs:List Nat}{k:Nat}(h:k<xs.length):(xs.map (parK F)).getD k 0=parK F (xs.getD k 0):=by simp [List.getD,h]
theorem onceF_sub{l:List Nat}:∀x∈onceF l,x∈l:=by
 have key:∀k,k≤l.length→∀x∈onceF (l.take k),x∈l:=by
  intro k
  induction k with
  | zero=>intro _ x hx;simp [onceF]at hx
  | succ k ih=>
   intro hk x hx
   rw [onceF_take (by omega)]at hx
   split at hx
   ·exact ih (by omega) x hx
   ·rcases List.mem_append.1 hx with h | h
    ·exact ih (by omega) x h
    ·simp only [List.mem_singleton]at h;rw [h];exact getD_mem' (by omega)
 intro x hx
 exact key l.length (Nat.le_refl _) x (by rw [List.take_length];exact hx)
theorem onceF_len{l:List Nat}:∀k,k≤l.length→(onceF (l.take k)).length≤k:=by
 intro k
 induction k with
 | zero=>intro _;simp [onceF]
 | succ k ih=>
  intro hk
  rw [onceF_take (by omega)]
  have :=ih (by omega)
  split
  ·omega
  ·rw [List.length_append];simp;omega
theorem addK(b i:Nat):(⟨b,0,none⟩:Addr).add i=⟨b,i,none⟩:=by unfold Addr.add;split <;> simp_all
theorem onceF_nd{l:List Nat}:(onceF l).Nodup:=by
 have key:∀k,k≤l.length→(onceF (l.take k)).Nodup:=by
  intro k
  induction k with
  | zero=>intro _;simp [onceF]
  | succ k ih=>
   intro hk
   rw [onceF_take (by omega)]
   have h1:=ih (by omega)
   split
   ·exact h1
   ·rename_i hm
    rw [List.nodup_append]
    exact⟨h1,by simp,fun a ha b hb e=>by simp only [List.mem_singleton]at hb;rw [e,hb]at ha;exact hm ha⟩
 have :=key l.length (Nat.le_refl _)
 rwa [List.take_length]at this
structure UnwMid (n:Nat) (F:Wd) (ps rest:List Nat) (G:Wd):Prop where
 ok:WOk n G
 ups:∀q∈rest,∃g,G.up q=some g
 nd:rest.Nodup
 back:∀G2,Unws G2 rest G→Unws G2 ps F
theorem UnwMid.step{n:Nat}{F:Wd}{ps rest:List Nat}{G:Wd}{p g:Nat}{A B M:List Nat}{Gj:Wd}(h:UnwMid n F ps (p::rest) G)(hu:G.up p=some g)(hk:G.kids g=A++p::B)(ha:UnwAt n G Gj p g A B M []):UnwMid n F ps rest (Gj.cut p):=by
 have hnd:=h.nd
 rw [List.nodup_cons]at hnd
 have ho:=unwr_out h.ok hu hk
 rw [ha.cut.eq ho]
 exact⟨ho.ok,fun q hq=>unwr_up h.ok hu hk (fun e=>hnd.1 (e▸hq)) (h.ups q (List.mem_cons_of_mem _ hq)),hnd.2,fun G2 h2=>h.back G2 (.cons hu hk h2)⟩
set_option maxRecDepth 100000 in
set_option maxHeartbeats 8000000 in
theorem unwrappedK_any{B Bx:Nat}{w:World}{n:Nat}{kn:Nat→Nat}{kv av:Nat→Value}{pl:Nat→Int}{lab:Nat→NodeD}{F:Wd}(h:Knots B w n kn kv av pl lab F)(hF:WOk n F)(hn:n≤600)(xs:List Nat)(hxs:∀x∈xs,x<n)(hxl:xs.length≤200)(ax:Option Addr)(cx:Nat)(hrx:w.ownsRow Bx 69 1 (.slice ax xs.length cx) xs.length (xs.map fun y=>ptrV (kn y))):
  Calls Tryz.prog 61 #[.slice ax xs.length cx] w (UnwKPost B n kn av pl lab F xs w):=by
 obtain⟨i0,hi,hz0,hz1,hz2⟩:=info_parts Tryz.infoKnotP
 obtain⟨a,cap,gx,hv,hc1,hc2,ha,hcells,_,_⟩:=own_open hrx
 simp only [Value.slice.injEq]at hv
 obtain⟨rfl,_,rfl⟩:=hv
 obtain⟨Q,hQ⟩:∃Q,xs.map (parK F)=Q:=⟨_,rfl⟩
 have hQl:Q.length=xs.length:=by rw [←hQ];simp
 have HQ:=Lib.hid (And.intro hQ hQl)
 have HK:=Lib.hid h
 have HF:=Lib.hid hF
 have HXS:=Lib.hid hxs
 have HA:=Lib.hid ha
 have HCX:=Lib.hid hcells
 clear h hF hxs hrx ha hcells hQ hQl
 go_enter Tryz.func61,Tryz.ntmps61
 go_wp2
 go_loopw [3,4] (fun pv iv wr=>∃k:Nat,iv=.int .i64 (k:Int)∧k≤xs.length∧Hid (∀j,j<k→UnwGood lab F (xs.getD j 0))∧Hid (wr.ownsRow w.heap.size 69 1 pv (onceF (Q.take k)).length ((onceF (Q.take k)).map fun y=>ptrV (kn y)))∧Hid (Below w.heap.size w wr)) (fun _ iv _=>xs.length-(intOf iv).toNat)
 case atStart=>exact⟨0,by go_num,by omega,Lib.hid (fun j hj=>by omega),Lib.hid (World.ownsRow_nil _ _ _ _),Lib.hid (Below.refl _ _)⟩
 case round=>
  obtain⟨k,rfl,hk,HG,HOWN,HBEL⟩:=hrel
  obtain⟨ps,hps⟩:∃ps,onceF (Q.take k)=ps:=⟨_,rfl⟩
  have hown:=HOWN.out
  rw [hps]at hown
  have hpk:ps.length≤k:=by rw [←hps];exact onceF_len k (by rw [HQ.out.2];exact hk)
  obtain⟨pa,pc,pg,rfl,hp1,hp2,hpa,hpcl,_,_⟩:=own_open hown
  have hpsm:∀q∈ps,q<n∧∃g,F.up q=some g:=fun q hq=>by
   rw [←hps]at hq
   obtain⟨j,hj,rfl⟩:=List.getElem_of_mem (onceF_sub q hq)
   rw [List.length_take]at hj
   have hjx:j<xs.length:=by have :=HQ.out.2;omega
   obtain⟨p,g,h1,h2,_,_⟩:=HG.out j (by omega)
   have e:(Q.take k)[j]'(by rw [List.length_take];exact hj)=p:=by
    have h3:Q.getD j 0=parK F (xs.getD j 0):=by rw [←HQ.out.1];exact getD_map_par hjx
    rw [List.getElem_take]
    have h4:Q.getD j 0=Q[j]'(by omega):=by simp [List.getD,show j<Q.length by omega]
    rw [←h4,h3]
    show(F.up (xs.getD j 0)).getD 0=p
    rw [h1]
    rfl
   rw [e]
   exact⟨(HF.out.lt g p ((HF.out.iff g p).2 h2)).2,g,h2⟩
  have HPSM:=Lib.hid hpsm
  have HOW:=Lib.hid hown
  have HPA:=Lib.hid hpa
  have HPC:=Lib.hid hpcl
  have HKr:=Lib.hid (HK.out.below HBEL.out)
  have hbs:=HBEL.out.size
  by_cases hlt:k<xs.length
  ·have hPS:onceF (Q.take (k+1))=if Q.getD k 0∈ps then ps else ps++[Q.getD k 0]:=by
    rw [onceF_take (by rw [HQ.out.2];exact hlt),hps]
   have hQk:Q.getD k 0=parK F (xs.getD k 0):=by rw [←HQ.out.1];exact getD_map_par hlt
   obtain⟨x,hxx⟩:∃x,xs.getD k 0=x:=⟨_,rfl⟩
   have hxn:x<n:=by rw [←hxx];exact HXS.out _ (getD_mem' hlt)
   obtain rfl:=HA.out (by omega)
   have ck:=cell_below HBEL.out (HCX.out k hlt)
   have c6:=(HKr.out.cells hxn).2.1
   rw [hxx]at ck hQk
   cases hu:F.up x with
   | none=>
    rw [hu,Option.map_none,lk_none]at c6
    have HEND:=Lib.hid (OnlyK.of_below (n:=n) (kn:=kn) HBEL.out)
    clear hpsm hu hxx hQk hPS hps hown hpa hpcl
    go_wp2
    go_ret
    exact .inl ⟨rfl,HEND⟩
   | some p=>
    rw [hu,Option.map_some,lk_some]at c6
    have hpn:p<n:=(HF.out.lt p x ((HF.out.iff p x).2 hu)).1
    have d6:=(HKr.out.cells hpn).2.1
    cases hup:F.up p with
    | none=>
     rw [hup,Option.map_none,lk_none]at d6
     have HEND:=Lib.hid (OnlyK.of_below (n:=n) (kn:=kn) HBEL.out)
     clear hpsm hu hup hxx hQk hPS hps hown hpa hpcl
     go_wp2
     go_ret
     exact .inl ⟨rfl,HEND⟩
    | some g=>
     rw [hup,Option.map_some,lk_some]at d6
     have d1:wr.cell? ⟨kn p,1,none⟩=some (.int .i64 (lab p).kind):=(HKr.out.node p hpn).cell rfl
     have d2:wr.cell? ⟨kn p,2,none⟩=some (.string (lab p).tag):=(HKr.out.node p hpn).cell rfl
     obtain⟨kd,hkd⟩:∃kd,(lab p).kind=kd:=⟨_,rfl⟩
     obtain⟨tg,htg⟩:∃tg,(lab p).tag=tg:=⟨_,rfl⟩
     rw [hkd]at d1
     rw [htg]at d2
     by_cases hk3:kd=3
     ·subst hk3
      cases htb:(tg.toList==[98,111,100,121])with
      | true=>
       have HEND:=Lib.hid (OnlyK.of_below (n:=n) (kn:=kn) HBEL.out)
       clear hpsm hu hup hxx hQk hPS hps hown hpa hpcl hkd htg
       go_wp2
       go_ret
       exact .inl ⟨rfl,HEND⟩
      | false=>
       have hgood:UnwGood lab F x:=⟨p,g,hu,hup,hkd,by rw [htg];exact htb⟩
       have hG2:∀j,j<k+1→UnwGood lab F (xs.getD j 0):=fun j hj=>by
        by_cases e:j=k
        ·rw [e,hxx];exact hgood
        ·exact HG.out j (by omega)
       have HG2:=Lib.hid hG2
       have hQp:Q.getD k 0=p:=by rw [hQk];simp [parK,hu]
       rw [hQp]at hPS
       have HPS:=Lib.hid hPS
       have HPN:=Lib.hid hpn
       clear hpsm hu hup hxx hQk hPS hps hown hpa hpcl hkd htg hgood hG2 hQp hxn
       go_wp2
       go_loopw [6,7] (fun bv jv wq=>∃j:Nat,jv=.int .i64 (j:Int)∧j≤ps.length∧bv=.bool (decide (p∈ps.take j))∧Hid (wr=wq)) (fun _ jv _=>ps.length-(intOf jv).toNat)
       case atStart=>exact⟨0,by go_num,by omega,by simp,Lib.hid rfl⟩
       case round=>
        obtain⟨j,rfl,hj,rfl,HWQ⟩:=hrel
        obtain rfl:=HWQ.out
        by_cases hjl:j<ps.length
        ·have htk:ps.take (j+1)=ps.take j++[ps.getD j 0]:=take_snoc hjl
         obtain⟨q,hqq⟩:∃q,ps.getD j 0=q:=⟨_,rfl⟩
         rw [hqq]at htk
         have HTK:=Lib.hid htk
         cases hd:decide (p∈ps.take j)with
         | true=>
          have hd2:decide (p∈ps.take (j+1))=true:=by rw [htk];simp at hd ⊢;exact .inl hd
          have HD2:=Lib.hid hd2
          clear htk hqq hd hd2
          go_wp2
          go_roundw
          case rel=>exact⟨j+1,by go_num,by omega,by rw [HD2.out],Lib.hid (by trivial)⟩
          case measure=>simp [intOf];omega
         | false=>
          obtain rfl:=HPA.out (by omega)
          have cq:=HPC.out j hjl
          rw [hqq]at cq
          have hqn:q<n:=by
           have h1:q∈ps:=by rw [←hqq];exact getD_mem' hjl
           exact(HPSM.out q h1).1
          by_cases e:q=p
          ·have heq:=eqlK_same wr (kn p)
           have hd2:decide (p∈ps.take (j+1))=true:=by rw [htk,e];simp
           have HD2:=Lib.hid hd2
           rw [e]at cq
           clear htk hqq hd hd2 e hqn
           go_wp2
           go_roundw
           case rel=>exact⟨j+1,by go_num,by omega,by rw [HD2.out],Lib.hid (by trivial)⟩
           case measure=>simp [intOf];omega
          ·have heq:=eqlK_other (HKr.out.alive hqn) (HKr.out.alive HPN.out) (HKr.out.ne hqn HPN.out e)
           have hd2:decide (p∈ps.take (j+1))=false:=by
            rw [htk]
            simp at hd ⊢
            exact⟨hd,fun h=>e h.symm⟩
           have HD2:=Lib.hid hd2
           clear htk hqq hd hd2 e hqn
           go_wp2
           go_roundw
           case rel=>exact⟨j+1,by go_num,by omega,by rw [HD2.out],Lib.hid (by trivial)⟩
           case measure=>simp [intOf];omega
        ·obtain rfl:j=ps.length:=by omega
         have htl:ps.take ps.length=ps:=List.take_length
         cases hd:decide (p∈ps)with
         | true=>
          have hPS2:onceF (Q.take (k+1))=ps:=by rw [HPS.out,if_pos (by simpa using hd)]
          have HO2:=Lib.hid (show wr.ownsRow w.heap.size 69 1 (.slice pa ps.length pc) (onceF (Q.take (k+1))).length ((onceF (Q.take (k+1))).map fun y=>ptrV (kn y)) by rw [hPS2];exact HOW.out)
          have hdt:decide (p∈ps.take ps.length)=true:=by rw [htl];exact hd
          clear hPS2 htl hd
          rw [hdt]
          clear hdt
          go_wp2
          go_roundw
          case rel=>exact⟨k+1,by go_num,by omega,HG2,HO2,HBEL⟩
          case measure=>simp [intOf];omega
         | false=>
          have hPS2:onceF (Q.take (k+1))=ps++[p]:=by rw [HPS.out,if_neg (by simpa using hd)]
          have HPS2:=Lib.hid hPS2
          have hdt:decide (p∈ps.take ps.length)=false:=by rw [htl];exact hd
          have hown2:=HOW.out
          clear hPS2 htl hd
          rw [hdt]
          clear hdt
          go_wp2_with (at_builtin;refine wpList_append_own _ rfl _ _ 66 rfl w.heap.size 69 i0 (.pointer none) 1 8 Tryz.underlying66 hi hz0 hz1 hz2 rfl (by decide) _ _ _ rfl (hown2.alloc _) ⟨wr.heap.size,0,none⟩ 1 1 [.pointer (some ⟨kn p,0,none⟩)] rfl rfl ?c1 ?c2 ?c3 ?c4 ?c5 ?_)
          case c2=>rfl
          case c3=>unfold maxLen;omega
          case c4=>omega
          case c5=>first | omega | (simp;omega)
          intro v' w3 hown3 hgrow _
          have hbel3:Below w.heap.size w w3:=(HBEL.out.alloc hbs _).grown hgrow (by simp;omega) (fun q hq=>(World.ownsRow.lt hown2 q hq).1)
          have HO2:=Lib.hid (show w3.ownsRow w.heap.size 69 1 v' (onceF (Q.take (k+1))).length ((onceF (Q.take (k+1))).map fun y=>ptrV (kn y)) by
           rw [HPS2.out,List.map_append,List.length_append]
           exact hown3)
          have HB3:=Lib.hid hbel3
          clear hown3 hgrow hbel3 hown2
          go_wp2
          go_roundw
          case rel=>exact⟨k+1,by go_num,by omega,HG2,HO2,HB3⟩
          case measure=>simp [intOf];omega
     ·have h4:(kd !=3)=true:=by simp [hk3]
      have HEND:=Lib.hid (OnlyK.of_below (n:=n) (kn:=kn) HBEL.out)
      clear hpsm hu hup hxx hQk hPS hps hown hpa hpcl hkd htg
      go_wp2
      go_ret
      exact .inl ⟨rfl,HEND⟩
  ·obtain rfl:k=xs.length:=by omega
   have hps2:onceF Q=ps:=by rw [←hps,←HQ.out.2,List.take_length]
   have hgall:∀x∈xs,UnwGood lab F x:=fun x hx=>by
    obtain⟨j,hj,rfl⟩:=List.getElem_of_mem hx
    have :=HG.out j hj
    rwa [show xs.getD j 0=xs[j] by simp [List.getD,hj]]at this
   have HGA:=Lib.hid hgall
   have HP2:=Lib.hid hps2
   have HOK0:=Lib.hid (OnlyK.of_below (n:=n) (kn:=kn) HBEL.out)
   have hpl:ps.length≤200:=by omega
   have hst0:UnwMid n F ps (ps.drop 0) F:=⟨HF.out,fun q hq=>(HPSM.out q hq).2,by rw [←hps2];exact onceF_nd,fun _ h=>h⟩
   have HST0:=Lib.hid hst0
   clear hps hps2 hown hpa hpcl hpsm hgall hst0
   go_wp2
   go_loopw [8] (fun iv wq=>∃(i:Nat) (kvi:Nat→Value) (G:Wd),iv=.int .i64 (i:Int)∧i≤ps.length∧Hid (Knots B wq n kn kvi av pl lab G)∧Hid (UnwMid n F ps (ps.drop i) G)∧Hid (wq.ownsRow w.heap.size 69 1 (.slice pa ps.length pc) ps.length (ps.map fun y=>ptrV (kn y)))∧Hid (OnlyK n kn w wq)) (fun iv _=>ps.length-(intOf iv).toNat)
   case atStart=>exact⟨0,kv,F,by go_num,by omega,HKr,HST0,HOW,HOK0⟩
   case round=>
    obtain⟨i,kvi,G,rfl,hil,HKi,HM,HRi,HOi⟩:=hrel
    by_cases hi2:i<ps.length
    ·obtain⟨p,hpp⟩:∃p,ps.getD i 0=p:=⟨_,rfl⟩
     have hdrop:=drop_at hi2
     rw [hpp]at hdrop
     have hmid:=HM.out
     rw [hdrop]at hmid
     obtain⟨g,hug⟩:=hmid.ups p (by simp)
     obtain⟨A,B2,hab⟩:=List.append_of_mem ((hmid.ok.iff g p).2 hug)
     obtain⟨hgn,hpn⟩:=hmid.ok.lt g p ((hmid.ok.iff g p).2 hug)
     obtain rfl:=HPA.out (by omega)
     have cp:wr.cell? ⟨pg,i,none⟩=some (.pointer (some ⟨kn p,0,none⟩)):=by
      have :=HRi.out.cells (g:=pg) rfl i (ptrV (kn p)) (by rw [←hpp,List.getD_eq_getElem?_getD,List.getElem?_map,List.getElem?_eq_getElem hi2];rfl)
      rwa [addK]at this
     have c6:=(HKi.out.cells hpn).2.1
     rw [hug,Option.map_some,lk_some]at c6
     have HPLC:=Lib.hid (fun q=>place_some (HKi.out.drewN q) hmid.ok hab)
     obtain⟨a0,ha0⟩:∃a0,A.length=a0:=⟨_,rfl⟩
     have ha0b:a0≤600:=by
      have h1:=hmid.ok.few g
      rw [hab]at h1
      simp at h1
      omega
     rw [ha0]at HPLC
     have HMID:=Lib.hid (And.intro hmid (And.intro hug (And.intro hab (And.intro ha0 (And.intro hgn hpn)))))
     clear hpp hdrop hmid hug hab ha0 hgn hpn HM
     go_wp2
     go_quiet (exact Calls.quiet_of_same ((HPLC.out _).mono fun _ _ hh=>⟨hh.1,hh.2.symm⟩))
     obtain⟨wz,hwz⟩:∃wz,wr.drewN nq=wz:=⟨_,rfl⟩
     have hbz:Below wr.heap.size wr wz:=by rw [←hwz];exact below_drewN (Below.refl _ _) _
     have HKZ:=Lib.hid (show Knots B wz n kn kvi av pl lab G by rw [←hwz];exact HKi.out.drewN _)
     have HOZ:=Lib.hid (show OnlyK n kn w wz from HOi.out.trans (OnlyK.of_below hbz))
     have HRZ:=Lib.hid (show wz.ownsRow w.heap.size 69 1 (.slice (some ⟨pg,0,none⟩) ps.length pc) ps.length (ps.map fun y=>ptrV (kn y)) by rw [←hwz];exact HRi.out)
     rw [hwz]
     clear hwz hbz c6 cp HPLC HKi HOi HRi
     obtain⟨ks,hks⟩:∃ks,G.kids p=ks:=⟨_,rfl⟩
     have hkrow:=HKZ.out.row p HMID.out.2.2.2.2.2
     rw [hks]at hkrow
     have hkl:ks.length≤600:=by rw [←hks];exact Nat.le_trans (HMID.out.1.ok.few p) hn
     obtain⟨ka,kc,kg,hkv,hk1,hk2,hka,hkcl,_,_⟩:=own_open hkrow
     have c7:=(HKZ.out.cells HMID.out.2.2.2.2.2).2.2
     rw [hkv]at c7
     have hrowx:Row (wz.alloc (.cells #[] 69)) ka ks.length (ks.map fun y=>ptrV (kn y)):=⟨by simp,by unfold maxLen;omega,fun h0=>⟨kg,0,hka h0,fun j hj=>by
      rw [Nat.zero_add,cell_alloc_old (hkcl j hj) _]
      simp [List.getD,hj,ptrV]⟩⟩
     have c7':=cell_alloc_old c7 (.cells #[] 69)
     have HROWX:=Lib.hid hrowx
     have HKS:=Lib.hid hks
     clear hks hkrow hkv hka hkcl hrowx
     go_wp2_with (at_builtin;refine wpList_append_reads rfl _ _ 66 rfl wz.heap.size 69 i0 (.pointer none) 8 Tryz.underlying66 hi hz0 hz1 hz2 rfl (some ⟨wz.heap.size,0,none⟩) 0 0 [] rfl (owns_empty wz wz.heap.size (Nat.le_refl _) _) ka ks.length kc (ks.map fun y=>ptrV (kn y)) rfl HROWX.out ptrK_one (by unfold maxLen;omega) (by omega) (by simp) ?_)
     intro b2 c2 w3 hown3 hgrow3
     (try simp only [Nat.zero_add,List.nil_append]at hown3)
     (try simp only [Nat.zero_add])
     have hb3:Below wz.heap.size wz w3:=((Below.refl _ _).alloc (Nat.le_refl _) _).grown hgrow3 (by simp) (fun q hq=>by simp [Value.ownBlock]at hq;omega)
     have hown4:w3.ownsRow wz.heap.size 69 1 (.slice b2 ks.length c2) ks.length (ks.map fun y=>ptrV (kn y)):=hown3
     obtain⟨ca,cc,cg,hcv,_,_,hca,_,_,_⟩:=own_open hown4
     simp only [Value.slice.injEq]at hcv
     obtain⟨rfl,_,rfl⟩:=hcv
     have HCA:=Lib.hid hca
     have HRC:=Lib.hid hown4
     have HK3:=Lib.hid (HKZ.out.below hb3)
     have HO3:=Lib.hid (HOZ.out.trans (OnlyK.of_below hb3))
     have HR3:=Lib.hid (show w3.ownsRow w.heap.size 69 1 (.slice (some ⟨pg,0,none⟩) ps.length pc) ps.length (ps.map fun y=>ptrV (kn y)) from ownsRow_kept HRZ.out (fun q hq=>hb3.block q (World.ownsRow.lt HRZ.out q hq).2))
     have HAT:=Lib.hid (show UnwAt n G G p g A B2 (ks.take 0) (ks.drop 0) from by
      have h9:=UnwAt.start HMID.out.1.ok HMID.out.2.1 HMID.out.2.2.1
      rwa [HKS.out]at h9)
     clear hown3 hown4 hgrow3 hb3 hca c7 c7' HROWX HKZ HOZ HRZ
     go_wp2
     go_loopw [13] (fun jv wr4=>∃(j:Nat) (kvj:Nat→Value) (Gj:Wd),jv=.int .i64 (j:Int)∧j≤ks.length∧Hid (Knots B wr4 n kn kvj av pl lab Gj)∧Hid (UnwAt n G Gj p g A B2 (ks.take j) (ks.drop j))∧Hid (wr4.ownsRow wz.heap.size 69 1 (.slice b2 ks.length c2) ks.length (ks.map fun y=>ptrV (kn y)))∧Hid (wr4.ownsRow w.heap.size 69 1 (.slice (some ⟨pg,0,none⟩) ps.length pc) ps.length (ps.map fun y=>ptrV (kn y)))∧Hid (OnlyK n kn w wr4)) (fun jv _=>ks.length-(intOf jv).toNat)
     case atStart=>exact⟨0,kvi,G,by go_num,by omega,HK3,HAT,HRC,HR3,HO3⟩
     case round=>
      obtain⟨j,kvj,Gj,rfl,hj,HKj,HATj,HRCj,HRj,HOj⟩:=hrel
      by_cases hjl:j<ks.length
      ·obtain⟨y,hyy⟩:∃y,ks.getD j 0=y:=⟨_,rfl⟩
       have hdrop:=drop_at hjl
       have htake:=take_snoc hjl
       rw [hyy]at hdrop htake
       have hat:=HATj.out
       rw [hdrop]at hat
       obtain⟨hst,hnx⟩:=hat.now
       have htl:(ks.take j).length=j:=by rw [List.length_take];omega
       rw [htl,HMID.out.2.2.2.1,←htake]at hnx
       obtain rfl:=HCA.out (by omega)
       have cy:wr.cell? ⟨cg,j,none⟩=some (.pointer (some ⟨kn y,0,none⟩)):=by
        have :=HRCj.out.cells (g:=cg) rfl j (ptrV (kn y)) (by rw [←hyy,List.getD_eq_getElem?_getD,List.getElem?_map,List.getElem?_eq_getElem hjl];rfl)
        rwa [addK]at this
       have hpt:=putK_more HKj.out hat.ok (show n≤900000 by omega) hst.gn hst.yn hst.ne hst.upy (A++ks.take j) (p::B2) hst.row (m:=a0+j) (by rw [List.length_append,htl,HMID.out.2.2.2.1])
       rw [Int.natCast_add]at hpt
       have HPT:=Lib.hid hpt
       have HNX:=Lib.hid hnx
       clear hyy hdrop htake hat hst hnx htl hpt HATj
       go_wp2_with fail
       refine HPT.out.mono ?_
       rintro e w5 ⟨kv5,rfl,hk5,ho5⟩
       have HO5:=Lib.hid (HOj.out.trans ho5.out)
       have HRC5:=Lib.hid (ownU_onlyK HKj.out HRCj.out ho5.out)
       have HR5:=Lib.hid (ownU_onlyK HKj.out HRj.out ho5.out)
       clear ho5 HPT
       go_wp2
       refine⟨?rel,?measure⟩
       case rel=>exact⟨j+1,kv5,_,by go_num,by omega,hk5,HNX,HRC5,HR5,HO5⟩
       case measure=>simp [intOf];omega
      ·obtain rfl:j=ks.length:=by omega
       have hat:=HATj.out
       rw [List.take_length,List.drop_length]at hat
       have hcut:=cutK_some HKj.out hat.ok (by omega) hat.kg
       have hmid2:=HMID.out.1.step HMID.out.2.1 HMID.out.2.2.1 hat
       have HCUT:=Lib.hid hcut
       have HMID2:=Lib.hid hmid2
       clear hat hcut hmid2 HATj
       go_wp2_with fail
       refine HCUT.out.mono ?_
       rintro e w5 ⟨kv5,rfl,hk5,ho5⟩
       have HO5:=Lib.hid (HOj.out.trans ho5.out)
       have HR5:=Lib.hid (ownU_onlyK HKj.out HRj.out ho5.out)
       clear ho5 HCUT
       go_wp2
       refine⟨?rel,?measure⟩
       case rel=>exact⟨i+1,kv5,_,by go_num,by omega,hk5,HMID2,HR5,HO5⟩
       case measure=>simp [intOf];omega
    ·obtain rfl:i=ps.length:=by omega
     have hfin:Unws G (onceF (xs.map (parK F))) F:=by
      rw [HQ.out.1,HP2.out]
      refine HM.out.back G ?_
      rw [List.drop_length]
      exact .nil rfl
     have HFIN:=Lib.hid hfin
     clear hfin
     go_wp2
     go_ret
     exact .inr ⟨rfl,kvi,G,HGA,HFIN,HKi,HOi⟩
end Go.Proofs.YtkdomegcacgpnaaGreat
