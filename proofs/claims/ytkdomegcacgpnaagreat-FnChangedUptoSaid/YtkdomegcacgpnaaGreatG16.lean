/- Parts of a proof: Unlink. -/
import Derived.Test.YtkdomegcacgpnaaGreatG01
import Derived.StillTailTactics
set_option linter.unusedVariables false
set_option linter.unusedSimpArgs false
namespace Go.Proofs.YtkdomegcacgpnaaGreat
open Go.RowKit
theorem alive_putN{w:World}{b k:Nat}{r:NRec}(h:Alive w k)(hb:World.nodeAt w b r)(r':NRec):Alive (World.putN w b r') k:=by
 by_cases e:k=b
 ·subst e
  exact(hb.put r').alive
 ·obtain⟨c,t,h⟩:=h
  exact⟨c,t,(World.heap_putN_other r' e).trans h⟩
theorem neq_same(w:World)(b:Nat):(binOp .neq 75 (.pointer (some ⟨b,0,none⟩)) (.pointer (some ⟨b,0,none⟩))).run Tryz.prog w=.ok (.bool false) w:=by
 obtain⟨j,hj,_⟩:=Tryz.node_info
 have h:∀d:Nat,(Op.equalIn (d+1) 75 (.pointer (some ⟨b,0,none⟩)) (.pointer (some ⟨b,0,none⟩))).run Tryz.prog w=.ok true w:=fun d=>by
  simp [Op.equalIn,run_underlying Tryz.underlying75,sizeOf,typeInfo,hj,run_sameAddr_same]
 simp only [binOp]
 simp [Op.equal,Op.maxDepth,h 9999]
section
variable {w a:World} {b k x:Nat} {r:NRec}
theorem ndq{w':World}(e:a=w')(h:World.nodeAt w' b r):World.nodeAt a b r:=e▸h
theorem ndd{w':World}(e:a=w'.drew)(h:World.nodeAt w' b r):World.nodeAt a b r:=e▸h
theorem alq{r':NRec}(e:a=World.putN w b r')(hb:World.nodeAt w b r)(h:Alive w k):Alive a k:=e▸alive_putN h hb r'
theorem ald{r':NRec}(e:a=(World.putN w b r').drew)(hb:World.nodeAt w b r)(h:Alive w k):Alive a k:=e▸(show Alive (World.putN w b r') k from alive_putN h hb r')
theorem cex{p:Addr}{v:Value}(h:w.cell? p=some v):∃z,w.cell? p=some z:=⟨_,h⟩
theorem Spar0(h:World.nodeAt w b r):w.setCell ⟨b,0,none⟩ (.pointer none)=World.putN w b {r with par:=none}:=setCell_par h none
theorem Spar(x:Nat)(h:World.nodeAt w b r):w.setCell ⟨b,0,none⟩ (.pointer (some ⟨x,0,none⟩))=World.putN w b {r with par:=some x}:=setCell_par h (some x)
theorem Cpar0(h:World.nodeAt w b r)(e:r.par=none):w.cell? ⟨b,0,none⟩=some (.pointer none):=by rw [h.par,e];rfl
theorem Cpar(h:World.nodeAt w b r)(e:r.par=some x):w.cell? ⟨b,0,none⟩=some (.pointer (some ⟨x,0,none⟩)):=by rw [h.par,e];rfl
theorem Sfst0(h:World.nodeAt w b r):w.setCell ⟨b,1,none⟩ (.pointer none)=World.putN w b {r with fst:=none}:=setCell_fst h none
theorem Sfst(x:Nat)(h:World.nodeAt w b r):w.setCell ⟨b,1,none⟩ (.pointer (some ⟨x,0,none⟩))=World.putN w b {r with fst:=some x}:=setCell_fst h (some x)
theorem Cfst(h:World.nodeAt w b r)(e:r.fst=some x):w.cell? ⟨b,1,none⟩=some (.pointer (some ⟨x,0,none⟩)):=by rw [h.fst,e];rfl
theorem Slst0(h:World.nodeAt w b r):w.setCell ⟨b,2,none⟩ (.pointer none)=World.putN w b {r with lst:=none}:=setCell_lst h none
theorem Slst(x:Nat)(h:World.nodeAt w b r):w.setCell ⟨b,2,none⟩ (.pointer (some ⟨x,0,none⟩))=World.putN w b {r with lst:=some x}:=setCell_lst h (some x)
theorem Clst0(h:World.nodeAt w b r)(e:r.lst=none):w.cell? ⟨b,2,none⟩=some (.pointer none):=by rw [h.lst,e];rfl
theorem Clst(h:World.nodeAt w b r)(e:r.lst=some x):w.cell? ⟨b,2,none⟩=some (.pointer (some ⟨x,0,none⟩)):=by rw [h.lst,e];rfl
theorem Sprv0(h:World.nodeAt w b r):w.setCell ⟨b,3,none⟩ (.pointer none)=World.putN w b {r with prv:=none}:=setCell_prv h none
theorem Sprv(x:Nat)(h:World.nodeAt w b r):w.setCell ⟨b,3,none⟩ (.pointer (some ⟨x,0,none⟩))=World.putN w b {r with prv:=some x}:=setCell_prv h (some x)
theorem Cprv0(h:World.nodeAt w b r)(e:r.prv=none):w.cell? ⟨b,3,none⟩=some (.pointer none):=by rw [h.prv,e];rfl
theorem Cprv(h:World.nodeAt w b r)(e:r.prv=some x):w.cell? ⟨b,3,none⟩=some (.pointer (some ⟨x,0,none⟩)):=by rw [h.prv,e];rfl
theorem Snxt0(h:World.nodeAt w b r):w.setCell ⟨b,4,none⟩ (.pointer none)=World.putN w b {r with nxt:=none}:=setCell_nxt h none
theorem Snxt(x:Nat)(h:World.nodeAt w b r):w.setCell ⟨b,4,none⟩ (.pointer (some ⟨x,0,none⟩))=World.putN w b {r with nxt:=some x}:=setCell_nxt h (some x)
theorem Cnxt0(h:World.nodeAt w b r)(e:r.nxt=none):w.cell? ⟨b,4,none⟩=some (.pointer none):=by rw [h.nxt,e];rfl
theorem Cnxt(h:World.nodeAt w b r)(e:r.nxt=some x):w.cell? ⟨b,4,none⟩=some (.pointer (some ⟨x,0,none⟩)):=by rw [h.nxt,e];rfl
end
set_option maxRecDepth 100000 in
set_option maxHeartbeats 1000000 in
theorem removeChild_nn(P X:Nat)(rp rx:NRec)(w:World)(hp:World.nodeAt w P rp)(hx:World.nodeAt w X rx)(nPX:P≠X)(h1:rp.fst=some X)(h2:rp.lst=some X)(h0:rx.par=some P)(h3:rx.prv=none)(h4:rx.nxt=none):
  Calls Tryz.prog 87 #[.pointer (some ⟨P,0,none⟩),.pointer (some ⟨X,0,none⟩)] w fun e w'=>e=.returned (.tuple #[])∧
   ∃w1,World.putN w P {rp with fst:=none,lst:=none}=w1∧World.putN w1 X {rx with par:=none,prv:=none,nxt:=none}=w':=by
 have k0P:=hp
 have fP:=hp.free
 have k0X:=hx
 have fX:=hx.free
 have s0:=Sfst0 k0P
 have k1P:=ndq s0 (k0P.put _)
 have k1X:=ndq s0 (k0X.other _ nPX.symm)
 have s1:=Slst0 k1P
 have k2P:=ndq s1 (k1P.put _)
 have k2X:=ndq s1 (k1X.other _ nPX.symm)
 have s2:=Spar0 k2X
 have k3P:=ndq s2 (k2P.other _ nPX)
 have k3X:=ndq s2 (k2X.put _)
 have s3:=Sprv0 k3X
 have k4P:=ndq s3 (k3P.other _ nPX)
 have k4X:=ndq s3 (k3X.put _)
 have s4:=Snxt0 k4X
 have k5P:=ndq s4 (k4P.other _ nPX)
 have k5X:=ndq s4 (k4X.put _)
 have c0Xpar:=Cpar k0X h0
 have c0Xprv:=Cprv0 k0X h3
 have c0Xnxt:=Cnxt0 k0X h4
 have c0Pfst:=Cfst k0P h1
 have c0Plst:=Clst k0P h2
 have q9:=neq_same w P
 have q0:=eql_same w X
 have q1:=eql_same (w.setCell ⟨P,1,none⟩ (.pointer none)) X
 have fin:(((((w.setCell ⟨P,1,none⟩ (.pointer none)).setCell ⟨P,2,none⟩ (.pointer none)).setCell ⟨X,0,none⟩ (.pointer none)).setCell ⟨X,3,none⟩ (.pointer none)).setCell ⟨X,4,none⟩ (.pointer none))=World.putN (World.putN w P {rp with fst:=none,lst:=none}) X {rx with par:=none,prv:=none,nxt:=none}:=by
  rw [s4,s3,s2,s1,s0]
  simp only [World.putN_putN]
  try rfl
 have FIN:=Lib.hid fin
 clear fin hp hx k0P k0X k1P k1X k2P k2X k3P k3X k4P k4X k5P k5X s0 s1 s2 s3 s4 h0 h3 h4 h2 h1
 go_enter Tryz.func87,Tryz.ntmps87
 go_wp2
 go_end0
 exact⟨rfl,_,rfl,FIN.out.symm⟩
set_option maxRecDepth 100000 in
set_option maxHeartbeats 1000000 in
theorem removeChild_ns(P X R:Nat)(rp rx rr:NRec)(w:World)(hp:World.nodeAt w P rp)(hx:World.nodeAt w X rx)(hr:World.nodeAt w R rr)(nPX:P≠X)(nPR:P≠R)(nXR:X≠R)(h1:rp.fst=some X)(l:Nat)(al:Alive w l)(nl:l≠X)(h2:rp.lst=some l)(h0:rx.par=some P)(h3:rx.prv=none)(h4:rx.nxt=some R):
  Calls Tryz.prog 87 #[.pointer (some ⟨P,0,none⟩),.pointer (some ⟨X,0,none⟩)] w fun e w'=>e=.returned (.tuple #[])∧
   ∃w1,World.putN w P {rp with fst:=some R}=w1∧∃w2,(World.putN w1 R {rr with prv:=none}).drew=w2∧World.putN w2 X {rx with par:=none,prv:=none,nxt:=none}=w':=by
 have k0P:=hp
 have fP:=hp.free
 have k0X:=hx
 have fX:=hx.free
 have k0R:=hr
 have fR:=hr.free
 have s0:=Sfst R k0P
 have k1P:=ndq s0 (k0P.put _)
 have k1X:=ndq s0 (k0X.other _ nPX.symm)
 have k1R:=ndq s0 (k0R.other _ nPR.symm)
 have s1:=congrArg World.drew (Sprv0 k1R)
 have k2P:=ndd s1 (k1P.other _ nPR)
 have k2X:=ndd s1 (k1X.other _ nXR)
 have k2R:=ndd s1 (k1R.put _)
 have s2:=Spar0 k2X
 have k3P:=ndq s2 (k2P.other _ nPX)
 have k3X:=ndq s2 (k2X.put _)
 have k3R:=ndq s2 (k2R.other _ nXR.symm)
 have s3:=Sprv0 k3X
 have k4P:=ndq s3 (k3P.other _ nPX)
 have k4X:=ndq s3 (k3X.put _)
 have k4R:=ndq s3 (k3R.other _ nXR.symm)
 have s4:=Snxt0 k4X
 have k5P:=ndq s4 (k4P.other _ nPX)
 have k5X:=ndq s4 (k4X.put _)
 have k5R:=ndq s4 (k4R.other _ nXR.symm)
 have c0Xpar:=Cpar k0X h0
 have c0Xprv:=Cprv0 k0X h3
 have c0Xnxt:=Cnxt k0X h4
 have c0Pfst:=Cfst k0P h1
 have c0Plst:=Clst k0P h2
 obtain⟨z0Rprv,c0Rprv⟩:=cex k0R.prv
 have c1Xpar:=Cpar k1X h0
 have c1Xprv:=Cprv0 k1X h3
 have c1Xnxt:=Cnxt k1X h4
 have c1Pfst:=Cfst k1P rfl
 have c1Plst:=Clst k1P h2
 obtain⟨z1Rprv,c1Rprv⟩:=cex k1R.prv
 have f1P:=k1P.free
 have f1X:=k1X.free
 have f1R:=k1R.free
 have q9:=neq_same w P
 have q0:=eql_same w X
 have q1:=eql_other (ald s1 k1R (alq s0 k0P al)) k2X.alive nl
 have fin:(((((w.setCell ⟨P,1,none⟩ (.pointer (some ⟨R,0,none⟩))).setCell ⟨R,3,none⟩ (.pointer none)).drew.setCell ⟨X,0,none⟩ (.pointer none)).setCell ⟨X,3,none⟩ (.pointer none)).setCell ⟨X,4,none⟩ (.pointer none))=World.putN (World.putN (World.putN w P {rp with fst:=some R}) R {rr with prv:=none}).drew X {rx with par:=none,prv:=none,nxt:=none}:=by
  rw [s4,s3,s2,s1,s0]
  simp only [World.putN_putN]
  try rfl
 have FIN:=Lib.hid fin
 clear fin hp hx hr k0P k0X k0R k1P k1X k1R k2P k2X k2R k3P k3X k3R k4P k4X k4R k5P k5X k5R s0 s1 s2 s3 s4 h0 h3 h4 h2 h1 al
 go_enter Tryz.func87,Tryz.ntmps87
 go_wp2
 generalize hwz1:(w.setCell ⟨P,1,none⟩ (.pointer (some ⟨R,0,none⟩)))=wz1 at *
 go_still_tail 10,(by kernel_rfl)
 go_wp2
 go_end0
 exact⟨rfl,_,rfl,_,rfl,FIN.out.symm⟩
set_option maxRecDepth 100000 in
set_option maxHeartbeats 1000000 in
theorem removeChild_sn(P X Q:Nat)(rp rx rq:NRec)(w:World)(hp:World.nodeAt w P rp)(hx:World.nodeAt w X rx)(hq:World.nodeAt w Q rq)(nPX:P≠X)(nPQ:P≠Q)(nXQ:X≠Q)(f:Nat)(af:Alive w f)(nf:f≠X)(h1:rp.fst=some f)(h2:rp.lst=some X)(h0:rx.par=some P)(h3:rx.prv=some Q)(h4:rx.nxt=none):
  Calls Tryz.prog 87 #[.pointer (some ⟨P,0,none⟩),.pointer (some ⟨X,0,none⟩)] w fun e w'=>e=.returned (.tuple #[])∧
   ∃w1,World.putN w P {rp with lst:=some Q}=w1∧∃w2,(World.putN w1 Q {rq with nxt:=none}).drew=w2∧World.putN w2 X {rx with par:=none,prv:=none,nxt:=none}=w':=by
 have k0P:=hp
 have fP:=hp.free
 have k0X:=hx
 have fX:=hx.free
 have k0Q:=hq
 have fQ:=hq.free
 have s0:=Slst Q k0P
 have k1P:=ndq s0 (k0P.put _)
 have k1X:=ndq s0 (k0X.other _ nPX.symm)
 have k1Q:=ndq s0 (k0Q.other _ nPQ.symm)
 have s1:=congrArg World.drew (Snxt0 k1Q)
 have k2P:=ndd s1 (k1P.other _ nPQ)
 have k2X:=ndd s1 (k1X.other _ nXQ)
 have k2Q:=ndd s1 (k1Q.put _)
 have s2:=Spar0 k2X
 have k3P:=ndq s2 (k2P.other _ nPX)
 have k3X:=ndq s2 (k2X.put _)
 have k3Q:=ndq s2 (k2Q.other _ nXQ.symm)
 have s3:=Sprv0 k3X
 have k4P:=ndq s3 (k3P.other _ nPX)
 have k4X:=ndq s3 (k3X.put _)
 have k4Q:=ndq s3 (k3Q.other _ nXQ.symm)
 have s4:=Snxt0 k4X
 have k5P:=ndq s4 (k4P.other _ nPX)
 have k5X:=ndq s4 (k4X.put _)
 have k5Q:=ndq s4 (k4Q.other _ nXQ.symm)
 have c0Xpar:=Cpar k0X h0
 have c0Xprv:=Cprv k0X h3
 have c0Xnxt:=Cnxt0 k0X h4
 have c0Pfst:=Cfst k0P h1
 have c0Plst:=Clst k0P h2
 obtain⟨z0Qnxt,c0Qnxt⟩:=cex k0Q.nxt
 have c1Xpar:=Cpar k1X h0
 have c1Xprv:=Cprv k1X h3
 have c1Xnxt:=Cnxt0 k1X h4
 have c1Pfst:=Cfst k1P h1
 have c1Plst:=Clst k1P rfl
 obtain⟨z1Qnxt,c1Qnxt⟩:=cex k1Q.nxt
 have f1P:=k1P.free
 have f1X:=k1X.free
 have f1Q:=k1Q.free
 have q9:=neq_same w P
 have q0:=eql_other af k0X.alive nf
 have q1:=eql_same w X
 have fin:(((((w.setCell ⟨P,2,none⟩ (.pointer (some ⟨Q,0,none⟩))).setCell ⟨Q,4,none⟩ (.pointer none)).drew.setCell ⟨X,0,none⟩ (.pointer none)).setCell ⟨X,3,none⟩ (.pointer none)).setCell ⟨X,4,none⟩ (.pointer none))=World.putN (World.putN (World.putN w P {rp with lst:=some Q}) Q {rq with nxt:=none}).drew X {rx with par:=none,prv:=none,nxt:=none}:=by
  rw [s4,s3,s2,s1,s0]
  simp only [World.putN_putN]
  try rfl
 have FIN:=Lib.hid fin
 clear fin hp hx hq k0P k0X k0Q k1P k1X k1Q k2P k2X k2Q k3P k3X k3Q k4P k4X k4Q k5P k5X k5Q s0 s1 s2 s3 s4 h0 h3 h4 h2 h1 af
 go_enter Tryz.func87,Tryz.ntmps87
 go_wp2
 generalize hwz1:(w.setCell ⟨P,2,none⟩ (.pointer (some ⟨Q,0,none⟩)))=wz1 at *
 go_still_tail 10,(by kernel_rfl)
 go_wp2
 go_end0
 exact⟨rfl,_,rfl,_,rfl,FIN.out.symm⟩
set_option maxRecDepth 100000 in
set_option maxHeartbeats 1000000 in
theorem removeChild_ss(P X Q R:Nat)(rp rx rq rr:NRec)(w:World)(hp:World.nodeAt w P rp)(hx:World.nodeAt w X rx)(hq:World.nodeAt w Q rq)(hr:World.nodeAt w R rr)(nPX:P≠X)(nPQ:P≠Q)(nPR:P≠R)(nXQ:X≠Q)(nXR:X≠R)(nQR:Q≠R)(f:Nat)(af:Alive w f)(nf:f≠X)(h1:rp.fst=some f)(l:Nat)(al:Alive w l)(nl:l≠X)(h2:rp.lst=some l)(h0:rx.par=some P)(h3:rx.prv=some Q)(h4:rx.nxt=some R):
  Calls Tryz.prog 87 #[.pointer (some ⟨P,0,none⟩),.pointer (some ⟨X,0,none⟩)] w fun e w'=>e=.returned (.tuple #[])∧
   ∃w1,(World.putN w R {rr with prv:=some Q}).drew=w1∧∃w2,(World.putN w1 Q {rq with nxt:=some R}).drew=w2∧World.putN w2 X {rx with par:=none,prv:=none,nxt:=none}=w':=by
 have k0P:=hp
 have fP:=hp.free
 have k0X:=hx
 have fX:=hx.free
 have k0Q:=hq
 have fQ:=hq.free
 have k0R:=hr
 have fR:=hr.free
 have s0:=congrArg World.drew (Sprv Q k0R)
 have k1P:=ndd s0 (k0P.other _ nPR)
 have k1X:=ndd s0 (k0X.other _ nXR)
 have k1Q:=ndd s0 (k0Q.other _ nQR)
 have k1R:=ndd s0 (k0R.put _)
 have s1:=congrArg World.drew (Snxt R k1Q)
 have k2P:=ndd s1 (k1P.other _ nPQ)
 have k2X:=ndd s1 (k1X.other _ nXQ)
 have k2Q:=ndd s1 (k1Q.put _)
 have k2R:=ndd s1 (k1R.other _ nQR.symm)
 have s2:=Spar0 k2X
 have k3P:=ndq s2 (k2P.other _ nPX)
 have k3X:=ndq s2 (k2X.put _)
 have k3Q:=ndq s2 (k2Q.other _ nXQ.symm)
 have k3R:=ndq s2 (k2R.other _ nXR.symm)
 have s3:=Sprv0 k3X
 have k4P:=ndq s3 (k3P.other _ nPX)
 have k4X:=ndq s3 (k3X.put _)
 have k4Q:=ndq s3 (k3Q.other _ nXQ.symm)
 have k4R:=ndq s3 (k3R.other _ nXR.symm)
 have s4:=Snxt0 k4X
 have k5P:=ndq s4 (k4P.other _ nPX)
 have k5X:=ndq s4 (k4X.put _)
 have k5Q:=ndq s4 (k4Q.other _ nXQ.symm)
 have k5R:=ndq s4 (k4R.other _ nXR.symm)
 have c0Xpar:=Cpar k0X h0
 have c0Xprv:=Cprv k0X h3
 have c0Xnxt:=Cnxt k0X h4
 have c0Pfst:=Cfst k0P h1
 have c0Plst:=Clst k0P h2
 obtain⟨z0Rprv,c0Rprv⟩:=cex k0R.prv
 obtain⟨z0Qnxt,c0Qnxt⟩:=cex k0Q.nxt
 have c1Xpar:=Cpar k1X h0
 have c1Xprv:=Cprv k1X h3
 have c1Xnxt:=Cnxt k1X h4
 have c1Pfst:=Cfst k1P h1
 have c1Plst:=Clst k1P h2
 have c1Rprv:=Cprv k1R rfl
 obtain⟨z1Qnxt,c1Qnxt⟩:=cex k1Q.nxt
 have f1P:=k1P.free
 have f1X:=k1X.free
 have f1Q:=k1Q.free
 have f1R:=k1R.free
 have q9:=neq_same w P
 have q0:=eql_other af k0X.alive nf
 have q1:=eql_other (ald s0 k0R al) k1X.alive nl
 have fin:(((((w.setCell ⟨R,3,none⟩ (.pointer (some ⟨Q,0,none⟩))).drew.setCell ⟨Q,4,none⟩ (.pointer (some ⟨R,0,none⟩))).drew.setCell ⟨X,0,none⟩ (.pointer none)).setCell ⟨X,3,none⟩ (.pointer none)).setCell ⟨X,4,none⟩ (.pointer none))=World.putN (World.putN (World.putN w R {rr with prv:=some Q}).drew Q {rq with nxt:=some R}).drew X {rx with par:=none,prv:=none,nxt:=none}:=by
  rw [s4,s3,s2,s1,s0]
  simp only [World.putN_putN]
  try rfl
 have FIN:=Lib.hid fin
 clear fin hp hx hq hr k0P k0X k0Q k0R k1P k1X k1Q k1R k2P k2X k2Q k2R k3P k3X k3Q k3R k4P k4X k4Q k4R k5P k5X k5Q k5R s0 s1 s2 s3 s4 h0 h3 h4 h2 h1 af al
 go_enter Tryz.func87,Tryz.ntmps87
 go_wp2
 go_still_tail 10,(by kernel_rfl)
 go_wp2
 generalize hwz1:(w.setCell ⟨R,3,none⟩ (.pointer (some ⟨Q,0,none⟩))).drew=wz1 at *
 go_still_tail 10,(by kernel_rfl)
 go_wp2
 go_end0
 exact⟨rfl,_,rfl,_,rfl,FIN.out.symm⟩
set_option maxRecDepth 100000 in
set_option maxHeartbeats 1000000 in
theorem insertBefore_nn(P X:Nat)(rp rx:NRec)(w:World)(hp:World.nodeAt w P rp)(hx:World.nodeAt w X rx)(nPX:P≠X)(h0:rx.par=none)(h3:rx.prv=none)(h4:rx.nxt=none)(h2:rp.lst=none):
  Calls Tryz.prog 84 #[.pointer (some ⟨P,0,none⟩),.pointer (some ⟨X,0,none⟩),.pointer none] w fun e w'=>e=.returned (.tuple #[])∧
   ∃w1,World.putN w P {rp with fst:=some X,lst:=some X}=w1∧World.putN w1 X {rx with par:=some P,prv:=none,nxt:=none}=w':=by
 have k0P:=hp
 have fP:=hp.free
 have k0X:=hx
 have fX:=hx.free
 have s0:=Sfst X k0P
 have k1P:=ndq s0 (k0P.put _)
 have k1X:=ndq s0 (k0X.other _ nPX.symm)
 have s1:=Slst X k1P
 have k2P:=ndq s1 (k1P.put _)
 have k2X:=ndq s1 (k1X.other _ nPX.symm)
 have s2:=Spar P k2X
 have k3P:=ndq s2 (k2P.other _ nPX)
 have k3X:=ndq s2 (k2X.put _)
 have s3:=Sprv0 k3X
 have k4P:=ndq s3 (k3P.other _ nPX)
 have k4X:=ndq s3 (k3X.put _)
 have s4:=Snxt0 k4X
 have k5P:=ndq s4 (k4P.other _ nPX)
 have k5X:=ndq s4 (k4X.put _)
 have c0Xpar:=Cpar0 k0X h0
 have c0Xprv:=Cprv0 k0X h3
 have c0Xnxt:=Cnxt0 k0X h4
 obtain⟨z0Pfst,c0Pfst⟩:=cex k0P.fst
 have c0Plst:=Clst0 k0P h2
 have fin:(((((w.setCell ⟨P,1,none⟩ (.pointer (some ⟨X,0,none⟩))).setCell ⟨P,2,none⟩ (.pointer (some ⟨X,0,none⟩))).setCell ⟨X,0,none⟩ (.pointer (some ⟨P,0,none⟩))).setCell ⟨X,3,none⟩ (.pointer none)).setCell ⟨X,4,none⟩ (.pointer none))=World.putN (World.putN w P {rp with fst:=some X,lst:=some X}) X {rx with par:=some P,prv:=none,nxt:=none}:=by
  rw [s4,s3,s2,s1,s0]
  simp only [World.putN_putN]
  try rfl
 have FIN:=Lib.hid fin
 clear fin hp hx k0P k0X k1P k1X k2P k2X k3P k3X k4P k4X k5P k5X s0 s1 s2 s3 s4 h0 h3 h4 h2
 go_enter Tryz.func84,Tryz.ntmps84
 go_wp2
 go_end0
 exact⟨rfl,_,rfl,FIN.out.symm⟩
set_option maxRecDepth 100000 in
set_option maxHeartbeats 1000000 in
theorem insertBefore_ns(P X R:Nat)(rp rx rr:NRec)(w:World)(hp:World.nodeAt w P rp)(hx:World.nodeAt w X rx)(hr:World.nodeAt w R rr)(nPX:P≠X)(nPR:P≠R)(nXR:X≠R)(h0:rx.par=none)(h3:rx.prv=none)(h4:rx.nxt=none)(h2:rr.prv=none):
  Calls Tryz.prog 84 #[.pointer (some ⟨P,0,none⟩),.pointer (some ⟨X,0,none⟩),.pointer (some ⟨R,0,none⟩)] w fun e w'=>e=.returned (.tuple #[])∧
   ∃w1,World.putN w P {rp with fst:=some X}=w1∧∃w2,World.putN w1 R {rr with prv:=some X}=w2∧World.putN w2 X {rx with par:=some P,prv:=none,nxt:=some R}=w':=by
 have k0P:=hp
 have fP:=hp.free
 have k0X:=hx
 have fX:=hx.free
 have k0R:=hr
 have fR:=hr.free
 have s0:=Sfst X k0P
 have k1P:=ndq s0 (k0P.put _)
 have k1X:=ndq s0 (k0X.other _ nPX.symm)
 have k1R:=ndq s0 (k0R.other _ nPR.symm)
 have s1:=Sprv X k1R
 have k2P:=ndq s1 (k1P.other _ nPR)
 have k2X:=ndq s1 (k1X.other _ nXR)
 have k2R:=ndq s1 (k1R.put _)
 have s2:=Spar P k2X
 have k3P:=ndq s2 (k2P.other _ nPX)
 have k3X:=ndq s2 (k2X.put _)
 have k3R:=ndq s2 (k2R.other _ nXR.symm)
 have s3:=Sprv0 k3X
 have k4P:=ndq s3 (k3P.other _ nPX)
 have k4X:=ndq s3 (k3X.put _)
 have k4R:=ndq s3 (k3R.other _ nXR.symm)
 have s4:=Snxt R k4X
 have k5P:=ndq s4 (k4P.other _ nPX)
 have k5X:=ndq s4 (k4X.put _)
 have k5R:=ndq s4 (k4R.other _ nXR.symm)
 have c0Xpar:=Cpar0 k0X h0
 have c0Xprv:=Cprv0 k0X h3
 have c0Xnxt:=Cnxt0 k0X h4
 obtain⟨z0Pfst,c0Pfst⟩:=cex k0P.fst
 obtain⟨z0Plst,c0Plst⟩:=cex k0P.lst
 have c0Rprv:=Cprv0 k0R h2
 have fin:(((((w.setCell ⟨P,1,none⟩ (.pointer (some ⟨X,0,none⟩))).setCell ⟨R,3,none⟩ (.pointer (some ⟨X,0,none⟩))).setCell ⟨X,0,none⟩ (.pointer (some ⟨P,0,none⟩))).setCell ⟨X,3,none⟩ (.pointer none)).setCell ⟨X,4,none⟩ (.pointer (some ⟨R,0,none⟩)))=World.putN (World.putN (World.putN w P {rp with fst:=some X}) R {rr with prv:=some X}) X {rx with par:=some P,prv:=none,nxt:=some R}:=by
  rw [s4,s3,s2,s1,s0]
  simp only [World.putN_putN]
  try rfl
 have FIN:=Lib.hid fin
 clear fin hp hx hr k0P k0X k0R k1P k1X k1R k2P k2X k2R k3P k3X k3R k4P k4X k4R k5P k5X k5R s0 s1 s2 s3 s4 h0 h3 h4 h2
 go_enter Tryz.func84,Tryz.ntmps84
 go_wp2
 go_end0
 exact⟨rfl,_,rfl,_,rfl,FIN.out.symm⟩
set_option maxRecDepth 100000 in
set_option maxHeartbeats 1000000 in
theorem insertBefore_sn(P X Q:Nat)(rp rx rq:NRec)(w:World)(hp:World.nodeAt w P rp)(hx:World.nodeAt w X rx)(hq:World.nodeAt w Q rq)(nPX:P≠X)(nPQ:P≠Q)(nXQ:X≠Q)(h0:rx.par=none)(h3:rx.prv=none)(h4:rx.nxt=none)(h2:rp.lst=some Q):
  Calls Tryz.prog 84 #[.pointer (some ⟨P,0,none⟩),.pointer (some ⟨X,0,none⟩),.pointer none] w fun e w'=>e=.returned (.tuple #[])∧
   ∃w1,World.putN w Q {rq with nxt:=some X}=w1∧∃w2,World.putN w1 P {rp with lst:=some X}=w2∧World.putN w2 X {rx with par:=some P,prv:=some Q,nxt:=none}=w':=by
 have k0P:=hp
 have fP:=hp.free
 have k0X:=hx
 have fX:=hx.free
 have k0Q:=hq
 have fQ:=hq.free
 have s0:=Snxt X k0Q
 have k1P:=ndq s0 (k0P.other _ nPQ)
 have k1X:=ndq s0 (k0X.other _ nXQ)
 have k1Q:=ndq s0 (k0Q.put _)
 have s1:=Slst X k1P
 have k2P:=ndq s1 (k1P.put _)
 have k2X:=ndq s1 (k1X.other _ nPX.symm)
 have k2Q:=ndq s1 (k1Q.other _ nPQ.symm)
 have s2:=Spar P k2X
 have k3P:=ndq s2 (k2P.other _ nPX)
 have k3X:=ndq s2 (k2X.put _)
 have k3Q:=ndq s2 (k2Q.other _ nXQ.symm)
 have s3:=Sprv Q k3X
 have k4P:=ndq s3 (k3P.other _ nPX)
 have k4X:=ndq s3 (k3X.put _)
 have k4Q:=ndq s3 (k3Q.other _ nXQ.symm)
 have s4:=Snxt0 k4X
 have k5P:=ndq s4 (k4P.other _ nPX)
 have k5X:=ndq s4 (k4X.put _)
 have k5Q:=ndq s4 (k4Q.other _ nXQ.symm)
 have c0Xpar:=Cpar0 k0X h0
 have c0Xprv:=Cprv0 k0X h3
 have c0Xnxt:=Cnxt0 k0X h4
 obtain⟨z0Pfst,c0Pfst⟩:=cex k0P.fst
 have c0Plst:=Clst k0P h2
 obtain⟨z0Qnxt,c0Qnxt⟩:=cex k0Q.nxt
 have fin:(((((w.setCell ⟨Q,4,none⟩ (.pointer (some ⟨X,0,none⟩))).setCell ⟨P,2,none⟩ (.pointer (some ⟨X,0,none⟩))).setCell ⟨X,0,none⟩ (.pointer (some ⟨P,0,none⟩))).setCell ⟨X,3,none⟩ (.pointer (some ⟨Q,0,none⟩))).setCell ⟨X,4,none⟩ (.pointer none))=World.putN (World.putN (World.putN w Q {rq with nxt:=some X}) P {rp with lst:=some X}) X {rx with par:=some P,prv:=some Q,nxt:=none}:=by
  rw [s4,s3,s2,s1,s0]
  simp only [World.putN_putN]
  try rfl
 have FIN:=Lib.hid fin
 clear fin hp hx hq k0P k0X k0Q k1P k1X k1Q k2P k2X k2Q k3P k3X k3Q k4P k4X k4Q k5P k5X k5Q s0 s1 s2 s3 s4 h0 h3 h4 h2
 go_enter Tryz.func84,Tryz.ntmps84
 go_wp2
 go_end0
 exact⟨rfl,_,rfl,_,rfl,FIN.out.symm⟩
set_option maxRecDepth 100000 in
set_option maxHeartbeats 1000000 in
theorem insertBefore_ss(P X Q R:Nat)(rp rx rq rr:NRec)(w:World)(hp:World.nodeAt w P rp)(hx:World.nodeAt w X rx)(hq:World.nodeAt w Q rq)(hr:World.nodeAt w R rr)(nPX:P≠X)(nPQ:P≠Q)(nPR:P≠R)(nXQ:X≠Q)(nXR:X≠R)(nQR:Q≠R)(h0:rx.par=none)(h3:rx.prv=none)(h4:rx.nxt=none)(h2:rr.prv=some Q):
  Calls Tryz.prog 84 #[.pointer (some ⟨P,0,none⟩),.pointer (some ⟨X,0,none⟩),.pointer (some ⟨R,0,none⟩)] w fun e w'=>e=.returned (.tuple #[])∧
   ∃w1,World.putN w Q {rq with nxt:=some X}=w1∧∃w2,World.putN w1 R {rr with prv:=some X}=w2∧World.putN w2 X {rx with par:=some P,prv:=some Q,nxt:=some R}=w':=by
 have k0P:=hp
 have fP:=hp.free
 have k0X:=hx
 have fX:=hx.free
 have k0Q:=hq
 have fQ:=hq.free
 have k0R:=hr
 have fR:=hr.free
 have s0:=Snxt X k0Q
 have k1P:=ndq s0 (k0P.other _ nPQ)
 have k1X:=ndq s0 (k0X.other _ nXQ)
 have k1Q:=ndq s0 (k0Q.put _)
 have k1R:=ndq s0 (k0R.other _ nQR.symm)
 have s1:=Sprv X k1R
 have k2P:=ndq s1 (k1P.other _ nPR)
 have k2X:=ndq s1 (k1X.other _ nXR)
 have k2Q:=ndq s1 (k1Q.other _ nQR)
 have k2R:=ndq s1 (k1R.put _)
 have s2:=Spar P k2X
 have k3P:=ndq s2 (k2P.other _ nPX)
 have k3X:=ndq s2 (k2X.put _)
 have k3Q:=ndq s2 (k2Q.other _ nXQ.symm)
 have k3R:=ndq s2 (k2R.other _ nXR.symm)
 have s3:=Sprv Q k3X
 have k4P:=ndq s3 (k3P.other _ nPX)
 have k4X:=ndq s3 (k3X.put _)
 have k4Q:=ndq s3 (k3Q.other _ nXQ.symm)
 have k4R:=ndq s3 (k3R.other _ nXR.symm)
 have s4:=Snxt R k4X
 have k5P:=ndq s4 (k4P.other _ nPX)
 have k5X:=ndq s4 (k4X.put _)
 have k5Q:=ndq s4 (k4Q.other _ nXQ.symm)
 have k5R:=ndq s4 (k4R.other _ nXR.symm)
 have c0Xpar:=Cpar0 k0X h0
 have c0Xprv:=Cprv0 k0X h3
 have c0Xnxt:=Cnxt0 k0X h4
 obtain⟨z0Pfst,c0Pfst⟩:=cex k0P.fst
 obtain⟨z0Plst,c0Plst⟩:=cex k0P.lst
 have c0Rprv:=Cprv k0R h2
 obtain⟨z0Qnxt,c0Qnxt⟩:=cex k0Q.nxt
 have fin:(((((w.setCell ⟨Q,4,none⟩ (.pointer (some ⟨X,0,none⟩))).setCell ⟨R,3,none⟩ (.pointer (some ⟨X,0,none⟩))).setCell ⟨X,0,none⟩ (.pointer (some ⟨P,0,none⟩))).setCell ⟨X,3,none⟩ (.pointer (some ⟨Q,0,none⟩))).setCell ⟨X,4,none⟩ (.pointer (some ⟨R,0,none⟩)))=World.putN (World.putN (World.putN w Q {rq with nxt:=some X}) R {rr with prv:=some X}) X {rx with par:=some P,prv:=some Q,nxt:=some R}:=by
  rw [s4,s3,s2,s1,s0]
  simp only [World.putN_putN]
  try rfl
 have FIN:=Lib.hid fin
 clear fin hp hx hq hr k0P k0X k0Q k0R k1P k1X k1Q k1R k2P k2X k2Q k2R k3P k3X k3Q k3R k4P k4X k4Q k4R k5P k5X k5Q k5R s0 s1 s2 s3 s4 h0 h3 h4 h2
 go_enter Tryz.func84,Tryz.ntmps84
 go_wp2
 go_end0
 exact⟨rfl,_,rfl,_,rfl,FIN.out.symm⟩
end Go.Proofs.YtkdomegcacgpnaaGreat
