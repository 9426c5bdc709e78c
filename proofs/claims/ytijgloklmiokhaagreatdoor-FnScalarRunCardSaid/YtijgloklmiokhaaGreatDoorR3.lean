/-
Part 3 of 6 of the proof; what is proved stands in the last part.
-/
import Derived.Test.YtijgloklmiokhaaGreatDoorR2
set_option linter.unusedSimpArgs false
set_option linter.unusedVariables false
namespace Go.Proofs.YtijgloklmiokhaaGreatDoor
open Go.RowKit
section
set_option maxRecDepth 8000
def sg (b:Bool):Int:=if b then -1 else 1
theorem IR.v_sg (r:IR):r.v=sg r.s*nv r.X r.n:=by
 unfold IR.v sg;cases r.s <;> simp
theorem sg_mul (a b:Bool):sg (a !=b)=sg a*sg b:=by cases a <;> cases b <;> rfl
section
variable {w w' w1:World} {z r:Nat} {rz rr:IR}
def ZT2 (z:Nat) (q:Option Addr) (r:Nat) (q':Option Addr):Nat->Nat->Prop:=fun k j=>ZT z q k j\/ZT r q' k j
theorem Ib.abs2 {q' p':Option Addr} {n' c' m' d':Nat} {X' Y':Nat->Int} (hz:Ib w z rz) (hr:Ib w r rr) (hne:z≠r) (hF:Fr (T2 rz.q rr.q) w w1) (h1:Sl w1 q' n' c' X') (h2:Nm X' n') (g1:Sl w1 p' m' d' Y') (g2:Nm Y' m'):
 w1.cell? ⟨z,1,none⟩=some (.slice rz.q rz.n rz.c)/\w1.frozen? ⟨z,1,none⟩=false/\(w1.setCell ⟨z,1,none⟩ (.slice q' n' c')).cell? ⟨r,1,none⟩=some (.slice rr.q rr.n rr.c)/\(w1.setCell ⟨z,1,none⟩ (.slice q' n' c')).frozen? ⟨r,1,none⟩=false/\
 Ib ((w1.setCell ⟨z,1,none⟩ (.slice q' n' c')).setCell ⟨r,1,none⟩ (.slice p' m' d')) z ⟨rz.s,q',n',c',X'⟩/\Ib ((w1.setCell ⟨z,1,none⟩ (.slice q' n' c')).setCell ⟨r,1,none⟩ (.slice p' m' d')) r ⟨rr.s,p',m',d',Y'⟩/\
 Fr (ZT2 z rz.q r rr.q) w ((w1.setCell ⟨z,1,none⟩ (.slice q' n' c')).setCell ⟨r,1,none⟩ (.slice p' m' d')):=by
 have hbz:w1.heap[z]?=some (.cells #[.bool rz.s,.slice rz.q rz.n rz.c] 82 (0,0)):=(hF.block z hz.lt (fun o h=>by rcases h with h | h;exact hz.sl.neI hz o h;exact hr.sl.neI hz o h)).trans hz.blk
 have hbr:w1.heap[r]?=some (.cells #[.bool rr.s,.slice rr.q rr.n rr.c] 82 (0,0)):=(hF.block r hr.lt (fun o h=>by rcases h with h | h;exact hz.sl.neI hr o h;exact hr.sl.neI hr o h)).trans hr.blk
 have nI:∀{q:Option Addr} {n c:Nat} {X:Nat->Int} {k:Nat} {s:Bool} {v:Value},Sl w1 q n c X->w1.heap[k]?=some (.cells #[.bool s,v] 82 (0,0))->∀j,¬TQ q k j:=by
  intro q n c X k s v h hb j ht
  rcases h with ⟨h0,_⟩ | ⟨b,h0,_,hc,hW⟩
  ·rw [h0] at ht;exact Q9 ht
  rw [h0,Qt] at ht
  subst ht
  have:=hW.cell (j:=0) hc
  simp [World.cell?,hb] at this
 have hbr2:(w1.setCell ⟨z,1,none⟩ (.slice q' n' c')).heap[r]?=some (.cells #[.bool rr.s,.slice rr.q rr.n rr.c] 82 (0,0)):=by rw [Below.heap_setCell _ _ _ _ (fun e=>hne (Eq.symm e))];exact hbr
 refine ⟨by simp [World.cell?,hbz],by simp [World.frozen?,hbz],by simp [World.cell?,hbr2],by simp [World.frozen?,hbr2],⟨?_,(h1.other (nI h1 hbz) _).other (nI h1 hbr) _,h2⟩,⟨?_,(g1.other (nI g1 hbz) _).other (nI g1 hbr) _,g2⟩,?_⟩
 ·rw [Below.heap_setCell _ _ _ _ (fun e=>hne e),Js hbz];rfl
 ·rw [Js hbr2];rfl
 exact ((hF.mono fun k o _ h=>by
  rcases h with h | h
  ·exact .inl (.inr h)
  exact .inr (.inr h)).setCell (fun _=>.inl (.inl rfl)) _).setCell (fun _=>.inr (.inl rfl)) _
theorem Ih.upd2 {B m i j:Nat} {pp:Nat->Nat} {F:Nat->IR} {a b:IR} (h:Ih B m w pp F) (hi:i < m) (hj:j < m) (hij:i≠j) (ha:Ib w' (pp i) a) (hb:Ib w' (pp j) b) (oa:Own w (F i).q a.q) (ob:Own w (F j).q b.q) (hd:Dj a.q b.q) (hF:Fr (ZT2 (pp i) (F i).q (pp j) (F j).q) w w'):
 Ih B m w' pp (ui (ui F i a) j b)/\Fr (Hi B) w w':=by
 have hB:B<=w.heap.size:=Nat.le_trans (h.lo i hi) (Nat.le_of_lt (h.ib i hi).lt)
 have hna:∀k,k < m->k≠i->Dj a.q (F k).q:=fun k hk hne=>(h.dj i hi k hk (Ne.symm hne)).own oa (h.ib k hk).sl
 have hnb:∀k,k < m->k≠j->Dj b.q (F k).q:=fun k hk hne=>(h.dj j hj k hk (Ne.symm hne)).own ob (h.ib k hk).sl
 have lo':∀{f:IR} {k:Nat},k < m->Own w (F k).q f.q->∀x o,TQ f.q x o->B<=x:=fun {f k} hk ho x o ht=>by
  rcases ho x o ht with h1 | h1
  ·exact h.lor k hk x o h1
  omega
 have val:∀k,k=j/\ui (ui F i a) j b k=b\/k≠j/\k=i/\ui (ui F i a) j b k=a\/k≠j/\k≠i/\ui (ui F i a) j b k=F k:=fun k=>by
  by_cases e:k=j
  ·subst e;exact .inl ⟨rfl,ui_eq _ _ _⟩
  by_cases e':k=i
  ·subst e';exact .inr (.inl ⟨e,rfl,by rw [Ka e,ui_eq]⟩)
  exact .inr (.inr ⟨e,e',by rw [Ka e,Ka e']⟩)
 refine ⟨⟨fun k hk=>?_,h.lo,fun k hk x o ht=>?_,h.ne,fun k hk l hl hne=>?_⟩,hF.mono fun k o hk ht=>?_⟩
 ·rcases val k with ⟨e,e2⟩ | ⟨_,e,e2⟩ | ⟨e,e',e2⟩
  ·rw [e2,e];exact hb
  ·rw [e2,e];exact ha
  rw [e2]
  refine (h.ib k hk).fr hF (fun o ht=>?_) (fun x o o' ht ht'=>?_)
  ·rcases ht with (ht | ht) | (ht | ht)
   ·exact h.ne k hk i hi e' ht
   ·exact (h.ib i hi).sl.neI (h.ib k hk) o ht
   ·exact h.ne k hk j hj e ht
   exact (h.ib j hj).sl.neI (h.ib k hk) o ht
  rcases ht' with (ht' | ht') | (ht' | ht')
  ·subst ht';exact (h.ib k hk).sl.neI (h.ib i hi) o ht
  ·exact h.dj k hk i hi e' x o o' ht ht'
  ·subst ht';exact (h.ib k hk).sl.neI (h.ib j hj) o ht
  exact h.dj k hk j hj e x o o' ht ht'
 ·rcases val k with ⟨e,e2⟩ | ⟨_,e,e2⟩ | ⟨e,e',e2⟩
  ·rw [e2] at ht;exact lo' hj ob x o ht
  ·rw [e2] at ht;exact lo' hi oa x o ht
  rw [e2] at ht;exact h.lor k hk x o ht
 ·rcases val k with ⟨e,e2⟩ | ⟨e0,e,e2⟩ | ⟨e,e',e2⟩ <;> rcases val l with ⟨f,f2⟩ | ⟨f0,f,f2⟩ | ⟨f,f',f2⟩ <;> rw [e2,f2]
  ·omega
  ·exact hd.symm
  ·exact hnb l hl f
  ·exact hd
  ·omega
  ·exact hna l hl f'
  ·exact (hnb k hk e).symm
  ·exact (hna k hk e').symm
  exact h.dj k hk l hl hne
 rcases ht with (ht | ht) | (ht | ht)
 ·subst ht;exact h.lo i hi
 ·exact h.lor i hi k o ht
 ·subst ht;exact h.lo j hj
 exact h.lor j hj k o ht
end
theorem intMulW (z x:Nat) (s:Bool) (y:Int) (rz rx:IR) (w:World) (hz:Ib w z rz) (hx:Ib w x rx) (hn:rx.n < 1000) (hy:U64 y):
 Calls Tryz.prog 106 #[pz z,pz x,.bool s,.int .u64 y] w fun e w'=>∃r,e=.returned (.tuple #[])/\Zr w w' z rz r/\r.v=sg s*rx.v*y/\r.n<=rx.n+1/\r.s=(rx.s !=s):=by
 refine Qd (vs:= [pz z,pz x,.bool s,.int .u64 y]) Tryz.func106 rfl rfl ?_
 intro a H
 replace H:Hd a 30 [] [(0,pz z),(1,pz x),(2,.bool s),(3,.int .u64 y)]:=H
 refine Sq ?_
 refine Ju [_,_,_,_,_,_,_,_,_,_,_,_,_,_] 10 [(.p,0),(.c,1),(.c,2),(.c,3),(.c,4),(.c,5),(.c,6),(.c,7),(.c,8),(.c,9),(.f,10),(.f,11),(.f,12),(.f,13)] Qb (fun _ _ _ _ _ h=>h) (by kernel_rfl) ?_
 intro w1 hw
 have hz:=hz.cd hw
 have hx:=hx.cd hw
 obtain ⟨wL,hwL⟩:∃wL,wL=w1:=⟨w1,rfl⟩
 rw [<-hwL]
 rw [<-hwL] at hz hx hw
 clear hwL w1
 refine mxp rfl H (fun _=>Ez.mv H rfl) rfl ?_;clear H a;intro a H
 refine mxc rfl H (Ez.mv H rfl) rfl ?_;clear H a;intro a H
 refine mxc rfl H (Ez.nc H rfl) rfl ?_;clear H a;intro a H
 refine mxc rfl H (Ez.fa82_1 H rfl) rfl ?_;clear H a;intro a H
 refine mxc rfl H (Ez.ld80 H rfl (hz.c1)) rfl ?_;clear H a;intro a H
 refine mxc rfl H (Ez.mv H rfl) rfl ?_;clear H a;intro a H
 refine mxc rfl H (Ez.nc H rfl) rfl ?_;clear H a;intro a H
 refine mxc rfl H (Ez.fa82_1 H rfl) rfl ?_;clear H a;intro a H
 refine mxc rfl H (Ez.ld80 H rfl (hx.c1)) rfl ?_;clear H a;intro a H
 refine mxc rfl H (Ez.mv H rfl) rfl ?_;clear H a;intro a H
 refine mxk rfl H cf121 (natMulAddWW rz.q rx.q rz.n rz.c rx.n rx.c rz.X rx.X y 0 wL hz.sl hx.sl (by omega) hy ⟨by decide,by decide⟩) rfl rfl ?_
 rintro _ w1 ⟨q',k,c',X',rfl,h1,h2,h3,h4,h5,h6⟩
 refine ⟨_,rfl,?_⟩;clear H a;intro a H
 have hA:=hz.abs h6 h1 h4
 have hc0:=hx.c0' hz h6 (.slice q' k c')
 refine mxf rfl H (Ez.nc H rfl) rfl ?_;clear H a;intro a H
 refine mxf rfl H (Ez.fa82_1 H rfl) rfl ?_;clear H a;intro a H
 refine mxs rfl H (Ez.st80 H rfl rfl rfl hA.1 hA.2.1) ?_;clear H;intro H
 replace H:Hd a 30 [] [(0,_),(1,_),(2,_)]:=H.pick [0,1,2]
 refine mxe ?_
 refine Rl [_,_,_,_,_,_,_,_,_,_] (wl H (Ez.mv H rfl) rfl (kM rfl rfl (kN rfl rfl (kL (fun a H=>Ez.fa82_0 H rfl) rfl (kL (fun a H=>Ez.ld4 H rfl (hc0)) rfl (kM rfl rfl (kL (fun a H=>Ez.neb H rfl rfl rfl) rfl (kN rfl rfl (kL (fun a H=>Ez.fa82_0 H rfl) rfl ?_)))))))));clear H a;intro a H
 refine wls H (Ez.st4 H rfl rfl rfl hA.2.2.1.c0 (hA.2.2.1.fz _)) ?_;clear H;intro H
 replace H:Hd a 30 [] []:=H.pick []
 refine Wn ?_
 refine rtn0 H rfl ?_
 have hN:=hA.2.2.1.neg (rx.s !=s) rz.q
 refine ⟨_,rfl,⟨hN.1,fun k j h=>(h5 k j h).imp id (fun h=>by rw [<-hw.heap];exact h),(hw.fr _).trans (hA.2.2.2.trans hN.2)⟩,?_,h2,rfl⟩
 rw [IR.v_sg,IR.v_sg]
 simp only
 rw [sg_mul,h3,Int.add_zero,Int.mul_comm (sg rx.s),Int.mul_assoc,Int.mul_assoc,Int.mul_assoc]
theorem intMul0 (z x y:Nat) (rz rx ry:IR) (w:World) (hz:Ib w z rz) (hx:Ib w x rx) (hy:Ib w y ry) (hne:x≠y) (hg:w.cell? ⟨4,0,none⟩=some (.int .i64 40)) (hnx:rx.n < 40) (hny:ry.n < 40):
 Calls Tryz.prog 122 #[pz z,.pointer none,pz x,pz y] w fun e w'=>∃r,e=.returned (.tuple #[])/\Zr w w' z rz r/\r.v=rx.v*ry.v/\r.n<=rx.n+ry.n+1:=by
 refine Qd (vs:= [pz z,.pointer none,pz x,pz y]) Tryz.func122 rfl rfl ?_
 intro a H
 replace H:Hd a 64 [] [(0,pz z),(1,.pointer none),(2,pz x),(3,pz y)]:=H
 refine Sq (Sq (Rl [_,_,_] (wl H (Ez.mv H rfl) rfl (kM rfl rfl (kL (fun a H=>Ez.eqI H rfl rfl hx.blk hy.blk (r:=false) (by simp [hne])) rfl (kP [(0,_),(1,_),(2,_),(3,_),(10,_)] rfl (kW ?_)))))));clear H a;intro a H
 refine Cf (H.o rfl) (Wk0 (thn (Sq ?_)))
 refine Ju [_,_,_,_,_,_,_,_,_,_,_,_,_,_,_,_,_,_] 14 [(.p,0),(.c,1),(.c,2),(.c,3),(.c,4),(.c,5),(.c,6),(.c,7),(.c,8),(.c,9),(.c,10),(.c,11),(.c,12),(.c,13),(.f,14),(.f,15),(.f,16),(.f,17)] Qb (fun _ _ _ _ _ h=>h) (by kernel_rfl) ?_
 intro w1 hw
 have hz:=hz.cd hw
 have hx:=hx.cd hw
 have hy:=hy.cd hw
 have hg:=hw.cell hg
 have hC:=hw
 obtain ⟨wL,hwL⟩:∃wL,wL=w1:=⟨w1,rfl⟩
 rw [<-hwL]
 rw [<-hwL] at hz hx hy hg hC
 clear hw hwL w1
 refine mxp rfl H (fun _=>Ez.mv H rfl) rfl ?_;clear H a;intro a H
 refine mxc rfl H (Ez.mv H rfl) rfl ?_;clear H a;intro a H
 refine mxc rfl H (Ez.nc H rfl) rfl ?_;clear H a;intro a H
 refine mxc rfl H (Ez.fa82_1 H rfl) rfl ?_;clear H a;intro a H
 refine mxc rfl H (Ez.ld80 H rfl (hz.c1)) rfl ?_;clear H a;intro a H
 refine mxc rfl H (Ez.mv H rfl) rfl ?_;clear H a;intro a H
 refine mxc rfl H (Ez.mv H rfl) rfl ?_;clear H a;intro a H
 refine mxc rfl H (Ez.nc H rfl) rfl ?_;clear H a;intro a H
 refine mxc rfl H (Ez.fa82_1 H rfl) rfl ?_;clear H a;intro a H
 refine mxc rfl H (Ez.ld80 H rfl (hx.c1)) rfl ?_;clear H a;intro a H
 refine mxc rfl H (Ez.mv H rfl) rfl ?_;clear H a;intro a H
 refine mxc rfl H (Ez.nc H rfl) rfl ?_;clear H a;intro a H
 refine mxc rfl H (Ez.fa82_1 H rfl) rfl ?_;clear H a;intro a H
 refine mxc rfl H (Ez.ld80 H rfl (hy.c1)) rfl ?_;clear H a;intro a H
 refine mxk rfl H cf140 (natMul rz.q rx.q ry.q rz.n rz.c rx.n rx.c ry.n ry.c rz.X rx.X ry.X wL hz.sl hx.sl hy.sl hg (by omega) (by omega)) rfl rfl ?_
 rintro _ w1 ⟨q',k,c',X',rfl,h1,h2,h3,h4,h5,h6⟩
 refine ⟨_,rfl,?_⟩;clear H a;intro a H
 have hA:=hz.abs h6 h1 h4
 have hcx:=hx.c0' hz h6 (.slice q' k c')
 have hcy:=hy.c0' hz h6 (.slice q' k c')
 refine mxf rfl H (Ez.nc H rfl) rfl ?_;clear H a;intro a H
 refine mxf rfl H (Ez.fa82_1 H rfl) rfl ?_;clear H a;intro a H
 refine mxs rfl H (Ez.st80 H rfl rfl rfl hA.1 hA.2.1) ?_;clear H;intro H
 replace H:Hd a 64 [] [(0,_),(2,_),(3,_)]:=H.pick [0,2,3]
 refine mxe ?_
 have hZ:Zr w _ z rz ⟨rz.s,q',k,c',X'⟩:=⟨hA.2.2.1,fun k j h=>(h5 k j h).imp id (fun h=>by rw [<-hC.heap];exact h),(hC.fr _).trans hA.2.2.2⟩
 generalize wS:w1.setCell ⟨z,1,none⟩ (.slice q' k c')=w2 at hZ hcx hcy
 clear hA
 rcases Nat.eq_zero_or_pos k with h0 | h0
 ·refine Ju [_,_,_,_,_,_,_,_,_,_,_,_,_,_,_,_,_,_,_,_,_] 20 [(.c,0),(.c,1),(.c,2),(.c,3),(.c,4),(.c,5),(.c,6),(.c,7),(.c,8),(.c,9),(.c,10),(.c,11),(.c,12),(.c,13),(.c,14),(.c,15),(.c,16),(.c,17),(.c,18),(.c,19),(.f,20)] Qb (fun _ _ _ _ _ h=>h) (by kernel_rfl) ?_
  intro w1 hw
  have hZi:=hZ.ib.cd hw
  have hcx:=hw.cell hcx
  have hcy:=hw.cell hcy
  refine mxc rfl H (Ez.mv H rfl) rfl ?_;clear H a;intro a H
  refine mxc rfl H (Ez.mv H rfl) rfl ?_;clear H a;intro a H
  refine mxc rfl H (Ez.nc H rfl) rfl ?_;clear H a;intro a H
  refine mxc rfl H (Ez.fa82_1 H rfl) rfl ?_;clear H a;intro a H
  refine mxc rfl H (Ez.ld80 H rfl (hZi.c1)) rfl ?_;clear H a;intro a H
  refine mxc rfl H (Ez.len80 H rfl) rfl ?_;clear H a;intro a H
  refine mxc rfl H (Ez.gtr (r:=false) H rfl rfl (by (simp;omega))) rfl ?_;clear H a;intro a H
  refine mxc rfl H (Ez.mv H rfl) rfl ?_;clear H a;intro a H
  refine mxcx rfl H rfl rfl rfl rfl rfl ?_;clear H a;intro a H
  refine mxcx rfl H rfl rfl rfl rfl rfl ?_;clear H a;intro a H
  refine mxcx rfl H rfl rfl rfl rfl rfl ?_;clear H a;intro a H
  refine mxcx rfl H rfl rfl rfl rfl rfl ?_;clear H a;intro a H
  refine mxcx rfl H rfl rfl rfl rfl rfl ?_;clear H a;intro a H
  refine mxcx rfl H rfl rfl rfl rfl rfl ?_;clear H a;intro a H
  refine mxcx rfl H rfl rfl rfl rfl rfl ?_;clear H a;intro a H
  refine mxcx rfl H rfl rfl rfl rfl rfl ?_;clear H a;intro a H
  refine mxcx rfl H rfl rfl rfl rfl rfl ?_;clear H a;intro a H
  refine mxc rfl H (Ez.pkF H rfl rfl) rfl ?_;clear H a;intro a H
  refine mxc rfl H (Ez.nc H rfl) rfl ?_;clear H a;intro a H
  refine mxc rfl H (Ez.fa82_0 H rfl) rfl ?_;clear H a;intro a H
  refine mxs rfl H (Ez.st4 H rfl rfl rfl hZi.c0 (hZi.fz _)) ?_;clear H;intro H
  replace H:Hd a 64 [] []:=H.pick []
  refine mxe' ?_
  refine rtn0 H rfl ?_
  have hN:=hZi.neg false rz.q
  refine ⟨_,rfl,hZ.trans ⟨hN.1,Own.refl _ _,(hw.fr _).trans (hZi.neg false q').2⟩,?_,h2⟩
  subst h0
  have e:nv rx.X rx.n*nv ry.X ry.n=0:=by rw [<-h3];rfl
  rw [IR.v_sg,IR.v_sg rx,IR.v_sg ry]
  rw [show sg rx.s*nv rx.X rx.n*(sg ry.s*nv ry.X ry.n)=sg rx.s*sg ry.s*(nv rx.X rx.n*nv ry.X ry.n) by simp only [Int.mul_assoc,Int.mul_left_comm]]
  rw [e];simp [nv]
 refine Ju [_,_,_,_,_,_,_,_,_,_,_,_,_,_,_,_,_,_,_,_,_] 20 [(.c,0),(.c,1),(.c,2),(.c,3),(.c,4),(.c,5),(.c,6),(.c,7),(.c,8),(.c,9),(.c,10),(.c,11),(.c,12),(.c,13),(.c,14),(.c,15),(.c,16),(.c,17),(.c,18),(.c,19),(.f,20)] Qb (fun _ _ _ _ _ h=>h) (by kernel_rfl) ?_
 intro w1 hw
 have hZi:=hZ.ib.cd hw
 have hcx:=hw.cell hcx
 have hcy:=hw.cell hcy
 refine mxc rfl H (Ez.mv H rfl) rfl ?_;clear H a;intro a H
 refine mxc rfl H (Ez.mv H rfl) rfl ?_;clear H a;intro a H
 refine mxc rfl H (Ez.nc H rfl) rfl ?_;clear H a;intro a H
 refine mxc rfl H (Ez.fa82_1 H rfl) rfl ?_;clear H a;intro a H
 refine mxc rfl H (Ez.ld80 H rfl (hZi.c1)) rfl ?_;clear H a;intro a H
 refine mxc rfl H (Ez.len80 H rfl) rfl ?_;clear H a;intro a H
 refine mxc rfl H (Ez.gtr (r:=true) H rfl rfl (by (simp;omega))) rfl ?_;clear H a;intro a H
 refine mxc rfl H (Ez.mv H rfl) rfl ?_;clear H a;intro a H
 refine mxcg rfl H (Ez.mv H rfl) rfl rfl rfl rfl rfl ?_;clear H a;intro a H
 refine mxcg rfl H (Ez.nc H rfl) rfl rfl rfl rfl rfl ?_;clear H a;intro a H
 refine mxcg rfl H (Ez.fa82_0 H rfl) rfl rfl rfl rfl rfl ?_;clear H a;intro a H
 refine mxcg rfl H (Ez.ld4 H rfl (hcx)) rfl rfl rfl rfl rfl ?_;clear H a;intro a H
 refine mxcg rfl H (Ez.mv H rfl) rfl rfl rfl rfl rfl ?_;clear H a;intro a H
 refine mxcg rfl H (Ez.nc H rfl) rfl rfl rfl rfl rfl ?_;clear H a;intro a H
 refine mxcg rfl H (Ez.fa82_0 H rfl) rfl rfl rfl rfl rfl ?_;clear H a;intro a H
 refine mxcg rfl H (Ez.ld4 H rfl (hcy)) rfl rfl rfl rfl rfl ?_;clear H a;intro a H
 refine mxcg rfl H (Ez.neb H rfl rfl rfl) rfl rfl rfl rfl rfl ?_;clear H a;intro a H
 refine mxc rfl H (Ez.pkT H rfl rfl) rfl ?_;clear H a;intro a H
 refine mxc rfl H (Ez.nc H rfl) rfl ?_;clear H a;intro a H
 refine mxc rfl H (Ez.fa82_0 H rfl) rfl ?_;clear H a;intro a H
 refine mxs rfl H (Ez.st4 H rfl rfl rfl hZi.c0 (hZi.fz _)) ?_;clear H;intro H
 replace H:Hd a 64 [] []:=H.pick []
 refine mxe' ?_
 refine rtn0 H rfl ?_
 have hN:=hZi.neg (rx.s !=ry.s) q'
 refine ⟨_,rfl,hZ.trans ⟨hN.1,Own.refl _ _,(hw.fr _).trans hN.2⟩,?_,h2⟩
 rw [IR.v_sg,IR.v_sg rx,IR.v_sg ry]
 simp only
 rw [sg_mul,h3]
 simp only [Int.mul_assoc,Int.mul_left_comm]
theorem intMul (z x y:Nat) (rz rx ry:IR) (w:World) (hz:Ib w z rz) (hx:Ib w x rx) (hy:Ib w y ry) (hne:x≠y) (hg:w.cell? ⟨4,0,none⟩=some (.int .i64 40)) (hnx:rx.n < 40) (hny:ry.n < 40):
 Calls Tryz.prog 107 #[pz z,pz x,pz y] w fun e w'=>∃r,e=.returned (pz z)/\Zr w w' z rz r/\r.v=rx.v*ry.v/\r.n<=rx.n+ry.n+1:=by
 refine Qd (vs:= [pz z,pz x,pz y]) Tryz.func107 rfl rfl ?_
 intro a H
 replace H:Hd a 12 [] [(0,pz z),(1,pz x),(2,pz y)]:=H
 refine Sq (Rl [_] (wl H (Ez.asn H rfl) rfl (kW (kS (kR [_,_,_,_] (kM rfl rfl (kM rfl rfl (kM rfl rfl ?_))))))));clear H a;intro a H
 refine wk H cf122 (intMul0 z x y rz rx ry w hz hx hy hne hg hnx hny) rfl rfl ?_
 rintro _ w1 ⟨r,rfl,h1,h2,h3⟩
 refine ⟨_,rfl,?_⟩;clear H a;intro a H
 refine kP [(0,_),(6,_)] rfl (kW (kS (kR [_,_] (kM rfl rfl (kA rfl rfl (kP [(6,_)] rfl (kW ?_))))))) a H;clear H a;intro a H
 refine Wr ?_
 refine rt1 H rfl rfl ?_
 exact ⟨r,rfl,h1,h2,h3⟩
end
section
set_option maxRecDepth 8000
def MixH (P:Program) (l:List Oper) (Q:Exit->Act->World->Prop) (S:World->Prop):List (Bool × Nat)->Act->World->Prop
 | [],a,w=>Q .normal a w
 | (true,i)::r,a,w=>∃o v,nth l i=some o/\o.dst.isSome=true/\YieldsIf P l.toArray S o v a/\MixH P l Q S r (a.put o.dst v) w
 | (false,i)::r,a,w=>wpOp P l.toArray Q i (fun a' w'=>S w'/\MixH P l Q S r a' w') a w
def mixHB (md:Region.Mode) (ops:Array Oper):List (Bool × Nat)->Array Bool->Bool
 | [],listed=>(Region.ready md ops listed).isEmpty
 | (true,i)::r,listed=>Region.free md ops listed i && (Region.ready md ops listed).contains i && mixHB md ops r (listed.setIfInBounds i true)
 | (false,i)::r,listed=>decide (Region.ready md ops listed= [i]) && mixHB md ops r (listed.setIfInBounds i true)
section
variable {P:Program} {Q:Exit->Act->World->Prop} {md:Region.Mode} {l:List Oper} {S:World->Prop}
theorem mixH_all (hs:Region.noSelect l.toArray=true) (hQ:∀c d v a w,Q (.panic c) (Act.put a (some d) v) w->Q (.panic c) a w):∀(ks:List (Bool × Nat)) (listed:Array Bool) (a:Act) (w:World),S w->mixHB md l.toArray ks listed=true->MixH P l Q S ks a w->wpAnyH P md l.toArray Q S ks.length listed a w
 | [],listed,a,w,hS,hB,h=>⟨by simpa [mixHB] using hB,h⟩
 | (true,i)::r,listed,a,w,hS,hB,h=>by
   obtain ⟨o,v,h0,hd,hy,h⟩:=h
   simp only [mixHB,Bool.and_eq_true] at hB
   obtain ⟨d,hd⟩:=Option.isSome_iff_exists.1 hd
   have ho:l.toArray[i]?=some o:=by rw [Jl];exact h0
   exact wpAnyH_take ho hs hB.1.1 hB.1.2 (by rw [hd];exact fun c a w=>hQ c d v a w) hy hS (mixH_all hs hQ r _ _ w hS hB.2 h)
 | (false,i)::r,listed,a,w,hS,hB,h=>by
   simp only [mixHB,Bool.and_eq_true,decide_eq_true_eq] at hB
   refine ⟨fun h1=>(by rw [hB.1] at h1;cases h1),fun j hj=>?_⟩
   rw [hB.1] at hj
   have e:j=i:=by simpa using hj
   subst e
   exact wpOp_mono (fun a' w' h'=>⟨h'.1,mixH_all hs hQ r _ a' w' h'.1 hB.2 h'.2⟩) h
theorem regionH {id:Nat} {a:Act} {w:World} (S:World->Prop) (l:List Oper) (ks:List (Bool × Nat)) (hm:P.follows .mixedOrders=true) (hQ:∀c d v a w,Q (.panic c) (Act.put a (some d) v) w->Q (.panic c) a w)
 (hB:(Region.noSelect l.toArray && decide (ks.length=l.toArray.size) && mixHB .any l.toArray ks (Array.replicate l.toArray.size false))=true)
 (h:∀w1,Cd w w1->S w1/\MixH P l Q S ks a w1):(Code.region id l.toArray true).wp P Q a w:=by
 simp only [Bool.and_eq_true,decide_eq_true_eq] at hB
 refine wp_region_any hm ?_
 rw [<-hB.1.2]
 obtain ⟨h1,h2⟩:=h _ ⟨1,rfl⟩
 have:=wpAny_of_held _ _ _ _ (mixH_all (P:=P) (Q:=Q) (w:={ w with drawn:=w.drawn+1}) hB.1.1 hQ ks _ a h1 hB.2 h2)
 rw [<-hB.1.2] at this
 exact this
end
section
variable {P:Program} {os:List Oper} {Q:Exit->Act->World->Prop} {S:World->Prop} {a:Act} {w w':World} {rest:List (Bool × Nat)} {op:Op} {d i:Nat} {ty:TypeId} {pos:String} {after:Array Edge} {g:Nat} {b:Bool} {N:Nat} {ds:List Deferred} {l:Env} {v:Value}
theorem mhp (ho:nth os i=some ⟨some d,op,ty,pos,after,none⟩) (H:Hd a N ds l) (hr:∀w,S w->(execOp a.eval ⟨some d,op,ty,pos,after,none⟩).run P w=.ok (.value v) w) (hd:Nat.blt d N=true)
 (h:∀a',Hd a' N ds ((d,v)::l)->MixH P os Q S rest a' w):MixH P os Q S ((true,i)::rest) a w:=
 ⟨_,v,ho,rfl,.inl ⟨by simp [Region.wanted],fun w hS=>hr w hS⟩,h _ (H.put v hd)⟩
theorem mhpg {og:Oper} {t:Nat} (ho:nth os i=some ⟨some d,op,ty,pos,after,some (g,b)⟩) (H:Hd a N ds l) (hr:∀w,S w->(execOp a.eval ⟨some d,op,ty,pos,after,some (g,b)⟩).run P w=.ok (.value v) w) (hd:Nat.blt d N=true)
 (hog:nth os g=some og) (ht:og.dst=some t) (hb:lk l t=some (.bool b)) (hN:Nat.blt t N=true)
 (h:∀a',Hd a' N ds ((d,v)::l)->MixH P os Q S rest a' w):MixH P os Q S ((true,i)::rest) a w:=
 ⟨_,v,ho,rfl,.inl ⟨by simp [Region.wanted,yield_nth H hog ht hb hN],fun w hS=>hr w hS⟩,h _ (H.put v hd)⟩
theorem mhpx {og:Oper} {t:Nat} (ho:nth os i=some ⟨some d,op,ty,pos,after,some (g,b)⟩) (H:Hd a N ds l) (hd:Nat.blt d N=true)
 (hog:nth os g=some og) (ht:og.dst=some t) (hb:lk l t=some (.bool (!b))) (hN:Nat.blt t N=true)
 (h:∀a',Hd a' N ds ((d,undef)::l)->MixH P os Q S rest a' w):MixH P os Q S ((true,i)::rest) a w:=
 ⟨_,undef,ho,rfl,.inr ⟨by simp [Region.wanted,yield_nth H hog ht hb hN],rfl⟩,h _ (H.put undef hd)⟩
theorem mhs (ho:nth os i=some ⟨none,op,ty,pos,after,none⟩) (H:Hd a N ds l) (hr:(execOp a.eval ⟨none,op,ty,pos,after,none⟩).run P w=.ok .skip w') (hS:S w')
 (h:Hd a N ds l->MixH P os Q S rest a w'):MixH P os Q S ((false,i)::rest) a w:=by
 show wpOp P os.toArray Q i _ a w
 unfold wpOp
 rw [Jl,ho]
 simp only [Region.wanted,if_true]
 exact .inl (by unfold Oper.wp;rw [hr];exact ⟨hS,h H⟩)
theorem mhe {K:Act->World->Prop} (h:K a w):MixH P os (Exit.then K Q) S [] a w:=h
end
end
section
set_option maxRecDepth 8000
theorem Ib.c0'' {w w1:World} {z r x:Nat} {rz rr rx:IR} (hx:Ib w x rx) (hz:Ib w z rz) (hr:Ib w r rr) (hF:Fr (T2 rz.q rr.q) w w1) (v u:Value):((w1.setCell ⟨z,1,none⟩ v).setCell ⟨r,1,none⟩ u).cell? ⟨x,0,none⟩=some (.bool rx.s):=by
 rw [Co _ _ _ _ (by intro e;injection e with _ e2;cases e2),Co _ _ _ _ (by intro e;injection e with _ e2;cases e2)]
 exact hF.someCell hx.c0 (fun h=>by rcases h with h | h;exact hz.sl.neI hx 0 h;exact hr.sl.neI hx 0 h)
theorem sgnO {w:World} {x z:Nat} {s:Value} (h:w.cell? ⟨x,0,none⟩=some s) (hne:z≠x) (v:Value):(w.setCell ⟨z,0,none⟩ v).cell? ⟨x,0,none⟩=some s:=by
 rw [Co _ _ _ _ (by intro e;injection e with e1 _;exact hne e1)];exact h
theorem Ib.negO {w:World} {z r:Nat} {rz rr:IR} (hr:Ib w r rr) (hz:Ib w z rz) (hne:z≠r) (b:Bool):Ib (w.setCell ⟨z,0,none⟩ (.bool b)) r rr:=
 ⟨by rw [Below.heap_setCell _ _ _ _ (fun e=>hne (Eq.symm e))];exact hr.blk,hr.sl.other (fun j=>hr.sl.neI hz j) _,hr.nm⟩
theorem Ib.negO' {w:World} {z r:Nat} {rz rr:IR} (hz:Ib w z rz) (hr:Ib w r rr) (hne:z≠r) (b:Bool):Ib (w.setCell ⟨r,0,none⟩ (.bool b)) z rz:=hz.negO hr (Ne.symm hne) b
set_option maxHeartbeats 2000000 in
theorem intQuoRem (z x y r:Nat) (rz rx ry rr:IR) (w:World) (hz:Ib w z rz) (hx:Ib w x rx) (hy:Ib w y ry) (hr:Ib w r rr) (hne:z≠r) (hg:w.cell? ⟨1,0,none⟩=some (.int .i64 40)) (hdzr:Dj rz.q rr.q) (hdrx:Dj rr.q rx.q) (hdry:Dj rr.q ry.q) (hn:1<=ry.n) (hn4:ry.n<=4) (hm:rx.n < 30) (hxz:x≠z) (hxr:x≠r) (hyz:y≠z) (hyr:y≠r) (hxs:rx.s=false) (hys:ry.s=false):
 Calls Tryz.prog 86 #[pz z,pz x,pz y,pz r] w fun e w'=>∃a b:IR,e=.returned (.tuple #[pz z,pz r])/\Ib w' z a/\Ib w' r b/\Own w rz.q a.q/\Own w rr.q b.q/\Dj a.q b.q/\a.n<=rx.n+1/\b.n<=ry.n/\nv a.X a.n*nv ry.X ry.n+nv b.X b.n=nv rx.X rx.n/\nv b.X b.n < nv ry.X ry.n/\a.s=false/\b.s=false/\Fr (ZT2 z rz.q r rr.q) w w':=by
 refine Qd (vs:= [pz z,pz x,pz y,pz r]) Tryz.func86 rfl rfl ?_
 intro a H
 replace H:Hd a 73 [] [(0,pz z),(1,pz x),(2,pz y),(3,pz r)]:=H
 refine Sq (Rl [_,_] (wl H (Ez.asn H rfl) rfl (kA rfl rfl (kW (kS ?_)))));clear H a;intro a H
 refine Ju [_,_,_,_,_,_,_,_,_,_,_,_,_,_,_,_,_,_,_,_,_,_,_,_,_,_,_,_] 18 [(.p,0),(.p,1),(.c,2),(.c,3),(.c,4),(.c,5),(.c,6),(.c,7),(.c,8),(.c,9),(.c,10),(.c,11),(.c,12),(.c,13),(.c,14),(.c,15),(.c,16),(.c,17),(.f,18),(.f,19),(.p,20),(.p,21),(.f,22),(.f,23),(.f,24),(.f,25),(.f,26),(.f,27)] Qb (fun _ _ _ _ _ h=>h) (by kernel_rfl) ?_
 intro w1 hw
 have hz:=hz.cd hw
 have hx:=hx.cd hw
 have hy:=hy.cd hw
 have hr:=hr.cd hw
 have hg:=hw.cell hg
 have hC:=hw
 obtain ⟨wL,hwL⟩:∃wL,wL=w1:=⟨w1,rfl⟩
 rw [<-hwL]
 rw [<-hwL] at hz hx hy hr hg hC
 clear hw hwL w1
 refine mxp rfl H (fun _=>Ez.mv H rfl) rfl ?_;clear H a;intro a H
 refine mxp rfl H (fun _=>Ez.mv H rfl) rfl ?_;clear H a;intro a H
 refine mxc rfl H (Ez.mv H rfl) rfl ?_;clear H a;intro a H
 refine mxc rfl H (Ez.nc H rfl) rfl ?_;clear H a;intro a H
 refine mxc rfl H (Ez.fa82_1 H rfl) rfl ?_;clear H a;intro a H
 refine mxc rfl H (Ez.ld80 H rfl (hz.c1)) rfl ?_;clear H a;intro a H
 refine mxc rfl H (Ez.mv H rfl) rfl ?_;clear H a;intro a H
 refine mxc rfl H (Ez.nc H rfl) rfl ?_;clear H a;intro a H
 refine mxc rfl H (Ez.fa82_1 H rfl) rfl ?_;clear H a;intro a H
 refine mxc rfl H (Ez.ld80 H rfl (hr.c1)) rfl ?_;clear H a;intro a H
 refine mxc rfl H (Ez.mv H rfl) rfl ?_;clear H a;intro a H
 refine mxc rfl H (Ez.nc H rfl) rfl ?_;clear H a;intro a H
 refine mxc rfl H (Ez.fa82_1 H rfl) rfl ?_;clear H a;intro a H
 refine mxc rfl H (Ez.ld80 H rfl (hx.c1)) rfl ?_;clear H a;intro a H
 refine mxc rfl H (Ez.mv H rfl) rfl ?_;clear H a;intro a H
 refine mxc rfl H (Ez.nc H rfl) rfl ?_;clear H a;intro a H
 refine mxc rfl H (Ez.fa82_1 H rfl) rfl ?_;clear H a;intro a H
 refine mxc rfl H (Ez.ld80 H rfl (hy.c1)) rfl ?_;clear H a;intro a H
 refine mxk rfl H cf99 (natDiv rz.q rr.q rx.q ry.q rz.n rz.c rr.n rr.c rx.n rx.c ry.n ry.c rz.X rr.X rx.X ry.X wL hz.sl hr.sl hx.sl hy.sl hg hdzr hdrx hdry hn hn4 hm hx.nm hy.nm) rfl rfl ?_
 rintro _ w1 ⟨q',k,c',Xq,r',kr,cr,Xr,rfl,d1,d2,d3,d4,d5,d6,d7,d8,d9,d10,d11,d12⟩
 refine ⟨_,rfl,?_⟩;clear H a;intro a H
 have hA:=hz.abs2 hr hne d12 d1 d7 d2 d8
 have hcx:=hx.c0'' hz hr d12 (.slice q' k c') (.slice r' kr cr)
 have hcy:=hy.c0'' hz hr d12 (.slice q' k c') (.slice r' kr cr)
 rw [hxs] at hcx
 rw [hys] at hcy
 refine mxf rfl H (Ez.mv H rfl) rfl ?_;clear H a;intro a H
 refine mxp rfl H (fun _=>Ez.ext0 H rfl) rfl ?_;clear H a;intro a H
 refine mxp rfl H (fun _=>Ez.ext1 H rfl) rfl ?_;clear H a;intro a H
 refine mxf rfl H (Ez.nc H rfl) rfl ?_;clear H a;intro a H
 refine mxf rfl H (Ez.fa82_1 H rfl) rfl ?_;clear H a;intro a H
 refine mxs rfl H (Ez.st80 H rfl rfl rfl hA.1 hA.2.1) ?_;clear H;intro H
 refine mxf rfl H (Ez.nc H rfl) rfl ?_;clear H a;intro a H
 refine mxf rfl H (Ez.fa82_1 H rfl) rfl ?_;clear H a;intro a H
 refine mxs rfl H (Ez.st80 H rfl rfl rfl hA.2.2.1 hA.2.2.2.1) ?_;clear H;intro H
 replace H:Hd a 73 [] [(0,_),(1,_),(2,_),(3,_),(8,_),(9,_)]:=H.pick [0,1,2,3,8,9]
 refine mxe ?_
 obtain ⟨_,_,_,_,hZ,hR,hF⟩:=hA
 have hF0:Fr (ZT2 z rz.q r rr.q) w _:=(hC.fr _).trans hF
 have ho1:Own w rz.q q':=fun k j h=>(d9 k j h).imp id (fun h=>by rw [<-hC.heap];exact h)
 have ho2:Own w rr.q r':=fun k j h=>(d10 k j h).imp id (fun h=>by rw [<-hC.heap];exact h)
 generalize (w1.setCell ⟨z,1,none⟩ (.slice q' k c')).setCell ⟨r,1,none⟩ (.slice r' kr cr)=w2 at hZ hR hF hF0 hcx hcy
 refine Sq ?_
 rcases (show (k=0/\kr=0)\/(k=0/\0 < kr)\/(0 < k/\kr=0)\/(0 < k/\0 < kr) by omega) with h0 | h0 | h0 | h0
 ·refine regionH (fun w=>w.cell? ⟨z,1,none⟩=some (.slice q' k c')/\w.cell? ⟨r,1,none⟩=some (.slice r' kr cr)/\w.cell? ⟨x,0,none⟩=some (.bool false)/\w.cell? ⟨y,0,none⟩=some (.bool false)) [_,_,_,_,_,_,_,_,_,_,_,_,_,_,_,_,_,_,_,_,_,_,_,_,_,_,_,_,_,_,_,_,_,_,_,_,_] [(true,0),(true,1),(true,2),(true,3),(true,4),(true,5),(true,6),(true,7),(true,8),(true,9),(true,10),(true,11),(true,12),(true,13),(true,14),(true,15),(true,16),(true,17),(true,18),(true,19),(true,20),(true,21),(true,22),(true,23),(true,24),(true,25),(true,26),(true,27),(true,28),(true,29),(true,30),(true,31),(true,32),(false,33),(true,34),(true,35),(false,36)] Qb (fun _ _ _ _ _ h=>h) (by kernel_rfl) ?_
  intro w1 hw
  have hZ:=hZ.cd hw
  have hR:=hR.cd hw
  have hcx:=hw.cell hcx
  have hcy:=hw.cell hcy
  have hF1:=hF0.trans (hw.fr _)
  refine ⟨⟨hZ.c1,hR.c1,hcx,hcy⟩,?_⟩
  refine mhp rfl H (fun w2 hS=>Ez.mv H rfl) rfl ?_;clear H a;intro a H
  refine mhp rfl H (fun w2 hS=>Ez.mv H rfl) rfl ?_;clear H a;intro a H
  refine mhp rfl H (fun w2 hS=>Ez.mv H rfl) rfl ?_;clear H a;intro a H
  refine mhp rfl H (fun w2 hS=>Ez.nc H rfl) rfl ?_;clear H a;intro a H
  refine mhp rfl H (fun w2 hS=>Ez.fa82_1 H rfl) rfl ?_;clear H a;intro a H
  refine mhp rfl H (fun w2 hS=>Ez.ld80 H rfl (hS.1)) rfl ?_;clear H a;intro a H
  refine mhp rfl H (fun w2 hS=>Ez.len80 H rfl) rfl ?_;clear H a;intro a H
  refine mhp rfl H (fun w2 hS=>Ez.gtr (r:=false) H rfl rfl (by (simp;omega))) rfl ?_;clear H a;intro a H
  refine mhp rfl H (fun w2 hS=>Ez.mv H rfl) rfl ?_;clear H a;intro a H
  refine mhpx rfl H rfl rfl rfl rfl rfl ?_;clear H a;intro a H
  refine mhpx rfl H rfl rfl rfl rfl rfl ?_;clear H a;intro a H
  refine mhpx rfl H rfl rfl rfl rfl rfl ?_;clear H a;intro a H
  refine mhpx rfl H rfl rfl rfl rfl rfl ?_;clear H a;intro a H
  refine mhpx rfl H rfl rfl rfl rfl rfl ?_;clear H a;intro a H
  refine mhpx rfl H rfl rfl rfl rfl rfl ?_;clear H a;intro a H
  refine mhpx rfl H rfl rfl rfl rfl rfl ?_;clear H a;intro a H
  refine mhpx rfl H rfl rfl rfl rfl rfl ?_;clear H a;intro a H
  refine mhpx rfl H rfl rfl rfl rfl rfl ?_;clear H a;intro a H
  refine mhp rfl H (fun w2 hS=>Ez.pkF H rfl rfl) rfl ?_;clear H a;intro a H
  refine mhp rfl H (fun w2 hS=>Ez.mv H rfl) rfl ?_;clear H a;intro a H
  refine mhp rfl H (fun w2 hS=>Ez.nc H rfl) rfl ?_;clear H a;intro a H
  refine mhp rfl H (fun w2 hS=>Ez.fa82_1 H rfl) rfl ?_;clear H a;intro a H
  refine mhp rfl H (fun w2 hS=>Ez.ld80 H rfl (hS.2.1)) rfl ?_;clear H a;intro a H
  refine mhp rfl H (fun w2 hS=>Ez.len80 H rfl) rfl ?_;clear H a;intro a H
  refine mhp rfl H (fun w2 hS=>Ez.gtr (r:=false) H rfl rfl (by (simp;omega))) rfl ?_;clear H a;intro a H
  refine mhp rfl H (fun w2 hS=>Ez.mv H rfl) rfl ?_;clear H a;intro a H
  refine mhpx rfl H rfl rfl rfl rfl rfl ?_;clear H a;intro a H
  refine mhpx rfl H rfl rfl rfl rfl rfl ?_;clear H a;intro a H
  refine mhpx rfl H rfl rfl rfl rfl rfl ?_;clear H a;intro a H
  refine mhpx rfl H rfl rfl rfl rfl rfl ?_;clear H a;intro a H
  refine mhp rfl H (fun w2 hS=>Ez.pkF H rfl rfl) rfl ?_;clear H a;intro a H
  refine mhp rfl H (fun w2 hS=>Ez.nc H rfl) rfl ?_;clear H a;intro a H
  refine mhp rfl H (fun w2 hS=>Ez.fa82_0 H rfl) rfl ?_;clear H a;intro a H
  refine mhs rfl H (Ez.st4 H rfl rfl rfl hZ.c0 (hZ.fz _)) (⟨(hZ.neg _ none).1.c1,(hR.negO hZ hne _).c1,sgnO hcx (Ne.symm hxz) _,sgnO hcy (Ne.symm hyz) _⟩) ?_;clear H;intro H
  refine mhp rfl H (fun w2 hS=>Ez.nc H rfl) rfl ?_;clear H a;intro a H
  refine mhp rfl H (fun w2 hS=>Ez.fa82_0 H rfl) rfl ?_;clear H a;intro a H
  refine mhs rfl H (Ez.st4 H rfl rfl rfl (hR.negO hZ hne _).c0 ((hR.negO hZ hne _).fz _)) (⟨((hZ.neg _ none).1.negO' (hR.negO hZ hne _) hne _).c1,((hR.negO hZ hne _).neg _ none).1.c1,sgnO (sgnO hcx (Ne.symm hxz) _) (Ne.symm hxr) _,sgnO (sgnO hcy (Ne.symm hyz) _) (Ne.symm hyr) _⟩) ?_;clear H;intro H
  replace H:Hd a 73 [] [(0,_),(3,_),(8,_),(9,_)]:=H.pick [0,3,8,9]
  refine mhe ?_
  refine Sq (Rl [_,_,_,_] (wl H (Ez.mv H rfl) rfl (kM rfl rfl (kA rfl rfl (kA rfl rfl (kP [(8,_),(9,_)] rfl (kW ?_)))))));clear H a;intro a H
  refine Wr ?_
  refine rt2 H rfl rfl rfl ?_
  refine ⟨⟨false,q',k,c',Xq⟩,⟨false,r',kr,cr,Xr⟩,rfl,((hZ.neg false none).1).negO' (hR.negO hZ hne false) hne false,(hR.negO hZ hne false).neg false none |>.1,ho1,ho2,d11,d3,d4,d5,d6,rfl,rfl,?_⟩
  refine hF1.trans ((((hZ.neg false rz.q).2).mono fun k o _ h=>.inl h).trans ((((hR.negO hZ hne false).neg false rr.q).2).mono fun k o _ h=>.inr h))
 ·refine regionH (fun w=>w.cell? ⟨z,1,none⟩=some (.slice q' k c')/\w.cell? ⟨r,1,none⟩=some (.slice r' kr cr)/\w.cell? ⟨x,0,none⟩=some (.bool false)/\w.cell? ⟨y,0,none⟩=some (.bool false)) [_,_,_,_,_,_,_,_,_,_,_,_,_,_,_,_,_,_,_,_,_,_,_,_,_,_,_,_,_,_,_,_,_,_,_,_,_] [(true,0),(true,1),(true,2),(true,3),(true,4),(true,5),(true,6),(true,7),(true,8),(true,9),(true,10),(true,11),(true,12),(true,13),(true,14),(true,15),(true,16),(true,17),(true,18),(true,19),(true,20),(true,21),(true,22),(true,23),(true,24),(true,25),(true,26),(true,27),(true,28),(true,29),(true,30),(true,31),(true,32),(false,33),(true,34),(true,35),(false,36)] Qb (fun _ _ _ _ _ h=>h) (by kernel_rfl) ?_
  intro w1 hw
  have hZ:=hZ.cd hw
  have hR:=hR.cd hw
  have hcx:=hw.cell hcx
  have hcy:=hw.cell hcy
  have hF1:=hF0.trans (hw.fr _)
  refine ⟨⟨hZ.c1,hR.c1,hcx,hcy⟩,?_⟩
  refine mhp rfl H (fun w2 hS=>Ez.mv H rfl) rfl ?_;clear H a;intro a H
  refine mhp rfl H (fun w2 hS=>Ez.mv H rfl) rfl ?_;clear H a;intro a H
  refine mhp rfl H (fun w2 hS=>Ez.mv H rfl) rfl ?_;clear H a;intro a H
  refine mhp rfl H (fun w2 hS=>Ez.nc H rfl) rfl ?_;clear H a;intro a H
  refine mhp rfl H (fun w2 hS=>Ez.fa82_1 H rfl) rfl ?_;clear H a;intro a H
  refine mhp rfl H (fun w2 hS=>Ez.ld80 H rfl (hS.1)) rfl ?_;clear H a;intro a H
  refine mhp rfl H (fun w2 hS=>Ez.len80 H rfl) rfl ?_;clear H a;intro a H
  refine mhp rfl H (fun w2 hS=>Ez.gtr (r:=false) H rfl rfl (by (simp;omega))) rfl ?_;clear H a;intro a H
  refine mhp rfl H (fun w2 hS=>Ez.mv H rfl) rfl ?_;clear H a;intro a H
  refine mhpx rfl H rfl rfl rfl rfl rfl ?_;clear H a;intro a H
  refine mhpx rfl H rfl rfl rfl rfl rfl ?_;clear H a;intro a H
  refine mhpx rfl H rfl rfl rfl rfl rfl ?_;clear H a;intro a H
  refine mhpx rfl H rfl rfl rfl rfl rfl ?_;clear H a;intro a H
  refine mhpx rfl H rfl rfl rfl rfl rfl ?_;clear H a;intro a H
  refine mhpx rfl H rfl rfl rfl rfl rfl ?_;clear H a;intro a H
  refine mhpx rfl H rfl rfl rfl rfl rfl ?_;clear H a;intro a H
  refine mhpx rfl H rfl rfl rfl rfl rfl ?_;clear H a;intro a H
  refine mhpx rfl H rfl rfl rfl rfl rfl ?_;clear H a;intro a H
  refine mhp rfl H (fun w2 hS=>Ez.pkF H rfl rfl) rfl ?_;clear H a;intro a H
  refine mhp rfl H (fun w2 hS=>Ez.mv H rfl) rfl ?_;clear H a;intro a H
  refine mhp rfl H (fun w2 hS=>Ez.nc H rfl) rfl ?_;clear H a;intro a H
  refine mhp rfl H (fun w2 hS=>Ez.fa82_1 H rfl) rfl ?_;clear H a;intro a H
  refine mhp rfl H (fun w2 hS=>Ez.ld80 H rfl (hS.2.1)) rfl ?_;clear H a;intro a H
  refine mhp rfl H (fun w2 hS=>Ez.len80 H rfl) rfl ?_;clear H a;intro a H
  refine mhp rfl H (fun w2 hS=>Ez.gtr (r:=true) H rfl rfl (by (simp;omega))) rfl ?_;clear H a;intro a H
  refine mhp rfl H (fun w2 hS=>Ez.mv H rfl) rfl ?_;clear H a;intro a H
  refine mhpg rfl H (fun w2 hS=>Ez.mv H rfl) rfl rfl rfl rfl rfl ?_;clear H a;intro a H
  refine mhpg rfl H (fun w2 hS=>Ez.nc H rfl) rfl rfl rfl rfl rfl ?_;clear H a;intro a H
  refine mhpg rfl H (fun w2 hS=>Ez.fa82_0 H rfl) rfl rfl rfl rfl rfl ?_;clear H a;intro a H
  refine mhpg rfl H (fun w2 hS=>Ez.ld4 H rfl (hS.2.2.1)) rfl rfl rfl rfl rfl ?_;clear H a;intro a H
  refine mhp rfl H (fun w2 hS=>Ez.pkT H rfl rfl) rfl ?_;clear H a;intro a H
  refine mhp rfl H (fun w2 hS=>Ez.nc H rfl) rfl ?_;clear H a;intro a H
  refine mhp rfl H (fun w2 hS=>Ez.fa82_0 H rfl) rfl ?_;clear H a;intro a H
  refine mhs rfl H (Ez.st4 H rfl rfl rfl hZ.c0 (hZ.fz _)) (⟨(hZ.neg _ none).1.c1,(hR.negO hZ hne _).c1,sgnO hcx (Ne.symm hxz) _,sgnO hcy (Ne.symm hyz) _⟩) ?_;clear H;intro H
  refine mhp rfl H (fun w2 hS=>Ez.nc H rfl) rfl ?_;clear H a;intro a H
  refine mhp rfl H (fun w2 hS=>Ez.fa82_0 H rfl) rfl ?_;clear H a;intro a H
  refine mhs rfl H (Ez.st4 H rfl rfl rfl (hR.negO hZ hne _).c0 ((hR.negO hZ hne _).fz _)) (⟨((hZ.neg _ none).1.negO' (hR.negO hZ hne _) hne _).c1,((hR.negO hZ hne _).neg _ none).1.c1,sgnO (sgnO hcx (Ne.symm hxz) _) (Ne.symm hxr) _,sgnO (sgnO hcy (Ne.symm hyz) _) (Ne.symm hyr) _⟩) ?_;clear H;intro H
  replace H:Hd a 73 [] [(0,_),(3,_),(8,_),(9,_)]:=H.pick [0,3,8,9]
  refine mhe ?_
  refine Sq (Rl [_,_,_,_] (wl H (Ez.mv H rfl) rfl (kM rfl rfl (kA rfl rfl (kA rfl rfl (kP [(8,_),(9,_)] rfl (kW ?_)))))));clear H a;intro a H
  refine Wr ?_
  refine rt2 H rfl rfl rfl ?_
  refine ⟨⟨false,q',k,c',Xq⟩,⟨false,r',kr,cr,Xr⟩,rfl,((hZ.neg false none).1).negO' (hR.negO hZ hne false) hne false,(hR.negO hZ hne false).neg false none |>.1,ho1,ho2,d11,d3,d4,d5,d6,rfl,rfl,?_⟩
  refine hF1.trans ((((hZ.neg false rz.q).2).mono fun k o _ h=>.inl h).trans ((((hR.negO hZ hne false).neg false rr.q).2).mono fun k o _ h=>.inr h))
 ·refine regionH (fun w=>w.cell? ⟨z,1,none⟩=some (.slice q' k c')/\w.cell? ⟨r,1,none⟩=some (.slice r' kr cr)/\w.cell? ⟨x,0,none⟩=some (.bool false)/\w.cell? ⟨y,0,none⟩=some (.bool false)) [_,_,_,_,_,_,_,_,_,_,_,_,_,_,_,_,_,_,_,_,_,_,_,_,_,_,_,_,_,_,_,_,_,_,_,_,_] [(true,0),(true,1),(true,2),(true,3),(true,4),(true,5),(true,6),(true,7),(true,8),(true,9),(true,10),(true,11),(true,12),(true,13),(true,14),(true,15),(true,16),(true,17),(true,18),(true,19),(true,20),(true,21),(true,22),(true,23),(true,24),(true,25),(true,26),(true,27),(true,28),(true,29),(true,30),(true,31),(true,32),(false,33),(true,34),(true,35),(false,36)] Qb (fun _ _ _ _ _ h=>h) (by kernel_rfl) ?_
  intro w1 hw
  have hZ:=hZ.cd hw
  have hR:=hR.cd hw
  have hcx:=hw.cell hcx
  have hcy:=hw.cell hcy
  have hF1:=hF0.trans (hw.fr _)
  refine ⟨⟨hZ.c1,hR.c1,hcx,hcy⟩,?_⟩
  refine mhp rfl H (fun w2 hS=>Ez.mv H rfl) rfl ?_;clear H a;intro a H
  refine mhp rfl H (fun w2 hS=>Ez.mv H rfl) rfl ?_;clear H a;intro a H
  refine mhp rfl H (fun w2 hS=>Ez.mv H rfl) rfl ?_;clear H a;intro a H
  refine mhp rfl H (fun w2 hS=>Ez.nc H rfl) rfl ?_;clear H a;intro a H
  refine mhp rfl H (fun w2 hS=>Ez.fa82_1 H rfl) rfl ?_;clear H a;intro a H
  refine mhp rfl H (fun w2 hS=>Ez.ld80 H rfl (hS.1)) rfl ?_;clear H a;intro a H
  refine mhp rfl H (fun w2 hS=>Ez.len80 H rfl) rfl ?_;clear H a;intro a H
  refine mhp rfl H (fun w2 hS=>Ez.gtr (r:=true) H rfl rfl (by (simp;omega))) rfl ?_;clear H a;intro a H
  refine mhp rfl H (fun w2 hS=>Ez.mv H rfl) rfl ?_;clear H a;intro a H
  refine mhpg rfl H (fun w2 hS=>Ez.mv H rfl) rfl rfl rfl rfl rfl ?_;clear H a;intro a H
  refine mhpg rfl H (fun w2 hS=>Ez.nc H rfl) rfl rfl rfl rfl rfl ?_;clear H a;intro a H
  refine mhpg rfl H (fun w2 hS=>Ez.fa82_0 H rfl) rfl rfl rfl rfl rfl ?_;clear H a;intro a H
  refine mhpg rfl H (fun w2 hS=>Ez.ld4 H rfl (hS.2.2.1)) rfl rfl rfl rfl rfl ?_;clear H a;intro a H
  refine mhpg rfl H (fun w2 hS=>Ez.mv H rfl) rfl rfl rfl rfl rfl ?_;clear H a;intro a H
  refine mhpg rfl H (fun w2 hS=>Ez.nc H rfl) rfl rfl rfl rfl rfl ?_;clear H a;intro a H
  refine mhpg rfl H (fun w2 hS=>Ez.fa82_0 H rfl) rfl rfl rfl rfl rfl ?_;clear H a;intro a H
  refine mhpg rfl H (fun w2 hS=>Ez.ld4 H rfl (hS.2.2.2)) rfl rfl rfl rfl rfl ?_;clear H a;intro a H
  refine mhpg rfl H (fun w2 hS=>Ez.neb H rfl rfl rfl) rfl rfl rfl rfl rfl ?_;clear H a;intro a H
  refine mhp rfl H (fun w2 hS=>Ez.pkT H rfl rfl) rfl ?_;clear H a;intro a H
  refine mhp rfl H (fun w2 hS=>Ez.mv H rfl) rfl ?_;clear H a;intro a H
  refine mhp rfl H (fun w2 hS=>Ez.nc H rfl) rfl ?_;clear H a;intro a H
  refine mhp rfl H (fun w2 hS=>Ez.fa82_1 H rfl) rfl ?_;clear H a;intro a H
  refine mhp rfl H (fun w2 hS=>Ez.ld80 H rfl (hS.2.1)) rfl ?_;clear H a;intro a H
  refine mhp rfl H (fun w2 hS=>Ez.len80 H rfl) rfl ?_;clear H a;intro a H
  refine mhp rfl H (fun w2 hS=>Ez.gtr (r:=false) H rfl rfl (by (simp;omega))) rfl ?_;clear H a;intro a H
  refine mhp rfl H (fun w2 hS=>Ez.mv H rfl) rfl ?_;clear H a;intro a H
  refine mhpx rfl H rfl rfl rfl rfl rfl ?_;clear H a;intro a H
  refine mhpx rfl H rfl rfl rfl rfl rfl ?_;clear H a;intro a H
  refine mhpx rfl H rfl rfl rfl rfl rfl ?_;clear H a;intro a H
  refine mhpx rfl H rfl rfl rfl rfl rfl ?_;clear H a;intro a H
  refine mhp rfl H (fun w2 hS=>Ez.pkF H rfl rfl) rfl ?_;clear H a;intro a H
  refine mhp rfl H (fun w2 hS=>Ez.nc H rfl) rfl ?_;clear H a;intro a H
  refine mhp rfl H (fun w2 hS=>Ez.fa82_0 H rfl) rfl ?_;clear H a;intro a H
  refine mhs rfl H (Ez.st4 H rfl rfl rfl hZ.c0 (hZ.fz _)) (⟨(hZ.neg _ none).1.c1,(hR.negO hZ hne _).c1,sgnO hcx (Ne.symm hxz) _,sgnO hcy (Ne.symm hyz) _⟩) ?_;clear H;intro H
  refine mhp rfl H (fun w2 hS=>Ez.nc H rfl) rfl ?_;clear H a;intro a H
  refine mhp rfl H (fun w2 hS=>Ez.fa82_0 H rfl) rfl ?_;clear H a;intro a H
  refine mhs rfl H (Ez.st4 H rfl rfl rfl (hR.negO hZ hne _).c0 ((hR.negO hZ hne _).fz _)) (⟨((hZ.neg _ none).1.negO' (hR.negO hZ hne _) hne _).c1,((hR.negO hZ hne _).neg _ none).1.c1,sgnO (sgnO hcx (Ne.symm hxz) _) (Ne.symm hxr) _,sgnO (sgnO hcy (Ne.symm hyz) _) (Ne.symm hyr) _⟩) ?_;clear H;intro H
  replace H:Hd a 73 [] [(0,_),(3,_),(8,_),(9,_)]:=H.pick [0,3,8,9]
  refine mhe ?_
  refine Sq (Rl [_,_,_,_] (wl H (Ez.mv H rfl) rfl (kM rfl rfl (kA rfl rfl (kA rfl rfl (kP [(8,_),(9,_)] rfl (kW ?_)))))));clear H a;intro a H
  refine Wr ?_
  refine rt2 H rfl rfl rfl ?_
  refine ⟨⟨false,q',k,c',Xq⟩,⟨false,r',kr,cr,Xr⟩,rfl,((hZ.neg false none).1).negO' (hR.negO hZ hne false) hne false,(hR.negO hZ hne false).neg false none |>.1,ho1,ho2,d11,d3,d4,d5,d6,rfl,rfl,?_⟩
  refine hF1.trans ((((hZ.neg false rz.q).2).mono fun k o _ h=>.inl h).trans ((((hR.negO hZ hne false).neg false rr.q).2).mono fun k o _ h=>.inr h))
 refine regionH (fun w=>w.cell? ⟨z,1,none⟩=some (.slice q' k c')/\w.cell? ⟨r,1,none⟩=some (.slice r' kr cr)/\w.cell? ⟨x,0,none⟩=some (.bool false)/\w.cell? ⟨y,0,none⟩=some (.bool false)) [_,_,_,_,_,_,_,_,_,_,_,_,_,_,_,_,_,_,_,_,_,_,_,_,_,_,_,_,_,_,_,_,_,_,_,_,_] [(true,0),(true,1),(true,2),(true,3),(true,4),(true,5),(true,6),(true,7),(true,8),(true,9),(true,10),(true,11),(true,12),(true,13),(true,14),(true,15),(true,16),(true,17),(true,18),(true,19),(true,20),(true,21),(true,22),(true,23),(true,24),(true,25),(true,26),(true,27),(true,28),(true,29),(true,30),(true,31),(true,32),(false,33),(true,34),(true,35),(false,36)] Qb (fun _ _ _ _ _ h=>h) (by kernel_rfl) ?_
 intro w1 hw
 have hZ:=hZ.cd hw
 have hR:=hR.cd hw
 have hcx:=hw.cell hcx
 have hcy:=hw.cell hcy
 have hF1:=hF0.trans (hw.fr _)
 refine ⟨⟨hZ.c1,hR.c1,hcx,hcy⟩,?_⟩
 refine mhp rfl H (fun w2 hS=>Ez.mv H rfl) rfl ?_;clear H a;intro a H
 refine mhp rfl H (fun w2 hS=>Ez.mv H rfl) rfl ?_;clear H a;intro a H
 refine mhp rfl H (fun w2 hS=>Ez.mv H rfl) rfl ?_;clear H a;intro a H
 refine mhp rfl H (fun w2 hS=>Ez.nc H rfl) rfl ?_;clear H a;intro a H
 refine mhp rfl H (fun w2 hS=>Ez.fa82_1 H rfl) rfl ?_;clear H a;intro a H
 refine mhp rfl H (fun w2 hS=>Ez.ld80 H rfl (hS.1)) rfl ?_;clear H a;intro a H
 refine mhp rfl H (fun w2 hS=>Ez.len80 H rfl) rfl ?_;clear H a;intro a H
 refine mhp rfl H (fun w2 hS=>Ez.gtr (r:=true) H rfl rfl (by (simp;omega))) rfl ?_;clear H a;intro a H
 refine mhp rfl H (fun w2 hS=>Ez.mv H rfl) rfl ?_;clear H a;intro a H
 refine mhpg rfl H (fun w2 hS=>Ez.mv H rfl) rfl rfl rfl rfl rfl ?_;clear H a;intro a H
 refine mhpg rfl H (fun w2 hS=>Ez.nc H rfl) rfl rfl rfl rfl rfl ?_;clear H a;intro a H
 refine mhpg rfl H (fun w2 hS=>Ez.fa82_0 H rfl) rfl rfl rfl rfl rfl ?_;clear H a;intro a H
 refine mhpg rfl H (fun w2 hS=>Ez.ld4 H rfl (hS.2.2.1)) rfl rfl rfl rfl rfl ?_;clear H a;intro a H
 refine mhpg rfl H (fun w2 hS=>Ez.mv H rfl) rfl rfl rfl rfl rfl ?_;clear H a;intro a H
 refine mhpg rfl H (fun w2 hS=>Ez.nc H rfl) rfl rfl rfl rfl rfl ?_;clear H a;intro a H
 refine mhpg rfl H (fun w2 hS=>Ez.fa82_0 H rfl) rfl rfl rfl rfl rfl ?_;clear H a;intro a H
 refine mhpg rfl H (fun w2 hS=>Ez.ld4 H rfl (hS.2.2.2)) rfl rfl rfl rfl rfl ?_;clear H a;intro a H
 refine mhpg rfl H (fun w2 hS=>Ez.neb H rfl rfl rfl) rfl rfl rfl rfl rfl ?_;clear H a;intro a H
 refine mhp rfl H (fun w2 hS=>Ez.pkT H rfl rfl) rfl ?_;clear H a;intro a H
 refine mhp rfl H (fun w2 hS=>Ez.mv H rfl) rfl ?_;clear H a;intro a H
 refine mhp rfl H (fun w2 hS=>Ez.nc H rfl) rfl ?_;clear H a;intro a H
 refine mhp rfl H (fun w2 hS=>Ez.fa82_1 H rfl) rfl ?_;clear H a;intro a H
 refine mhp rfl H (fun w2 hS=>Ez.ld80 H rfl (hS.2.1)) rfl ?_;clear H a;intro a H
 refine mhp rfl H (fun w2 hS=>Ez.len80 H rfl) rfl ?_;clear H a;intro a H
 refine mhp rfl H (fun w2 hS=>Ez.gtr (r:=true) H rfl rfl (by (simp;omega))) rfl ?_;clear H a;intro a H
 refine mhp rfl H (fun w2 hS=>Ez.mv H rfl) rfl ?_;clear H a;intro a H
 refine mhpg rfl H (fun w2 hS=>Ez.mv H rfl) rfl rfl rfl rfl rfl ?_;clear H a;intro a H
 refine mhpg rfl H (fun w2 hS=>Ez.nc H rfl) rfl rfl rfl rfl rfl ?_;clear H a;intro a H
 refine mhpg rfl H (fun w2 hS=>Ez.fa82_0 H rfl) rfl rfl rfl rfl rfl ?_;clear H a;intro a H
 refine mhpg rfl H (fun w2 hS=>Ez.ld4 H rfl (hS.2.2.1)) rfl rfl rfl rfl rfl ?_;clear H a;intro a H
 refine mhp rfl H (fun w2 hS=>Ez.pkT H rfl rfl) rfl ?_;clear H a;intro a H
 refine mhp rfl H (fun w2 hS=>Ez.nc H rfl) rfl ?_;clear H a;intro a H
 refine mhp rfl H (fun w2 hS=>Ez.fa82_0 H rfl) rfl ?_;clear H a;intro a H
 refine mhs rfl H (Ez.st4 H rfl rfl rfl hZ.c0 (hZ.fz _)) (⟨(hZ.neg _ none).1.c1,(hR.negO hZ hne _).c1,sgnO hcx (Ne.symm hxz) _,sgnO hcy (Ne.symm hyz) _⟩) ?_;clear H;intro H
 refine mhp rfl H (fun w2 hS=>Ez.nc H rfl) rfl ?_;clear H a;intro a H
 refine mhp rfl H (fun w2 hS=>Ez.fa82_0 H rfl) rfl ?_;clear H a;intro a H
 refine mhs rfl H (Ez.st4 H rfl rfl rfl (hR.negO hZ hne _).c0 ((hR.negO hZ hne _).fz _)) (⟨((hZ.neg _ none).1.negO' (hR.negO hZ hne _) hne _).c1,((hR.negO hZ hne _).neg _ none).1.c1,sgnO (sgnO hcx (Ne.symm hxz) _) (Ne.symm hxr) _,sgnO (sgnO hcy (Ne.symm hyz) _) (Ne.symm hyr) _⟩) ?_;clear H;intro H
 replace H:Hd a 73 [] [(0,_),(3,_),(8,_),(9,_)]:=H.pick [0,3,8,9]
 refine mhe ?_
 refine Sq (Rl [_,_,_,_] (wl H (Ez.mv H rfl) rfl (kM rfl rfl (kA rfl rfl (kA rfl rfl (kP [(8,_),(9,_)] rfl (kW ?_)))))));clear H a;intro a H
 refine Wr ?_
 refine rt2 H rfl rfl rfl ?_
 refine ⟨⟨false,q',k,c',Xq⟩,⟨false,r',kr,cr,Xr⟩,rfl,((hZ.neg false none).1).negO' (hR.negO hZ hne false) hne false,(hR.negO hZ hne false).neg false none |>.1,ho1,ho2,d11,d3,d4,d5,d6,rfl,rfl,?_⟩
 refine hF1.trans ((((hZ.neg false rz.q).2).mono fun k o _ h=>.inl h).trans ((((hR.negO hZ hne false).neg false rr.q).2).mono fun k o _ h=>.inr h))
end
section
set_option maxRecDepth 8000
def LS (A B u0 u1 v0 v1:Int) (e:Bool):Prop:=
 U64 u0/\U64 u1/\U64 v0/\U64 v1/\(v0≠0->∃A' B':Int,A'=-sg e*(u0*A - v0*B)/\B'=-sg e*(v1*B - u1*A)/\0 < B'/\B' < A'/\v1*A'+v0*B'=A/\u1*A'+u0*B'=B/\1<=v1/\1<=u1/\u0*v1 - u1*v0=-sg e)
structure LSt (A B D x y a1 a2 u1 u2 v1 v2:Int) (e:Bool):Prop where
 a21:a2<=a1
 a2p:0<=a2
 u1p:0<=u1
 u2p:0<=u2
 v1p:0<=v1
 v2p:1<=v2
 ux:x=v2*a1+v1*a2
 uy:y=u2*a1+u1*a2
 det:u1*v2 - u2*v1=sg e
 uv:u2<=v2
 uvs:u1+u2<=v1+v2
 one:(v1=0/\1<=u1)\/1<=u2
theorem sg_sq (e:Bool):sg e*sg e=1:=by cases e <;> rfl
theorem sg_not (e:Bool):sg (!e)=-sg e:=by cases e <;> rfl
section
variable {A B D x y a1 a2 u1 u2 v1 v2:Int} {e:Bool}
theorem LSt.a (h:LSt A B D x y a1 a2 u1 u2 v1 v2 e):a1=sg e*(u1*x - v1*y)/\a2=sg e*(v2*y - u2*x):=by
 have h1:=h.ux
 have h2:=h.uy
 have h3:=h.det
 have h4:=sg_sq e
 constructor <;> grind
theorem LSt.le (h:LSt A B D x y a1 a2 u1 u2 v1 v2 e) (ht:v2<=a2):v2<=x/\v1+v2<=x:=by
 have h1:=h.ux
 have h2:=h.v2p
 have h3:=h.v1p
 have p1:=Ml (show 1<=a1 by have:=h.a21;omega) (show 0<=v2 by omega)
 have p2:=Ml (show 1<=a2 by omega) h3
 omega
theorem LSt.step0 (h:LSt A B D x y a1 a2 u1 u2 v1 v2 e) (hp:0 < a2):LSt A B D x y a2 (a1 % a2) u2 (u1+a1 / a2*u2) v2 (v1+a1 / a2*v2) (!e)/\1<=a1 / a2/\v1+a1 / a2*v2<=x/\u1+a1 / a2*u2<=x:=by
 have hm1:=En a1 (show a2≠0 by omega)
 have hm2:=El a1 hp
 have hd:=Int.mul_ediv_add_emod a1 a2
 have hq:1<=a1 / a2:=by
  have:=h.a21
  exact (Int.le_ediv_iff_mul_le hp).2 (by omega)
 generalize a1 / a2=q at*
 generalize a1 % a2=r at*
 have e1:a1=q*a2+r:=by rw [Int.mul_comm];omega
 have pu:=Mn (show 0<=q by omega) h.u2p
 have pv:=Mr hq (show 0<=v2 by have:=h.v2p;omega)
 have puv:=Ml h.uv (show 0<=q - 1 by omega)
 rw [Int.sub_mul,Int.sub_mul,Int.one_mul,Int.one_mul] at puv
 rw [Int.one_mul] at pv
 have g1:=h.u1p;have g2:=h.u2p;have g3:=h.v1p;have g4:=h.v2p;have g5:=h.uvs;have g6:=h.uv
 have hx:x=(v1+q*v2)*a2+v2*r:=by have:=h.ux;grind
 have hy:y=(u1+q*u2)*a2+u2*r:=by have:=h.uy;grind
 have hvx:v1+q*v2<=x:=by
  have p1:=Ml (show 1<=a2 by omega) (show 0<=v1+q*v2 by omega)
  have p2:=Mn (show 0<=v2 by omega) hm1
  omega
 refine ⟨⟨by omega,hm1,g2,by omega,by omega,by omega,hx,hy,?_,by omega,by omega,?_⟩,hq,hvx,by omega⟩
 ·have h3:=h.det
  rw [sg_not,<-h3];grind
 rcases h.one with ⟨h1,h2⟩ | h2
 ·exact .inr (by omega)
 have:=Ml h2 (show 0<=q by omega)
 exact .inr (by omega)
theorem LSt.step (h:LSt A B D x y a1 a2 u1 u2 v1 v2 e) (ht:v2<=a2):LSt A B D x y a2 (a1 % a2) u2 (u1+a1 / a2*u2) v2 (v1+a1 / a2*v2) (!e)/\1<=a1 / a2/\v1+a1 / a2*v2<=x/\u1+a1 / a2*u2<=x:=h.step0 (by have:=h.v2p;omega)
theorem LSt.out {α β:Int} (h:LSt A B D x y a1 a2 u1 u2 v1 v2 e) (hD:0 < D) (hA:A=x*D+α) (hB:B=y*D+β) (hα:0<=α/\α < D) (hβ:0<=β/\β < D) (ht:v2<=a2) (ht2:v1+v2<=a1 - a2) (hx64:x < 18446744073709551616):
 LS A B u1 u2 v1 v2 (!e):=by
 obtain ⟨k1,k2⟩:=h.a
 obtain ⟨l1,l2⟩:=h.le ht
 have g1:=h.u1p;have g2:=h.u2p;have g3:=h.v1p;have g4:=h.v2p;have g5:=h.uvs;have g6:=h.uv
 have hsq:=sg_sq e
 refine ⟨⟨g1,by omega⟩,⟨g2,by omega⟩,⟨g3,by omega⟩,⟨by omega,by omega⟩,fun hv=>?_⟩
 refine ⟨_,_,rfl,rfl,?_,?_,?_,?_,g4,?_,?_⟩
 ·rw [sg_not,Int.neg_neg]
  have e1:sg e*(v2*B - u2*A)=a2*D+sg e*(v2*β - u2*α):=by rw [hA,hB,k2];grind
  rw [e1]
  have p1:=Mn (show 0<=v2 by omega) hβ.1
  have p2:=Mn g2 hα.1
  have p3:=Int.mul_lt_mul_of_pos_left hβ.2 (show 0 < v2 by omega)
  have p4:=Ml (Int.le_of_lt hα.2) g2
  have p5:=Mr g6 (Int.le_of_lt hD)
  have p6:=Mr ht (Int.le_of_lt hD)
  have p7:=Int.mul_lt_mul_of_pos_left hα.2 (show 0 < v2 by omega)
  have p8:=Mr g6 hα.1
  cases e <;> simp only [sg] <;> simp <;> omega
 ·rw [sg_not,Int.neg_neg]
  have e1:sg e*(u1*A - v1*B) - sg e*(v2*B - u2*A)=(a1 - a2)*D+sg e*((u1+u2)*α - (v1+v2)*β):=by rw [hA,hB,k1,k2];grind
  have p1:=Mn (show 0<=v1+v2 by omega) hβ.1
  have p2:=Mn (show 0<=u1+u2 by omega) hα.1
  have p3:=Int.mul_lt_mul_of_pos_left hβ.2 (show 0 < v1+v2 by omega)
  have p4:=Int.mul_lt_mul_of_pos_left hα.2 (show 0 < v1+v2 by omega)
  have p5:=Mr g5 hα.1
  have p6:=Mr ht2 (Int.le_of_lt hD)
  generalize sg e*(u1*A - v1*B)=R1 at e1 ⊢
  generalize sg e*(v2*B - u2*A)=R2 at e1 ⊢
  cases e <;> simp only [sg] at e1 <;> simp at e1 <;> omega
 ·rw [sg_not,Int.neg_neg];have h3:=h.det;grind
 ·rw [sg_not,Int.neg_neg];have h3:=h.det;grind
 ·rcases h.one with ⟨h1,h2⟩ | h2
  ·omega
  exact h2
 rw [sg_not,Int.neg_neg];have h3:=h.det;grind
end
theorem LSt.start {A B D x y:Int} (hy:0<=y) (hyx:y<=x):LSt A B D x y x y 1 0 0 1 false:=
 ⟨hyx,hy,by decide,by decide,by decide,by decide,by omega,by omega,by decide,by decide,by decide,.inl ⟨rfl,by decide⟩⟩
theorem wqe' {P:Program} {ops:Array Oper} {a:Act} {w:World} {Q:Exit->Act->World->Prop} (h:∀w',Cd w w'->Q .normal a w'):wpQuiet P ops (Cd w) (fun a'=>∀w',Cd w w'->Q .normal a' w') [] a:=h
end
section
set_option maxRecDepth 8000
theorem rt5 {P:Program} {fn:Func} {R:Ending->World->Prop} {a:Act} {w:World} {N:Nat} {l:Env} {t1 t2 t3 t4 t5:Tmp} {v1 v2 v3 v4 v5:Value} (H:Hd a N [] l) (h:fn.results=#[.tmp t1,.tmp t2,.tmp t3,.tmp t4,.tmp t5])
 (h1:lk l t1=some v1) (h2:lk l t2=some v2) (h3:lk l t3=some v3) (h4:lk l t4=some v4) (h5:lk l t5=some v5) (hR:R (.returned (.tuple #[v1,v2,v3,v4,v5])) w):bodyPost P fn R .ret a w:=by
 refine ⟨H.df,_,?_,hR⟩
 rw [<-H.g _ _ h1,<-H.g _ _ h2,<-H.g _ _ h3,<-H.g _ _ h4,<-H.g _ _ h5]
 simp [Go.results,h,Act.eval]
theorem rt3 {P:Program} {fn:Func} {R:Ending->World->Prop} {a:Act} {w:World} {N:Nat} {l:Env} {t1 t2 t3:Tmp} {v1 v2 v3:Value} (H:Hd a N [] l) (h:fn.results=#[.tmp t1,.tmp t2,.tmp t3])
 (h1:lk l t1=some v1) (h2:lk l t2=some v2) (h3:lk l t3=some v3) (hR:R (.returned (.tuple #[v1,v2,v3])) w):bodyPost P fn R .ret a w:=by
 refine ⟨H.df,_,?_,hR⟩
 rw [<-H.g _ _ h1,<-H.g _ _ h2,<-H.g _ _ h3]
 exact results_tmp3 h _ _ _
theorem head_shift {X:Nat->Int} {n h:Nat} (hn:2<=n) (hX:∀j,j < n->U64 (X j)) (hh:h < 64) (ht:X (n - 1)*2 ^ h < 18446744073709551616):
 U64 (X (n - 1)*2 ^ h)/\(X (n - 1)*2 ^ h) % 2 ^ h=0/\(0<=X (n - 2) / 2 ^ (64 - h)/\X (n - 2) / 2 ^ (64 - h) < 2 ^ h)/\U64 (X (n - 1)*2 ^ h+X (n - 2) / 2 ^ (64 - h))/\
 ∃α,nv X n=(X (n - 1)*2 ^ h+X (n - 2) / 2 ^ (64 - h))*(2 ^ (64 - h)*BB ^ (n - 2))+α/\0<=α/\α < 2 ^ (64 - h)*BB ^ (n - 2):=by
 obtain ⟨k,rfl⟩:∃k,n=k+2:=⟨n - 2,by omega⟩
 simp only [show k+2 - 1=k+1 by omega,show k+2 - 2=k by omega] at*
 have hS:(0:Int) < 2 ^ h:=Int.pow_pos (by decide)
 have hR:(0:Int) < 2 ^ (64 - h):=Int.pow_pos (by decide)
 have hSR:(2:Int) ^ h*2 ^ (64 - h)=18446744073709551616:=by rw [<-Int.pow_add,show h+(64 - h)=64 by omega];rfl
 have u0:=hX k (by omega)
 have u1:=hX (k+1) (by omega)
 have hP:=Q3 k
 have d1:=Int.mul_ediv_add_emod (X k) (2 ^ (64 - h))
 have d2:=En (X k) (show (2:Int) ^ (64 - h)≠0 by omega)
 have d3:=El (X k) hR
 have q0:0<=X k / 2 ^ (64 - h):=Int.ediv_nonneg u0.1 (by omega)
 have q1:X k / 2 ^ (64 - h) < 2 ^ h:=Int.ediv_lt_of_lt_mul hR (by rw [hSR];exact u0.2)
 have t0:=Mn u1.1 (Int.le_of_lt hS)
 have l0:=Q5 k (fun j hj=>hX j (by omega))
 have l1:=Kn k (fun j hj=>hX j (by omega))
 generalize hq:X k / 2 ^ (64 - h)=q at*
 generalize hr:X k % 2 ^ (64 - h)=r at*
 have htop:X (k+1)*2 ^ h+q < 18446744073709551616:=by
  have:X (k+1)*2 ^ h<=(18446744073709551616:Int) - 2 ^ h:=by
   have e:(18446744073709551616:Int) - 2 ^ h=((2:Int) ^ (64 - h) - 1)*2 ^ h:=by rw [Int.sub_mul,Int.one_mul,Int.mul_comm (2 ^ (64 - h)),hSR]
   rw [e]
   refine Mr ?_ (Int.le_of_lt hS)
   have:X (k+1)*2 ^ h < 2 ^ (64 - h)*2 ^ h:=by rw [Int.mul_comm (2 ^ (64 - h)),hSR];exact ht
   have:=Int.lt_of_mul_lt_mul_right this (Int.le_of_lt hS)
   omega
  omega
 refine ⟨⟨t0,ht⟩,Int.mul_emod_left _ _,⟨q0,q1⟩,⟨by omega,htop⟩,r*BB ^ k+nv X k,?_,?_,?_⟩
 ·simp only [nv]
  have e1:BB ^ (k+1)=18446744073709551616*BB ^ k:=by rw [Int.pow_succ,Int.mul_comm];rfl
  rw [e1,<-hSR,<-d1]
  grind
 ·have:=Mn d2 (Int.le_of_lt hP);omega
 have:=Mr (show r+1<=2 ^ (64 - h) by omega) (Int.le_of_lt hP)
 rw [Int.add_mul,Int.one_mul] at this
 omega
theorem head_next {Y:Nat->Int} {n h:Nat} (hn:2<=n) (hY:∀j,j < n - 1->U64 (Y j)) (hh:h < 64):
 (0<=Y (n - 2) / 2 ^ (64 - h))/\∃β,nv Y (n - 1)=(Y (n - 2) / 2 ^ (64 - h))*(2 ^ (64 - h)*BB ^ (n - 2))+β/\0<=β/\β < 2 ^ (64 - h)*BB ^ (n - 2):=by
 obtain ⟨k,rfl⟩:∃k,n=k+2:=⟨n - 2,by omega⟩
 simp only [show k+2 - 1=k+1 by omega,show k+2 - 2=k by omega] at*
 have hR:(0:Int) < 2 ^ (64 - h):=Int.pow_pos (by decide)
 have u0:=hY k (by omega)
 have hP:=Q3 k
 have d1:=Int.mul_ediv_add_emod (Y k) (2 ^ (64 - h))
 have d2:=En (Y k) (show (2:Int) ^ (64 - h)≠0 by omega)
 have d3:=El (Y k) hR
 have l0:=Q5 k (fun j hj=>hY j (by omega))
 have l1:=Kn k (fun j hj=>hY j (by omega))
 refine ⟨Int.ediv_nonneg u0.1 (by omega),(Y k % 2 ^ (64 - h))*BB ^ k+nv Y k,?_,?_,?_⟩
 ·simp only [nv]
  generalize Y k / 2 ^ (64 - h)=q at*
  generalize Y k % 2 ^ (64 - h)=r at*
  rw [<-d1];grind
 ·have:=Mn d2 (Int.le_of_lt hP);omega
 have:=Mr (show Y k % 2 ^ (64 - h)+1<=2 ^ (64 - h) by omega) (Int.le_of_lt hP)
 rw [Int.add_mul,Int.one_mul] at this
 omega
set_option maxHeartbeats 2000000 in
theorem lehmerSim (pa pb:Nat) (ra rb:IR) (w0:World) (hA:Ib w0 pa ra) (hB:Ib w0 pb rb) (hn2:2<=ra.n) (hm2:1<=rb.n) (hna:ra.n < 1000) (hBA:nv rb.X rb.n<=nv ra.X ra.n):
 Calls Tryz.prog 103 #[pz pa,pz pb] w0 fun e w'=>∃u0 u1 v0 v1 e',e=.returned (.tuple #[.int .u64 u0,.int .u64 u1,.int .u64 v0,.int .u64 v1,.bool e'])/\LS (nv ra.X ra.n) (nv rb.X rb.n) u0 u1 v0 v1 e'/\Cd w0 w':=by
 refine Qd (vs:= [pz pa,pz pb]) Tryz.func103 rfl rfl ?_
 intro a H
 replace H:Hd a 137 [] [(0,pz pa),(1,pz pb)]:=H
 refine Sq (Rl [_,_,_,_,_] (wl H (Ez.asn H rfl) rfl (kA rfl rfl (kA rfl rfl (kA rfl rfl (kA rfl rfl (kW (kS (kR [_,_,_,_] (kA rfl rfl (kA rfl rfl (kA rfl rfl (kA rfl rfl (kW (kS ?_)))))))))))))));clear H a;intro a H
 obtain ⟨n,hn⟩:∃n,n=ra.n:=⟨_,rfl⟩
 obtain ⟨m,hm⟩:∃m,m=rb.n:=⟨_,rfl⟩
 rw [<-hn] at hn2 hBA
 rw [<-hm] at hm2 hBA
 have hac:=hA.c1
 have hbc:=hB.c1
 have hasl:=hA.sl
 have hbsl:=hB.sl
 have hanm:=hA.nm
 have hbnm:=hB.nm
 rw [<-hn] at hac hasl hanm
 rw [<-hm] at hbc hbsl hbnm
 have hXu:∀j,j < n->U64 (ra.X j):=fun j hj=>hasl.u (by have:=hasl.le;omega)
 have hYu:∀j,j < m->U64 (rb.X j):=fun j hj=>hbsl.u (by have:=hbsl.le;omega)
 have hmn:m<=n:=by
  rcases Nat.lt_or_ge n m with h | h
  ·have:=Jx (X:=rb.X) (Y:=ra.X) hYu hXu hbnm h;omega
  exact h
 have hal:=hasl.le
 have hbl:=hbsl.le
 obtain ⟨ba,hba,_,hWa⟩:=hasl.blk (by omega)
 obtain ⟨bb,hbb,_,hWb⟩:=hbsl.blk (by omega)
 rw [hba] at hac
 rw [hbb] at hbc
 obtain ⟨xt,hxt⟩:=Eo (hXu (n - 1) (by omega)).1
 have hxtB:=(hXu (n - 1) (by omega)).2
 have hxt0:0 < xt:=by
  rcases hanm with h | h
  ·omega
  omega
 refine Rl [_,_,_,_,_,_] (wl H (Ez.mv H rfl) rfl (kN rfl rfl (kL (fun a H=>Ez.fa82_1 H rfl) rfl (kL (fun a H=>Ez.ld80 H rfl (hbc)) rfl (kL (fun a H=>Ez.len80 H rfl) rfl (kA rfl rfl (kP [(0,_),(1,_),(4,_),(5,_),(6,_),(7,_),(8,_),(9,_),(10,_),(11,_),(12,_),(13,_)] rfl (kW (kS (kR [_,_,_,_,_,_] (kM rfl rfl (kN rfl rfl (kL (fun a H=>Ez.fa82_1 H rfl) rfl (kL (fun a H=>Ez.ld80 H rfl (hac)) rfl (kL (fun a H=>Ez.len80 H rfl) rfl (kA rfl rfl (kP [(0,_),(1,_),(4,_),(5,_),(6,_),(7,_),(8,_),(9,_),(10,_),(11,_),(12,_),(13,_),(14,_)] rfl (kW (kS (kR [_,_,_,_,_,_,_,_,_,_] (kM rfl rfl (kN rfl rfl (kL (fun a H=>Ez.fa82_1 H rfl) rfl (kL (fun a H=>Ez.ld80 H rfl (hac)) rfl (kM rfl rfl (kL (fun a H=>Ez.subI (r:=((n - 1:Nat):Int)) H rfl rfl (by omega) (by omega)) rfl (kL (fun a H=>Ez.ix80 H rfl rfl (n - 1) rfl (by omega)) rfl ?_)))))))))))))))))))))))))));clear H a;intro a H
 refine wl H (Ez.ld103 H rfl ((by rw [Nat.zero_add];exact hWa.cell (by omega)))) rfl ?_;clear H a;intro a H
 rw [hxt] at H
 refine wk H cf120 (nlz xt (by omega) hxt0 w0) rfl rfl ?_
 rintro _ w1 ⟨s,rfl,hL,rfl⟩
 refine ⟨_,rfl,?_⟩;clear H a;intro a H
 have hs64:=hL.1
 have hxs:ra.X (n - 1)*2 ^ s < 18446744073709551616:=by
  have h:=hL.2.2
  have e:((xt*2 ^ s:Nat):Int)=(xt:Int)*2 ^ s:=by simp [Int.natCast_mul,Int.natCast_pow]
  rw [hxt,<-e];generalize xt*2 ^ s=p at h ⊢;omega
 obtain ⟨x1,x2,x3,x4,α,x5,x6⟩:=head_shift hn2 hXu hs64 hxs
 have xmod:ra.X (n - 1)*2 ^ s % 18446744073709551616=ra.X (n - 1)*2 ^ s:=Int.emod_eq_of_lt x1.1 x1.2
 have xor:=orJ s (by omega) x1 x2 x3
 refine wl H (Ez.asn H rfl) rfl (kP [(0,_),(1,_),(4,_),(5,_),(6,_),(7,_),(8,_),(9,_),(10,_),(11,_),(12,_),(13,_),(14,_),(15,_)] rfl (kW (kS ?_)));clear H a;intro a H
 refine Qr (ls:= [_,_,_,_,_,_,_,_,_,_,_,_,_,_,_,_,_,_,_,_,_,_,_]) Qb (by kernel_rfl) (wq H (fun w2 hw2=>Ez.mv H rfl) rfl (jN rfl rfl (jL (fun a H w2 hw2=>Ez.fa82_1 H rfl) rfl (jL (fun a H w2 hw2=>Ez.ld80 H rfl (hw2.cell hac)) rfl (jM rfl rfl (jL (fun a H w2 hw2=>Ez.subI (r:=((n - 1:Nat):Int)) H rfl rfl (by omega) (by omega)) rfl (jL (fun a H w2 hw2=>Ez.ix80 H rfl rfl (n - 1) rfl (by omega)) rfl (jL (fun a H w2 hw2=>Ez.ld103 H rfl ((by rw [Nat.zero_add];exact hw2.cell (hWa.cell (by omega))))) rfl (jM rfl rfl (jL (fun a H w2 hw2=>Ez.shlU H rfl rfl s rfl (by omega) xmod) rfl (jM rfl rfl (jN rfl rfl (jL (fun a H w2 hw2=>Ez.fa82_1 H rfl) rfl (jL (fun a H w2 hw2=>Ez.ld80 H rfl (hw2.cell hac)) rfl (jM rfl rfl (jL (fun a H w2 hw2=>Ez.subI (r:=((n - 2:Nat):Int)) H rfl rfl (by omega) (by omega)) rfl (jL (fun a H w2 hw2=>Ez.ix80 H rfl rfl (n - 2) rfl (by omega)) rfl (jL (fun a H w2 hw2=>Ez.ld103 H rfl ((by rw [Nat.zero_add];exact hw2.cell (hWa.cell (by omega))))) rfl (jM rfl rfl (jL (fun a H w2 hw2=>Ez.subU (r:=((64 - s:Nat):Int)) H rfl rfl (by omega)) rfl (jL (fun a H w2 hw2=>Ez.shrU H rfl rfl (64 - s) rfl (by show 64 - s<=64;omega) rfl) rfl (jL (fun a H w2 hw2=>Ez.or H rfl rfl (xor)) rfl (jA rfl rfl ?_)))))))))))))))))))))));clear H a;intro a H
 refine wqe ?_
 intro w1 hw
 have hC:=hw
 clear hw
 obtain ⟨x,hxe⟩:∃x,x=ra.X (n - 1)*2 ^ s+ra.X (n - 2) / 2 ^ (64 - s):=⟨_,rfl⟩
 rw [<-hxe] at H x4 x5
 replace H:Hd a 137 [] [(1,_),(4,_),(5,_),(6,_),(7,_),(8,_),(9,_),(10,_),(11,_),(12,_),(13,_),(14,_),(15,_)]:=H.pick [1,4,5,6,7,8,9,10,11,12,13,14,15]
 refine Jf (fun a w=>∃y:Int,Hd a 137 [] [(9,.int .u64 x),(10,.int .u64 y)]/\(U64 y/\∃β,nv rb.X m=y*(2 ^ (64 - s)*BB ^ (n - 2))+β/\0<=β/\β < 2 ^ (64 - s)*BB ^ (n - 2))/\Cd w0 w) ?_ ?_
 ·refine Wb (Sq (Rl [_,_,_,_] (wl H (Ez.mv H rfl) rfl (kM rfl rfl (kL (fun a H=>Ez.eql H rfl rfl (rfl)) rfl (kA rfl rfl (kP [(1,_),(4,_),(5,_),(6,_),(7,_),(8,_),(9,_),(10,_),(11,_),(12,_),(13,_),(14,_),(15,_),(59,_)] rfl (kW ?_))))))));clear H a;intro a H
  refine Cs (H.o rfl) (fun hb0=>?_) (fun hb0=>?_)
  ·have hnm:n=m:=by have:=Dt hb0;omega
   subst hnm
   have hle:rb.X (n - 1)<=ra.X (n - 1):=by
    by_cases h:rb.X (n - 1)<=ra.X (n - 1)
    ·exact h
    have hd:=Jn (X:=ra.X) (Y:=rb.X) (i:=n - 1) (fun j hj=>hXu j (by omega)) (fun j hj=>hYu j (by omega)) (by omega)
    rw [show n - 1+1=n by omega] at hd;omega
   have hys:rb.X (n - 1)*2 ^ s < 18446744073709551616:=by
    have:=Mr hle (show (0:Int)<=2 ^ s from Int.le_of_lt (Int.pow_pos (by decide)))
    omega
   obtain ⟨y1,y2,y3,y4,β,y5,y6⟩:=head_shift hn2 hYu hs64 hys
   have ymod:rb.X (n - 1)*2 ^ s % 18446744073709551616=rb.X (n - 1)*2 ^ s:=Int.emod_eq_of_lt y1.1 y1.2
   have yor:=orJ s (by omega) y1 y2 y3
   refine Qr (ls:= [_,_,_,_,_,_,_,_,_,_,_,_,_,_,_,_,_,_,_,_,_,_,_]) Qb (by kernel_rfl) (wq H (fun w2 hw2=>Ez.mv H rfl) rfl (jN rfl rfl (jL (fun a H w2 hw2=>Ez.fa82_1 H rfl) rfl (jL (fun a H w2 hw2=>Ez.ld80 H rfl (hw2.cell (hC.cell hbc))) rfl (jM rfl rfl (jL (fun a H w2 hw2=>Ez.subI (r:=((n - 1:Nat):Int)) H rfl rfl (by omega) (by omega)) rfl (jL (fun a H w2 hw2=>Ez.ix80 H rfl rfl (n - 1) rfl (by omega)) rfl (jL (fun a H w2 hw2=>Ez.ld103 H rfl ((by rw [Nat.zero_add];exact hw2.cell (hC.cell (hWb.cell (by omega)))))) rfl (jM rfl rfl (jL (fun a H w2 hw2=>Ez.shlU H rfl rfl s rfl (by omega) ymod) rfl (jM rfl rfl (jN rfl rfl (jL (fun a H w2 hw2=>Ez.fa82_1 H rfl) rfl (jL (fun a H w2 hw2=>Ez.ld80 H rfl (hw2.cell (hC.cell hbc))) rfl (jM rfl rfl (jL (fun a H w2 hw2=>Ez.subI (r:=((n - 2:Nat):Int)) H rfl rfl (by omega) (by omega)) rfl (jL (fun a H w2 hw2=>Ez.ix80 H rfl rfl (n - 2) rfl (by omega)) rfl (jL (fun a H w2 hw2=>Ez.ld103 H rfl ((by rw [Nat.zero_add];exact hw2.cell (hC.cell (hWb.cell (by omega)))))) rfl (jM rfl rfl (jL (fun a H w2 hw2=>Ez.subU (r:=((64 - s:Nat):Int)) H rfl rfl (by omega)) rfl (jL (fun a H w2 hw2=>Ez.shrU H rfl rfl (64 - s) rfl (by show 64 - s<=64;omega) rfl) rfl (jL (fun a H w2 hw2=>Ez.or H rfl rfl (yor)) rfl (jA rfl rfl ?_)))))))))))))))))))))));clear H a;intro a H
   refine wqe' ?_
   intro w1 hw
   have hC:=hC.trans hw
   clear hw
   have hyf:U64 (rb.X (n - 1)*2 ^ s+rb.X (n - 2) / 2 ^ (64 - s))/\∃β,nv rb.X n=(rb.X (n - 1)*2 ^ s+rb.X (n - 2) / 2 ^ (64 - s))*(2 ^ (64 - s)*BB ^ (n - 2))+β/\0<=β/\β < 2 ^ (64 - s)*BB ^ (n - 2):=⟨y4,β,y5,y6⟩
   replace H:Hd a 137 [] [(4,_),(5,_),(6,_),(7,_),(8,_),(9,_),(10,_),(11,_),(12,_)]:=H.pick [4,5,6,7,8,9,10,11,12]
   refine bn (thn ?_)
   replace H:Hd a 137 [] [(9,_),(10,_)]:=H.pick [9,10]
   exact ⟨_,H,hyf,hC⟩
  have hnm:n≠m:=by have:=Df hb0;omega
  refine Sq (Rl [_,_,_,_,_] (wl H (Ez.mv H rfl) rfl (kM rfl rfl (kL (fun a H=>Ez.addI (r:=((m+1:Nat):Int)) H rfl rfl (by omega) (by omega)) rfl (kL (fun a H=>Ez.eql H rfl rfl (rfl)) rfl (kA rfl rfl (kP [(1,_),(4,_),(5,_),(6,_),(7,_),(8,_),(9,_),(10,_),(11,_),(12,_),(14,_),(15,_),(85,_)] rfl (kW ?_))))))));clear H a;intro a H
  refine Cs (H.o rfl) (fun hb1=>?_) (fun hb1=>?_)
  ·have hnm2:n=m+1:=by have:=Dt hb1;omega
   refine Rl [_,_,_,_,_,_,_,_,_,_,_,_] (wl H (Ez.mv H rfl) rfl (kN rfl rfl (kL (fun a H=>Ez.fa82_1 H rfl) rfl (kL (fun a H=>Ez.ld80 H rfl (hC.cell hbc)) rfl (kM rfl rfl (kL (fun a H=>Ez.subI (r:=((n - 2:Nat):Int)) H rfl rfl (by omega) (by omega)) rfl (kL (fun a H=>Ez.ix80 H rfl rfl (n - 2) rfl (by omega)) rfl (kL (fun a H=>Ez.ld103 H rfl ((by rw [Nat.zero_add];exact hC.cell (hWb.cell (by omega))))) rfl (kM rfl rfl (kL (fun a H=>Ez.subU (r:=((64 - s:Nat):Int)) H rfl rfl (by omega)) rfl (kL (fun a H=>Ez.shrU H rfl rfl (64 - s) rfl (by show 64 - s<=64;omega) rfl) rfl (kA rfl rfl (kP [(4,_),(5,_),(6,_),(7,_),(8,_),(9,_),(10,_),(11,_),(12,_)] rfl ?_)))))))))))));clear H a;intro a H
   refine Wn ?_
   have hyf:U64 (rb.X (n - 2) / 2 ^ (64 - s))/\∃β,nv rb.X m=(rb.X (n - 2) / 2 ^ (64 - s))*(2 ^ (64 - s)*BB ^ (n - 2))+β/\0<=β/\β < 2 ^ (64 - s)*BB ^ (n - 2):=by
    have hn1:n - 1=m:=by omega
    obtain ⟨y1,y2⟩:=head_next (Y:=rb.X) hn2 (fun j hj=>hYu j (by omega)) hs64
    rw [hn1] at y2
    refine ⟨⟨y1,?_⟩,y2⟩
    have:=(hYu (n - 2) (by omega)).2
    have h2:=Int.ediv_le_self (2 ^ (64 - s)) (hYu (n - 2) (by omega)).1
    omega
   refine bn (thn ?_)
   replace H:Hd a 137 [] [(9,_),(10,_)]:=H.pick [9,10]
   exact ⟨_,H,hyf,hC⟩
  have hnm2:n≠m+1:=by have:=Df hb1;omega
  refine Rl [_] (wl H (Ez.asn H rfl) rfl (kP [(4,_),(5,_),(6,_),(7,_),(8,_),(9,_),(10,_),(11,_),(12,_)] rfl ?_));clear H a;intro a H
  refine Wn ?_
  have hyf:U64 0/\∃β,nv rb.X m=0*(2 ^ (64 - s)*BB ^ (n - 2))+β/\0<=β/\β < 2 ^ (64 - s)*BB ^ (n - 2):=by
   refine ⟨⟨by decide,by decide⟩,nv rb.X m,by omega,Q5 m hYu,?_⟩
   have h1:=Kn m hYu
   have h2:=BBn_le (show m<=n - 2 by omega)
   have h3:(1:Int)<=2 ^ (64 - s):=by have:(0:Int) < 2 ^ (64 - s):=Int.pow_pos (by decide)
                                     omega
   have h4:=Mr h3 (Int.le_of_lt (Q3 (n - 2)))
   omega
  refine bn (thn ?_)
  replace H:Hd a 137 [] [(9,_),(10,_)]:=H.pick [9,10]
  exact ⟨_,H,hyf,hC⟩
 clear H a
 intro a w hJ
 obtain ⟨y,H,⟨hyu,β,hyv,hβ⟩,hC⟩:=hJ
 have hD0:(0:Int) < 2 ^ (64 - s)*BB ^ (n - 2):=Int.mul_pos (Int.pow_pos (by decide)) (Q3 _)
 generalize (2:Int) ^ (64 - s)*BB ^ (n - 2)=D at hD0 hyv hβ x5 x6
 have hyx:y<=x:=by
  by_cases h:y<=x
  ·exact h
  have:=Mr (show x+1<=y by omega) (Int.le_of_lt hD0)
  rw [Int.add_mul,Int.one_mul] at this
  omega
 have hst:=LSt.start (A:=nv ra.X n) (B:=nv rb.X m) (D:=D) hyu.1 hyx
 have hxu:x < 18446744073709551616:=x4.2
 refine Sq (Rl [_] (wl H (Ez.asn H rfl) rfl (kW (kS (kR [_,_,_] (kA rfl rfl (kA rfl rfl (kA rfl rfl (kW (kS (kR [_,_,_] (kA rfl rfl (kA rfl rfl (kA rfl rfl (kW (kS ?_))))))))))))))));clear H a;intro a H
 refine Wb ?_
 refine Qo (fun mm a w=>∃(a1 a2 u0 u1 u2 v0 v1 v2:Int) (e:Bool),mm=a2.toNat/\Hd a 137 [] [(4,.int .u64 u0),(5,.int .u64 u1),(6,.int .u64 v0),(7,.int .u64 v1),(8,.bool e),(9,.int .u64 a1),(10,.int .u64 a2),(11,.int .u64 u2),(12,.int .u64 v2)]/\LSt (nv ra.X n) (nv rb.X m) D x y a1 a2 u1 u2 v1 v2 e/\LS (nv ra.X n) (nv rb.X m) u0 u1 v0 v1 e/\U64 a1/\U64 u2/\v2 < 18446744073709551616/\Cd w0 w) (y.toNat) ?_ ?_
 ·replace H:Hd a 137 [] [(4,_),(5,_),(6,_),(7,_),(8,_),(9,_),(10,_),(11,_),(12,_)]:=H.pick [4,5,6,7,8,9,10,11,12]
  exact ⟨x,y,0,1,0,0,0,1,false,rfl,H,hst,⟨⟨by decide,by decide⟩,⟨by decide,by decide⟩,⟨by decide,by decide⟩,⟨by decide,by decide⟩,fun h=>absurd rfl h⟩,⟨by omega,hxu⟩,⟨by decide,by decide⟩,by decide,hC⟩
 clear H a
 intro mm a w hI
 clear hC
 obtain ⟨a1,a2,u0,u1,u2,v0,v1,v2,e,hmm,H,hs,hls,ha1,hu2,hv2,hC⟩:=hI
 obtain ⟨wL,rfl⟩:∃wL,wL=w:=⟨w,rfl⟩
 have g1:=hs.a21;have g2:=hs.a2p;have g3:=hs.v2p;have g4:=hs.v1p;have g5:=hs.u1p
 have g6:=hls.2.1;have g7:=hls.2.2.2.1
 unfold U64 at ha1 g6 g7
 refine Sq (Sq ?_)
 by_cases ht:v2<=a2
 ·have hvx:=(hs.le ht).2
  refine Rl [_,_,_,_,_,_,_,_,_,_,_,_] (wl H (Ez.mv H rfl) rfl (kM rfl rfl (kL (fun a H=>Ez.geq (r:=true) H rfl rfl (by (simp;omega))) rfl (kM rfl rfl (kG (fun a H=>Ez.mv H rfl) rfl rfl rfl rfl rfl (kG (fun a H=>Ez.mv H rfl) rfl rfl rfl rfl rfl (kG (fun a H=>Ez.subU (r:=(a1 - a2)) H rfl rfl (by omega)) rfl rfl rfl rfl rfl (kG (fun a H=>Ez.mv H rfl) rfl rfl rfl rfl rfl (kG (fun a H=>Ez.mv H rfl) rfl rfl rfl rfl rfl (kG (fun a H=>Ez.addU (r:=(v1+v2)) H rfl rfl (by omega)) rfl rfl rfl rfl rfl (kG (fun a H=>Ez.geq H rfl rfl (rfl)) rfl rfl rfl rfl rfl (kL (fun a H=>Ez.pkT H rfl rfl) rfl (kP [(4,_),(5,_),(6,_),(7,_),(8,_),(9,_),(10,_),(11,_),(12,_),(112,_)] rfl (kW ?_))))))))))))));clear H a;intro a H
  refine Cs (H.o rfl) (fun hb2=>?_) (fun hb2=>?_)
  ·have ht2:v1+v2<=a1 - a2:=Dt hb2
   obtain ⟨h1,hq1,hvx2,hux2⟩:=hs.step ht
   have hls':=hs.out hD0 x5 hyv x6 hβ ht ht2 hxu
   have hm1:=En a1 (show a2≠0 by omega)
   have hm2:=El a1 (show 0 < a2 by omega)
   have hqa:a1 / a2<=a1:=Int.ediv_le_self a2 (by omega)
   have hw64:IntKind.u64.wrap (a1 / a2)=a1 / a2:=by rw [Wu];exact Int.emod_eq_of_lt (by omega) (by omega)
   have hpu:=Mn (show 0<=a1 / a2 by omega) hu2.1
   have hpv:=Mn (show 0<=a1 / a2 by omega) (show 0<=v2 by omega)
   refine Wk0 (thn (Wb (Sq (Qr (ls:= [_,_,_,_,_,_,_,_]) Qb (by kernel_rfl) (wq H (fun w2 hw2=>Ez.mv H rfl) rfl (jM rfl rfl (jL (fun a H w2 hw2=>Ez.quo H rfl rfl (by omega) (by omega) hw64 rfl) rfl (jM rfl rfl (jM rfl rfl (jL (fun a H w2 hw2=>Ez.rem H rfl rfl (by omega) (by omega) rfl) rfl (jA rfl rfl (jA rfl rfl ?_))))))))))));clear H a;intro a H
   refine wqe ?_
   intro w1 hw
   have hC:=hC.trans hw
   clear hw
   refine kP [(4,_),(5,_),(6,_),(7,_),(8,_),(9,_),(10,_),(11,_),(12,_),(16,_),(17,_)] rfl (kS (kR [_,_,_,_] (kM rfl rfl (kM rfl rfl (kA rfl rfl (kA rfl rfl (kP [(4,_),(5,_),(6,_),(7,_),(8,_),(9,_),(10,_),(11,_),(12,_),(16,_)] rfl (kW (kS (kR [_,_,_,_,_,_,_,_,_,_] (kM rfl rfl (kM rfl rfl (kM rfl rfl (kM rfl rfl (kM rfl rfl (kL (fun a H=>Ez.mulU (r:=(a1 / a2*u2)) H rfl rfl (by (exact Int.emod_eq_of_lt hpu (by omega)))) rfl (kL (fun a H=>Ez.addU (r:=(u1+a1 / a2*u2)) H rfl rfl (by omega)) rfl (kA rfl rfl (kA rfl rfl (kA rfl rfl (kP [(4,_),(5,_),(6,_),(7,_),(8,_),(9,_),(10,_),(11,_),(12,_),(16,_)] rfl (kW (kS (kR [_,_,_,_,_,_,_,_,_,_] (kM rfl rfl (kM rfl rfl (kM rfl rfl ?_))))))))))))))))))))))))))) a H;clear H a;intro a H
   refine wl H (Ez.mv H rfl) rfl (kM rfl rfl (kL (fun a H=>Ez.mulU (r:=(a1 / a2*v2)) H rfl rfl (by (exact Int.emod_eq_of_lt hpv (by omega)))) rfl (kL (fun a H=>Ez.addU (r:=(v1+a1 / a2*v2)) H rfl rfl (by omega)) rfl (kA rfl rfl (kA rfl rfl (kA rfl rfl (kP [(4,_),(5,_),(6,_),(7,_),(8,_),(9,_),(10,_),(11,_),(12,_)] rfl (kW (kR [_,_,_] (kM rfl rfl (kL (fun a H=>Ez.not H rfl rfl) rfl (kA rfl rfl (kP [(4,_),(5,_),(6,_),(7,_),(8,_),(9,_),(10,_),(11,_),(12,_)] rfl ?_)))))))))))));clear H a;intro a H
   refine Wn ?_
   refine bn (thn ?_)
   replace H:Hd a 137 [] [(4,_),(5,_),(6,_),(7,_),(8,_),(9,_),(10,_),(11,_),(12,_)]:=H.pick [4,5,6,7,8,9,10,11,12]
   exact ⟨(a1 % a2).toNat,by omega,a2,a1 % a2,u1,u2,u1+a1 / a2*u2,v1,v2,v1+a1 / a2*v2,!e,rfl,H,h1,hls',⟨by omega,by omega⟩,⟨h1.u2p,by omega⟩,by omega,hC⟩
  refine We (thx (thx (bxe (thn (Wr ?_)))))
  refine rt5 H rfl rfl rfl rfl rfl rfl ?_
  refine ⟨u0,u1,v0,v1,e,rfl,by rw [<-hn,<-hm];exact hls,hC⟩
 refine Rl [_,_,_,_,_,_,_,_,_,_,_,_] (wl H (Ez.mv H rfl) rfl (kM rfl rfl (kL (fun a H=>Ez.geq (r:=false) H rfl rfl (by (simp;omega))) rfl (kM rfl rfl (kX rfl rfl rfl rfl rfl (kX rfl rfl rfl rfl rfl (kX rfl rfl rfl rfl rfl (kX rfl rfl rfl rfl rfl (kX rfl rfl rfl rfl rfl (kX rfl rfl rfl rfl rfl (kX rfl rfl rfl rfl rfl (kL (fun a H=>Ez.pkF H rfl rfl) rfl (kP [(4,_),(5,_),(6,_),(7,_),(8,_),(9,_),(10,_),(11,_),(12,_),(112,_)] rfl (kW ?_))))))))))))));clear H a;intro a H
 refine Cf (H.o rfl) (We (thx (thx (bxe (thn (Wr ?_))))))
 refine rt5 H rfl rfl rfl rfl rfl rfl ?_
 refine ⟨u0,u1,v0,v1,e,rfl,by rw [<-hn,<-hm];exact hls,hC⟩
end
section
set_option maxRecDepth 8000
theorem Ih.upd' {B m i:Nat} {pp:Nat->Nat} {F:Nat->IR} {w w':World} {r:IR} (h:Ih B m w pp F) (hi:i < m) (hz:Zr w w' (pp i) (F i) r):∃F',Ih B m w' pp F'/\F' i=r/\(∀j,j≠i->F' j=F j)/\Fr (Hi B) w w':=
 ⟨ui F i r,(h.upd hi hz).1,ui_eq _ _ _,fun j hj=>Ka hj,(h.upd hi hz).2⟩
theorem Fr.glob {B:Nat} {w w':World} (h:Fr (Hi B) w w') {k:Nat} {v:Value} (hk:k < B) (hc:w.cell? ⟨k,0,none⟩=some v):w'.cell? ⟨k,0,none⟩=some v:=h.someCell hc (fun e=>by have:B<=k:=e;omega)
theorem IR.pos {r:IR} (hu:∀j,j < r.n->U64 (r.X j)) (h:0 < r.v):r.s=false/\nv r.X r.n=r.v:=by
 unfold IR.v at*
 cases hs:r.s with
 | false=>rw [hs] at h;simp
 | true=>rw [hs] at h;simp at h;have:=Q5 r.n hu;omega
theorem Ib.u {w:World} {p:Nat} {r:IR} (h:Ib w p r):∀j,j < r.n->U64 (r.X j):=fun j hj=>h.sl.u (by have:=h.sl.le;omega)
theorem Ib.abs_le {w:World} {p:Nat} {r:IR} (h:Ib w p r) {k:Nat} (hv:-(BB ^ k) < r.v/\r.v < BB ^ k):r.n<=k:=by
 refine len_le h.u h.nm ?_
 unfold IR.v at hv
 cases hs:r.s <;> rw [hs] at hv <;> simp at hv <;> omega
theorem lehmerUpd (B m:Nat) (p:Nat->Nat) (F:Nat->IR) (ia ib iq ir:Nat) (u0 u1 v0 v1:Int) (E:Bool) (w:World) (h:Ih B m w p F) (ha:ia < m) (hb:ib < m) (hq:iq < m) (hr:ir < m) (hab:ia≠ib) (haq:ia≠iq) (har:ia≠ir) (hbq:ib≠iq) (hbr:ib≠ir) (hqr:iq≠ir) (hu0:U64 u0) (hu1:U64 u1) (hv0:U64 v0) (hv1:U64 v1) (hna:(F ia).n < 500) (hnb:(F ib).n < 500):
 Calls Tryz.prog 104 #[.pointer (some ⟨p ia,0,none⟩),.pointer (some ⟨p ib,0,none⟩),.pointer (some ⟨p iq,0,none⟩),.pointer (some ⟨p ir,0,none⟩),.int .u64 u0,.int .u64 u1,.int .u64 v0,.int .u64 v1,.bool E] w fun e w'=>∃F',e=.returned (.tuple #[])/\Ih B m w' p F'/\(∀j,j≠ia->j≠ib->j≠iq->j≠ir->F' j=F j)/\(F' ia).v=-sg E*(u0*(F ia).v - v0*(F ib).v)/\(F' ib).v=-sg E*(v1*(F ib).v - u1*(F ia).v)/\(F' ia).n<=max (F ia).n (F ib).n+2/\(F' ib).n<=max (F ia).n (F ib).n+2/\Fr (Hi B) w w':=by
 refine Qd (vs:= [.pointer (some ⟨p ia,0,none⟩),.pointer (some ⟨p ib,0,none⟩),.pointer (some ⟨p iq,0,none⟩),.pointer (some ⟨p ir,0,none⟩),.int .u64 u0,.int .u64 u1,.int .u64 v0,.int .u64 v1,.bool E]) Tryz.func104 rfl rfl ?_
 intro a H
 replace H:Hd a 48 [] [(0,.pointer (some ⟨p ia,0,none⟩)),(1,.pointer (some ⟨p ib,0,none⟩)),(2,.pointer (some ⟨p iq,0,none⟩)),(3,.pointer (some ⟨p ir,0,none⟩)),(4,.int .u64 u0),(5,.int .u64 u1),(6,.int .u64 v0),(7,.int .u64 v1),(8,.bool E)]:=H
 refine Sq (Rl [_,_,_,_,_] (wl H (Ez.mv H rfl) rfl (kM rfl rfl (kM rfl rfl (kM rfl rfl ?_)))));clear H a;intro a H
 refine wk H cf106 (intMulW (p iq) (p ib) E v0 (F iq) (F ib) w (h.ib iq hq) (h.ib ib hb) (by omega) hv0) rfl rfl ?_
 rintro _ w1 ⟨r1,rfl,k1,k1v,k1n,_⟩
 refine ⟨_,rfl,?_⟩;clear H a;intro a H
 obtain ⟨F1,h1,e1,o1,f1⟩:=h.upd' hq k1
 obtain ⟨wA,rfl⟩:∃wA,wA=w1:=⟨w1,rfl⟩
 have a1:=o1 ia haq;have b1:=o1 ib hbq;have c1:=o1 ir (Ne.symm hqr)
 refine kP [(0,_),(1,_),(2,_),(3,_),(4,_),(5,_),(7,_),(8,_)] rfl (kW (kS (kR [_,_,_,_,_] (kM rfl rfl (kM rfl rfl (kM rfl rfl (kM rfl rfl ?_))))))) a H;clear H a;intro a H
 refine wk H cf106 (intMulW (p ir) (p ia) E u1 (F1 ir) (F1 ia) wA (h1.ib ir hr) (h1.ib ia ha) (by rw [a1];omega) hu1) rfl rfl ?_
 rintro _ w1 ⟨r2,rfl,k2,k2v,k2n,_⟩
 refine ⟨_,rfl,?_⟩;clear H a;intro a H
 rw [a1] at k2v k2n
 obtain ⟨F2,h2,e2,o2,f2⟩:=h1.upd' hr k2
 obtain ⟨wB,rfl⟩:∃wB,wB=w1:=⟨w1,rfl⟩
 have a2:=(o2 ia har).trans a1;have b2:=(o2 ib hbr).trans b1;have q2:=(o2 iq hqr).trans e1
 refine kP [(0,_),(1,_),(2,_),(3,_),(4,_),(7,_),(8,_)] rfl (kW (kS (kR [_,_,_,_,_,_] (kM rfl rfl (kM rfl rfl (kM rfl rfl (kL (fun a H=>Ez.not H rfl rfl) rfl (kM rfl rfl ?_)))))))) a H;clear H a;intro a H
 refine wk H cf106 (intMulW (p ia) (p ia) (!E) u0 (F2 ia) (F2 ia) wB (h2.ib ia ha) (h2.ib ia ha) (by rw [a2];omega) hu0) rfl rfl ?_
 rintro _ w1 ⟨r3,rfl,k3,k3v,k3n,_⟩
 refine ⟨_,rfl,?_⟩;clear H a;intro a H
 rw [a2] at k3v k3n
 obtain ⟨F3,h3,e3,o3,f3⟩:=h2.upd' ha k3
 obtain ⟨wC,rfl⟩:∃wC,wC=w1:=⟨w1,rfl⟩
 have b3:=(o3 ib (Ne.symm hab)).trans b2;have q3:=(o3 iq (Ne.symm haq)).trans q2;have r3':=(o3 ir (Ne.symm har)).trans e2
 refine kP [(0,_),(1,_),(2,_),(3,_),(7,_),(8,_)] rfl (kW (kS (kR [_,_,_,_,_,_] (kM rfl rfl (kM rfl rfl (kM rfl rfl (kL (fun a H=>Ez.not H rfl rfl) rfl (kM rfl rfl ?_)))))))) a H;clear H a;intro a H
 refine wk H cf106 (intMulW (p ib) (p ib) (!E) v1 (F3 ib) (F3 ib) wC (h3.ib ib hb) (h3.ib ib hb) (by rw [b3];omega) hv1) rfl rfl ?_
 rintro _ w1 ⟨r4,rfl,k4,k4v,k4n,_⟩
 refine ⟨_,rfl,?_⟩;clear H a;intro a H
 rw [b3] at k4v k4n
 obtain ⟨F4,h4,e4,o4,f4⟩:=h3.upd' hb k4
 obtain ⟨wD,rfl⟩:∃wD,wD=w1:=⟨w1,rfl⟩
 have a4:=(o4 ia hab).trans e3;have q4:=(o4 iq (Ne.symm hbq)).trans q3;have r4':=(o4 ir (Ne.symm hbr)).trans r3'
 refine kP [(0,_),(1,_),(2,_),(3,_)] rfl (kW (kS (kR [_,_,_,_] (kM rfl rfl (kM rfl rfl (kM rfl rfl ?_)))))) a H;clear H a;intro a H
 refine wk H cf75 (intAdd (p ia) (p ia) (p iq) (F4 ia) (F4 ia) (F4 iq) wD (h4.ib ia ha) (h4.ib ia ha) (h4.ib iq hq) (by rw [a4];omega) (by rw [q4];omega)) rfl rfl ?_
 rintro _ w1 ⟨r5,rfl,k5,k5v,k5n⟩
 refine ⟨_,rfl,?_⟩;clear H a;intro a H
 rw [a4,q4] at k5v k5n
 obtain ⟨F5,h5,e5,o5,f5⟩:=h4.upd' ha k5
 obtain ⟨wE,rfl⟩:∃wE,wE=w1:=⟨w1,rfl⟩
 have b5:=(o5 ib (Ne.symm hab)).trans e4;have r5':=(o5 ir (Ne.symm har)).trans r4'
 refine kP [(1,_),(3,_)] rfl (kW (kR [_,_,_,_] (kM rfl rfl (kM rfl rfl (kM rfl rfl ?_))))) a H;clear H a;intro a H
 refine wk H cf75 (intAdd (p ib) (p ib) (p ir) (F5 ib) (F5 ib) (F5 ir) wE (h5.ib ib hb) (h5.ib ib hb) (h5.ib ir hr) (by rw [b5];omega) (by rw [r5'];omega)) rfl rfl ?_
 rintro _ w1 ⟨r6,rfl,k6,k6v,k6n⟩
 refine ⟨_,rfl,?_⟩;clear H a;intro a H
 rw [b5,r5'] at k6v k6n
 obtain ⟨F6,h6,e6,o6,f6⟩:=h5.upd' hb k6
 replace H:Hd a 48 [] []:=H.pick []
 refine Wn ?_
 refine rtn0 H rfl ?_
 refine ⟨F6,rfl,h6,fun j j1 j2 j3 j4=>?_,?_,?_,?_,?_,((((f1.trans f2).trans f3).trans f4).trans f5).trans f6⟩
 ·rw [o6 j j2,o5 j j1,o4 j j2,o3 j j1,o2 j j4,o1 j j3]
 ·rw [o6 ia hab,e5,k5v,k3v,k1v,sg_not];grind
 ·rw [e6,k6v,k4v,k2v,sg_not];grind
 ·rw [o6 ia hab,e5];omega
 rw [e6];omega
theorem euclidUpd (B m:Nat) (p:Nat->Nat) (F:Nat->IR) (ia ib iu iv iq ir:Nat) (w:World) (h:Ih B m w p F) (hB5:4 < B) (ha:ia < m) (hb:ib < m) (hu:iu < m) (hv:iv < m) (hq:iq < m) (hr:ir < m) (hab:ia≠ib) (haq:ia≠iq) (har:ia≠ir) (hbq:ib≠iq) (hbr:ib≠ir) (hqr:iq≠ir) (huq:iu≠iq) (hur:iu≠ir) (hvq:iv≠iq) (hvr:iv≠ir) (hg1:w.cell? ⟨1,0,none⟩=some (.int .i64 40)) (hg4:w.cell? ⟨4,0,none⟩=some (.int .i64 40)) (hn:1<=(F ib).n) (hn4:(F ib).n<=4) (hna:(F ia).n < 30) (hnu:(F iu).n < 40) (hnv:(F iv).n < 40) (has:(F ia).s=false) (hbs:(F ib).s=false):
 Calls Tryz.prog 105 #[.pointer (some ⟨p ia,0,none⟩),.pointer (some ⟨p ib,0,none⟩),.pointer (some ⟨p iu,0,none⟩),.pointer (some ⟨p iv,0,none⟩),.pointer (some ⟨p iq,0,none⟩),.pointer (some ⟨p ir,0,none⟩),.bool true] w fun e w'=>∃F' q,e=.returned (.tuple #[.pointer (some ⟨p ib,0,none⟩),.pointer (some ⟨p ir,0,none⟩),.pointer (some ⟨p ia,0,none⟩),.pointer (some ⟨p iv,0,none⟩),.pointer (some ⟨p iu,0,none⟩)])/\Ih B m w' p F'/\(∀j,j≠iq->j≠ir->j≠iu->F' j=F j)/\q*(F ib).v+(F' ir).v=(F ia).v/\(0<=(F' ir).v/\(F' ir).v < (F ib).v)/\(F' ir).s=false/\(F' ir).n<=(F ib).n/\(F' iu).v=(F iu).v - q*(F iv).v/\(F' iu).n<=100/\Fr (Hi B) w w':=by
 refine Qd (vs:= [.pointer (some ⟨p ia,0,none⟩),.pointer (some ⟨p ib,0,none⟩),.pointer (some ⟨p iu,0,none⟩),.pointer (some ⟨p iv,0,none⟩),.pointer (some ⟨p iq,0,none⟩),.pointer (some ⟨p ir,0,none⟩),.bool true]) Tryz.func105 rfl rfl ?_
 intro a H
 replace H:Hd a 40 [] [(0,.pointer (some ⟨p ia,0,none⟩)),(1,.pointer (some ⟨p ib,0,none⟩)),(2,.pointer (some ⟨p iu,0,none⟩)),(3,.pointer (some ⟨p iv,0,none⟩)),(4,.pointer (some ⟨p iq,0,none⟩)),(5,.pointer (some ⟨p ir,0,none⟩)),(6,.bool true)]:=H
 refine Sq (Rl [_,_,_,_,_] (wl H (Ez.asn H rfl) rfl (kA rfl rfl (kA rfl rfl (kA rfl rfl (kA rfl rfl (kW (kS (kR [_,_,_,_,_] (kM rfl rfl (kM rfl rfl (kM rfl rfl (kM rfl rfl ?_)))))))))))));clear H a;intro a H
 refine wk H cf86 (intQuoRem (p iq) (p ia) (p ib) (p ir) (F iq) (F ia) (F ib) (F ir) w (h.ib iq hq) (h.ib ia ha) (h.ib ib hb) (h.ib ir hr) (h.ne iq hq ir hr hqr) hg1 (h.dj iq hq ir hr hqr) (h.dj ir hr ia ha (Ne.symm har)) (h.dj ir hr ib hb (Ne.symm hbr)) hn hn4 (by omega) (h.ne ia ha iq hq haq) (h.ne ia ha ir hr har) (h.ne ib hb iq hq hbq) (h.ne ib hb ir hr hbr) has hbs) rfl rfl ?_
 rintro _ w1 ⟨rq,rr,rfl,d1,d2,d3,d4,d5,d6,d7,d8,d9,d10,d11,d12⟩
 refine ⟨_,rfl,?_⟩;clear H a;intro a H
 obtain ⟨h1,f1⟩:=h.upd2 hq hr hqr d1 d2 d3 d4 d5 d12
 obtain ⟨F1,hF1⟩:∃F1,F1=ui (ui F iq rq) ir rr:=⟨_,rfl⟩
 rw [<-hF1] at h1
 have q1:F1 iq=rq:=by rw [hF1,Ka hqr,ui_eq]
 have r1:F1 ir=rr:=by rw [hF1,ui_eq]
 have o1:∀j,j≠iq->j≠ir->F1 j=F j:=fun j h1 h2=>by rw [hF1,Ka h2,Ka h1]
 clear hF1
 have v1:=o1 iv hvq hvr;have u1:=o1 iu huq hur
 obtain ⟨wA,rfl⟩:∃wA,wA=w1:=⟨w1,rfl⟩
 refine kP [(0,_),(1,_),(2,_),(3,_),(4,_),(5,_),(6,_),(14,_),(15,_),(16,_),(17,_),(18,_)] rfl (kW (kS (kS (kR [_] (kM rfl rfl (kP [(0,_),(1,_),(2,_),(3,_),(4,_),(5,_),(14,_),(15,_),(16,_),(17,_),(18,_),(24,_)] rfl (kW ?_))))))) a H;clear H a;intro a H
 refine Ct (H.o rfl) (Sq (Rl [_,_,_,_] (wl H (Ez.mv H rfl) rfl (kM rfl rfl (kM rfl rfl ?_)))));clear H a;intro a H
 refine wk H cf107 (intMul (p iq) (p iq) (p iv) (F1 iq) (F1 iq) (F1 iv) wA (h1.ib iq hq) (h1.ib iq hq) (h1.ib iv hv) (h.ne iq hq iv hv (Ne.symm hvq)) (f1.glob (by omega) hg4) (by rw [q1];omega) (by rw [v1];omega)) rfl rfl ?_
 rintro _ w1 ⟨r2,rfl,k2,k2v,k2n⟩
 refine ⟨_,rfl,?_⟩;clear H a;intro a H
 rw [q1,v1] at k2v k2n
 obtain ⟨F2,h2,e2,o2,f2⟩:=h1.upd' hq k2
 obtain ⟨wB,rfl⟩:∃wB,wB=w1:=⟨w1,rfl⟩
 have u2:=(o2 iu huq).trans u1
 refine kP [(0,_),(1,_),(2,_),(3,_),(4,_),(5,_),(14,_),(15,_),(16,_),(17,_),(18,_)] rfl (kW (kS (kR [_,_,_,_] (kM rfl rfl (kM rfl rfl (kA rfl rfl (kA rfl rfl (kP [(0,_),(1,_),(2,_),(3,_),(4,_),(5,_),(14,_),(15,_),(16,_),(17,_),(18,_)] rfl (kW (kR [_,_,_,_] (kM rfl rfl (kM rfl rfl (kM rfl rfl ?_))))))))))))) a H;clear H a;intro a H
 refine wk H cf87 (intSub (p iu) (p iu) (p iq) (F2 iu) (F2 iu) (F2 iq) wB (h2.ib iu hu) (h2.ib iu hu) (h2.ib iq hq) (by rw [u2];omega) (by rw [e2];omega)) rfl rfl ?_
 rintro _ w1 ⟨r3,rfl,k3,k3v,k3n⟩
 refine ⟨_,rfl,?_⟩;clear H a;intro a H
 rw [u2,e2] at k3v k3n
 obtain ⟨F3,h3,e3,o3,f3⟩:=h2.upd' hu k3
 refine kP [(0,_),(1,_),(2,_),(3,_),(5,_),(14,_),(15,_),(16,_),(17,_),(18,_)] rfl (kW (kS (kR [_,_,_,_,_,_,_,_,_,_] (kM rfl rfl (kM rfl rfl (kM rfl rfl (kM rfl rfl (kM rfl rfl (kA rfl rfl (kA rfl rfl (kA rfl rfl (kA rfl rfl (kA rfl rfl (kP [(14,_),(15,_),(16,_),(17,_),(18,_)] rfl (kW ?_))))))))))))))) a H;clear H a;intro a H
 refine Wr ?_
 refine rt5 H rfl rfl rfl rfl rfl rfl ?_
 have hAv:(F ia).v=nv (F ia).X (F ia).n:=by unfold IR.v;rw [has];simp
 have hBv:(F ib).v=nv (F ib).X (F ib).n:=by unfold IR.v;rw [hbs];simp
 have hRv:rr.v=nv rr.X rr.n:=by unfold IR.v;rw [d11];simp
 have hQv:rq.v=nv rq.X rq.n:=by unfold IR.v;rw [d10];simp
 have hr0:=Q5 rr.n d2.u
 have er:F3 ir=rr:=by rw [o3 ir (Ne.symm hur),o2 ir (Ne.symm hqr),r1]
 refine ⟨F3,rq.v,rfl,h3,fun j j1 j2 j3=>?_,?_,?_,?_,?_,?_,?_,(f1.trans f2).trans f3⟩
 ·rw [o3 j j3,o2 j j1,o1 j j1 j2]
 ·rw [er,hAv,hBv,hRv,hQv];exact d8
 ·rw [er,hRv,hBv];exact ⟨hr0,d9⟩
 ·rw [er];exact d11
 ·rw [er];exact d7
 ·rw [e3,k3v,k2v]
 rw [e3];omega
end
section
set_option maxRecDepth 8000
theorem sg_or (e:Bool) {t n:Int} (h:t=n\/t=-n):-sg e*t=n\/-sg e*t=-n:=by
 cases e <;> simp only [sg] <;> simp <;> omega
theorem sg_pm (e:Bool) {a b:Int} (h:(0<=a/\b<=0)\/(a<=0/\0<=b)):(0<=-sg e*a/\-sg e*b<=0)\/(-sg e*a<=0/\0<=-sg e*b):=by
 cases e <;> simp only [sg] <;> simp <;> omega
theorem sg_abs (e:Bool) {t n:Int} (h:-n<=t/\t<=n):-n<=sg e*t/\sg e*t<=n:=by
 cases e <;> simp only [sg] <;> simp <;> omega
structure Inv (a n A B U V:Int):Prop where
 bp:0<=B
 ba:B < A
 an:A<=n
 ma:n∣A - U*a
 mb:n∣B - V*a
 det:U*B - V*A=n\/U*B - V*A=-n
 sgn:(0<=U/\V<=0)\/(U<=0/\0<=V)
 gcd:∀d,d∣A->d∣B->d∣n/\d∣a
 ub:-n<=U/\U<=n
 vb:-n<=V/\V<=n
section
variable {a n A B U V:Int}
theorem Inv.start (h:0 < a/\a < n):Inv a n n a 0 1:=
 ⟨by omega,h.2,Int.le_refl _,by simp,by simp,.inr (by omega),.inr ⟨by omega,by omega⟩,fun d h1 h2=>⟨h1,h2⟩,by omega,by omega⟩
theorem bound_of {n A B U V:Int} (hB:0<=B) (hA:0 < A) (det:U*B - V*A=n\/U*B - V*A=-n) (hn:0 < n) (sgn:(0<=U/\V<=0)\/(U<=0/\0<=V)):(-n<=V/\V<=n)/\(0 < B->-n<=U/\U<=n):=by
 have key:∀U V:Int,0<=U->V<=0->(U*B - V*A=n\/U*B - V*A=-n)->(-n<=V/\V<=0)/\(0 < B->U<=n):=by
  intro U V hU hV hd
  have p1:=Mn hU hB
  have p2:=Ml (show 1<=A by omega) (show 0<=-V by omega)
  rw [Int.neg_mul,Int.neg_mul,Int.mul_one] at p2
  refine ⟨⟨?_,hV⟩,fun hB=>?_⟩
  ·rcases hd with h | h
   ·omega
   have:=Mn (show 0<=-V by omega) (show 0<=A by omega)
   rw [Int.neg_mul] at this;omega
  have p3:=Ml (show 1<=B by omega) hU
  have p4:=Mn (show 0<=-V by omega) (show 0<=A by omega)
  rw [Int.neg_mul] at p4
  rcases hd with h | h <;> omega
 rcases sgn with ⟨h1,h2⟩ | ⟨h1,h2⟩
 ·obtain ⟨k1,k2⟩:=key U V h1 h2 det
  exact ⟨by omega,fun h=>by have:=k2 h;omega⟩
 obtain ⟨k1,k2⟩:=key (-U) (-V) (by omega) (by omega) (by rw [Int.neg_mul,Int.neg_mul];omega)
 exact ⟨by omega,fun h=>by have:=k2 h;omega⟩
theorem Inv.euclid {q r:Int} (h:Inv a n A B U V) (hB:0 < B) (hq:q*B+r=A) (hr:0<=r/\r < B):Inv a n B r V (U - q*V):=by
 have hq0:0<=q:=by
  by_cases h0:0<=q
  ·exact h0
  have:=Mr (show q<=-1 by omega) (Int.le_of_lt hB)
  have:=h.ba;omega
 have hdet:V*r - (U - q*V)*B=n\/V*r - (U - q*V)*B=-n:=by
  have e:V*r - (U - q*V)*B=-(U*B - V*A):=by rw [<-hq];grind
  rw [e];have:=h.det;omega
 have hs:(0<=V/\U - q*V<=0)\/(V<=0/\0<=U - q*V):=by
  rcases h.sgn with ⟨h1,h2⟩ | ⟨h1,h2⟩
  ·have:=Mn hq0 (show 0<=-V by omega)
   rw [Int.mul_neg] at this
   exact .inr ⟨h2,by omega⟩
  have:=Mn hq0 h2
  exact .inl ⟨h2,by omega⟩
 have hn:0 < n:=by have:=h.ba;have:=h.an;omega
 refine ⟨hr.1,hr.2,by have:=h.ba;have:=h.an;omega,h.mb,?_,hdet,hs,fun d h1 h2=>?_,h.vb,(bound_of hr.1 hB hdet hn hs).1⟩
 ·have e:r - (U - q*V)*a=(A - U*a) - q*(B - V*a):=by rw [<-hq];grind
  rw [e];exact Int.dvd_sub h.ma (Dm h.mb)
 exact h.gcd d (by rw [<-hq];exact Int.dvd_add (Dm h1) h2) h1
theorem Inv.lehmer {u0 u1 v0 v1:Int} {e:Bool} (h:Inv a n A B U V) (hl:LS A B u0 u1 v0 v1 e) (hv:v0≠0):
 Inv a n (-sg e*(u0*A - v0*B)) (-sg e*(v1*B - u1*A)) (-sg e*(u0*U - v0*V)) (-sg e*(v1*V - u1*U))/\-sg e*(u0*A - v0*B)+-sg e*(v1*B - u1*A) < A+B:=by
 obtain ⟨hu0,hu1,hv0,hv1,hh⟩:=hl
 obtain ⟨A',B',hA',hB',h1,h2,h3,h4,h5,h6,h7⟩:=hh hv
 clear hh
 rw [<-hA',<-hB']
 have hsq:=sg_sq e
 have v0p:1<=v0:=by have:=hv0.1;omega
 have p1:=Mr h5 (show 0<=A' by omega)
 have p2:=Mr v0p (show 0<=B' by omega)
 rw [Int.one_mul] at p1 p2
 have hlt:A'+B' < A+B:=by
  have p3:=Mr h6 (show 0<=A' by omega)
  have p4:=Mn hu0.1 (show 0<=B' by omega)
  omega
 have hdet:(-sg e*(u0*U - v0*V))*B' - (-sg e*(v1*V - u1*U))*A'=n\/(-sg e*(u0*U - v0*V))*B' - (-sg e*(v1*V - u1*U))*A'=-n:=by
  have e1:(-sg e*(u0*U - v0*V))*B' - (-sg e*(v1*V - u1*U))*A'=-sg e*(U*B - V*A):=by rw [<-h3,<-h4];grind
  rw [e1]
  exact sg_or e h.det
 have hs:(0<=-sg e*(u0*U - v0*V)/\-sg e*(v1*V - u1*U)<=0)\/(-sg e*(u0*U - v0*V)<=0/\0<=-sg e*(v1*V - u1*U)):=by
  have key:(0<=u0*U - v0*V/\v1*V - u1*U<=0)\/(u0*U - v0*V<=0/\0<=v1*V - u1*U):=by
   rcases h.sgn with ⟨g1,g2⟩ | ⟨g1,g2⟩
   ·have q1:=Mn hu0.1 g1
    have q2:=Mn hv0.1 (show 0<=-V by omega)
    have q3:=Mn hv1.1 (show 0<=-V by omega)
    have q4:=Mn hu1.1 g1
    rw [Int.mul_neg] at q2 q3
    exact .inl ⟨by omega,by omega⟩
   have q1:=Mn hu0.1 (show 0<=-U by omega)
   have q2:=Mn hv0.1 g2
   have q3:=Mn hv1.1 g2
   have q4:=Mn hu1.1 (show 0<=-U by omega)
   rw [Int.mul_neg] at q1 q4
   exact .inr ⟨by omega,by omega⟩
  exact sg_pm e key
 have hn:0 < n:=by have:=h.ba;have:=h.bp;have:=h.an;omega
 have hb:=bound_of (Int.le_of_lt h1) (by omega) hdet hn hs
 refine ⟨⟨by omega,h2,by have:=h.an;have:=h.ba;omega,?_,?_,hdet,hs,fun d d1 d2=>?_,hb.2 h1,hb.1⟩,hlt⟩
 ·have e1:A' - (-sg e*(u0*U - v0*V))*a=-sg e*(u0*(A - U*a) - v0*(B - V*a)):=by rw [hA'];grind
  rw [e1];exact Dm (Int.dvd_sub (Dm h.ma) (Dm h.mb))
 ·have e1:B' - (-sg e*(v1*V - u1*U))*a=-sg e*(v1*(B - V*a) - u1*(A - U*a)):=by rw [hB'];grind
  rw [e1];exact Dm (Int.dvd_sub (Dm h.mb) (Dm h.ma))
 exact h.gcd d (by rw [<-h3];exact Int.dvd_add (Dm d1) (Dm d2)) (by rw [<-h4];exact Int.dvd_add (Dm d1) (Dm d2))
def Gx (a n g u:Int):Prop:=0 < g/\g∣n/\g∣a/\n∣g - u*a/\-n<=u/\u<=n
theorem Inv.done (h:Inv a n A 0 U V):Gx a n A U:=by
 obtain ⟨h1,h2⟩:=h.gcd A (Int.dvd_refl _) (Int.dvd_zero _)
 exact ⟨h.ba,h1,h2,h.ma,h.ub.1,h.ub.2⟩
theorem Inv.word {D a1 u1 u2 v1 v2:Int} {e:Bool} (h:Inv a n A B U V) (hs:LSt A B D A B a1 0 u1 u2 v1 v2 e) (ha1:0 < a1) (hu:u1<=u2) (hv:v1<=v2):Gx a n a1 (sg e*U*u1+sg (!e)*V*v1):=by
 have hx:=hs.ux
 have hy:=hs.uy
 rw [Int.mul_zero,Int.add_zero] at hx hy
 obtain ⟨h1,h2⟩:=h.gcd a1 (by rw [hx];exact Int.dvd_mul_left _ _) (by rw [hy];exact Int.dvd_mul_left _ _)
 have hk:=hs.a.1
 have g1:=hs.u1p;have g2:=hs.v1p;have g3:=hs.u2p;have g4:=hs.v2p
 refine ⟨ha1,h1,h2,?_,?_⟩
 ·have e1:a1 - (sg e*U*u1+sg (!e)*V*v1)*a=sg e*(u1*(A - U*a) - v1*(B - V*a)):=by rw [sg_not];grind
  rw [e1];exact Dm (Int.dvd_sub (Dm h.ma) (Dm h.mb))
 have hu1B:u1<=B:=by
  have:=Ml (show 1<=a1 by omega) g3
  omega
 have hv1A:v1<=A:=by
  have:=Ml (show 1<=a1 by omega) (show 0<=v2 by omega)
  omega
 have key:∀U V:Int,0<=U->V<=0->(U*B - V*A=n\/U*B - V*A=-n)->0<=U*u1 - V*v1/\U*u1 - V*v1<=n:=by
  intro U V hU hV hd
  have p1:=Ml hu1B hU
  have p2:=Ml hv1A (show 0<=-V by omega)
  have p3:=Mn hU g1
  have p4:=Mn (show 0<=-V by omega) g2
  have p5:=Mn hU h.bp
  have p6:=Mn (show 0<=-V by omega) (show 0<=A by have:=h.ba;have:=h.bp;omega)
  rw [Int.neg_mul] at p2 p4 p6
  rw [Int.neg_mul] at p2
  have:0 < n:=by have:=h.ba;have:=h.bp;have:=h.an;omega
  rcases hd with hd | hd <;> omega
 have e2:sg e*U*u1+sg (!e)*V*v1=sg e*(U*u1 - V*v1):=by rw [sg_not];grind
 rw [e2]
 rcases h.sgn with ⟨s1,s2⟩ | ⟨s1,s2⟩
 ·have:=key U V s1 s2 h.det
  exact sg_abs e (by omega)
 have:=key (-U) (-V) (by omega) (by omega) (by rw [Int.neg_mul,Int.neg_mul];have:=h.det;omega)
 rw [Int.neg_mul,Int.neg_mul] at this
 exact sg_abs e (by omega)
end
end
section
set_option maxRecDepth 8000
theorem Ez.neN78 {a:Act} {N:Nat} {ds:List Deferred} {l:Env} {w:World} {d:Option Nat} {ty:TypeId} {pos:String} {after:Array Edge} {g:Option (Nat × Bool)} (H:Hd a N ds l) {x y:Operand} {u:TypeId} {q:Option Addr} {r:Bool} (h:ov l x=some (.pointer q)) (h':ov l y=some (.pointer none)) (hr:q.isSome=r):(execOp a.eval ⟨d,.binOp .neq 78 x y u,ty,pos,after,g⟩).run Tryz.prog w=.ok (.value (.bool r)) w:=by
 have e:=H.o h
 have e':=H.o h'
 subst hr
 cases q <;> (simp only [execOp,e,e'];go_simp)
theorem Ih.al {B m:Nat} {w:World} {pp:Nat->Nat} {F:Nat->IR} (h:Ih B m w pp F) (hB:B<=w.heap.size):∃b,b=w.heap.size/\Ih B (m+1) (w.alloc (.cells #[.bool false,.slice none 0 0] 82)) (un pp m b) (ui F m r0)/\Fr (Hi B) w (w.alloc (.cells #[.bool false,.slice none 0 0] 82))/\B<=(w.alloc (.cells #[.bool false,.slice none 0 0] 82)).heap.size:=
 ⟨_,rfl,h.push hB,(Fr.refl _ _).alloc _,Nat.le_trans hB ((Fr.refl NoT w).alloc _).size⟩
theorem Ih.cut {B m k:Nat} {w:World} {pp:Nat->Nat} {F:Nat->IR} (h:Ih B m w pp F) (hk:k<=m):Ih B k w pp F:=
 ⟨fun i hi=>h.ib i (by omega),fun i hi=>h.lo i (by omega),fun i hi=>h.lor i (by omega),fun i hi j hj=>h.ne i (by omega) j (by omega),fun i hi j hj=>h.dj i (by omega) j (by omega)⟩
theorem Ih.congr {B m:Nat} {w:World} {pp pq:Nat->Nat} {F:Nat->IR} (h:Ih B m w pp F) (he:∀i,i < m->pp i=pq i):Ih B m w pq F:=
 ⟨fun i hi=>by rw [<-he i hi];exact h.ib i hi,fun i hi=>by rw [<-he i hi];exact h.lo i hi,h.lor,fun i hi j hj hne=>by rw [<-he i hi,<-he j hj];exact h.ne i hi j hj hne,h.dj⟩
def s1 (i:Nat):Nat:=if i=2 then 3 else if i=3 then 2 else if i=4 then 5 else if i=5 then 4 else i
def s2 (i:Nat):Nat:=if i=2 then 3 else if i=3 then 7 else if i=7 then 2 else if i=4 then 5 else if i=5 then 4 else i
theorem Ih.p1 {B:Nat} {w:World} {pp:Nat->Nat} {F:Nat->IR} (h:Ih B 8 w pp F):Ih B 8 w (fun i=>pp (s1 i)) (fun i=>F (s1 i)):=h.perm s1 (by decide) (by decide)
theorem Ih.p2 {B:Nat} {w:World} {pp:Nat->Nat} {F:Nat->IR} (h:Ih B 8 w pp F):Ih B 8 w (fun i=>pp (s2 i)) (fun i=>F (s2 i)):=h.perm s2 (by decide) (by decide)
theorem Ib.word {w:World} {z b c:Nat} {r:IR} {v:Int} (hz:Ib w z r) (hq:r.q=some ⟨b,0,none⟩) (hW:Wk w b c r.X) (hc:r.c=c) (hn:r.n=1) (hv:U64 v) (hv0:v≠0):
 Zr w (w.setCell ⟨b,0+0,none⟩ (.int .u64 v)) z r ⟨r.s,r.q,r.n,r.c,up r.X (0+0) v⟩:=by
 have hc0:0 < c:=by have:=hz.sl.le;omega
 have hbz:b≠z:=fun e=>hz.sl.neI hz 0 (by rw [hq,Qt];exact e.symm)
 refine ⟨⟨?_,?_,?_⟩,Own.refl _ _,(Fr.refl _ _).setCell (fun _=>.inr (by rw [hq];exact Qt.2 rfl)) _⟩
 ·rw [Below.heap_setCell _ _ _ _ (fun e=>hbz (Eq.symm e))];exact hz.blk
 ·show Sl _ r.q r.n r.c _
  rw [hq,hc]
  exact Sl.of (hW.set (by omega) hv) (by omega) hc0
 show Nm _ r.n
 rw [hn];exact .inr (by simpa [up] using hv0)
theorem IR.v_one {r:IR} (hs:r.s=false) (hn:r.n=1):r.v=r.X 0:=by simp [IR.v,hs,hn,nv]
theorem IR.v_zero {r:IR} (hn:r.n=0):r.v=0:=by simp [IR.v,hn,nv]
theorem IR.v_pos {r:IR} (hu:∀j,j < r.n->U64 (r.X j)) (hN:Nm r.X r.n) (hn:0 < r.n) (h:0<=r.v):0 < r.v:=by
 have h1:=nv_ge hn hu (by rcases hN with h | h;omega;exact h)
 have h2:=Q3 (r.n - 1)
 unfold IR.v at*
 cases hs:r.s <;> rw [hs] at h <;> simp at h ⊢ <;> omega
set_option maxHeartbeats 4000000 in
theorem lehmerGCD (B:Nat) (p0:Nat->Nat) (F0:Nat->IR) (pa pb:Nat) (ra rb:IR) (w:World) (h2:Ih B 2 w p0 F0) (hB5:4 < B) (haI:Ib w pa ra) (hbI:Ib w pb rb) (hpaB:pa < B) (hpbB:pb < B) (hraB:∀k j,TQ ra.q k j->k < B) (hrbB:∀k j,TQ rb.q k j->k < B) (hg1:w.cell? ⟨1,0,none⟩=some (.int .i64 40)) (hg4:w.cell? ⟨4,0,none⟩=some (.int .i64 40)) (has:ra.s=false) (hap:0 < nv ra.X ra.n) (hab:nv ra.X ra.n < nv rb.X rb.n) (hna:ra.n<=4) (hnb:rb.n<=4):
 Calls Tryz.prog 89 #[.pointer (some ⟨p0 0,0,none⟩),.pointer (some ⟨p0 1,0,none⟩),.pointer none,pz pa,pz pb] w fun e w'=>∃F',e=.returned (.pointer (some ⟨p0 0,0,none⟩))/\Ih B 2 w' p0 F'/\Gx (nv ra.X ra.n) (nv rb.X rb.n) (F' 0).v (F' 1).v/\(F' 0).n<=4/\(F' 1).n<=500/\Fr (Hi B) w w':=by
 obtain ⟨w0,hw0⟩:∃w0,w0=w:=⟨w,rfl⟩
 rw [<-hw0]
 rw [<-hw0] at h2 haI hbI hg1 hg4
 clear hw0 w
 have hF0:=Fr.refl (Hi B) w0
 have sB:B<=w0.heap.size:=Nat.le_trans (h2.lo 0 (by decide)) (Nat.le_of_lt (h2.ib 0 (by decide)).lt)
 have hnB:nv rb.X rb.n < BB ^ 4:=Int.lt_of_lt_of_le (Kn rb.n hbI.u) (BBn_le hnb)
 refine Qd (vs:= [.pointer (some ⟨p0 0,0,none⟩),.pointer (some ⟨p0 1,0,none⟩),.pointer none,pz pa,pz pb]) Tryz.func89 rfl rfl ?_
 intro a H
 replace H:Hd a 265 [] [(0,.pointer (some ⟨p0 0,0,none⟩)),(1,.pointer (some ⟨p0 1,0,none⟩)),(2,.pointer none),(3,pz pa),(4,pz pb)]:=H
 refine Sq (Rl [_] (wl H (Ez.asn H rfl) rfl (kW (kS (kR [_,_,_,_] (kA rfl rfl (kA rfl rfl (kA rfl rfl (kA rfl rfl (kW (kS (kR [_,_,_,_] (kL (fun a H=>Ez.al82) rfl ?_)))))))))))));clear H a;intro a H
 obtain ⟨b2,hb,h3,fA,sA⟩:=h2.al sB
 rw [<-hb] at H
 clear hb sB
 obtain ⟨wA,hwA⟩:∃x,x=World.alloc w0 (.cells #[.bool false,.slice none 0 0] 82):=⟨_,rfl⟩
 rw [<-hwA] at h3 fA sA ⊢
 clear hwA
 have sB:=sA
 have hF:=hF0.trans fA
 clear fA sA
 refine wl H (Ez.mv H rfl) rfl ?_;clear H a;intro a H
 refine wk H cf101 (intAbs b2 pa r0 ra wA (h3.ib 2 (by decide)) (haI.hi hF hpaB hraB) (by have:B<=b2:=h3.lo 2 (by decide);omega) (by omega)) rfl rfl ?_
 rintro _ w1 ⟨rA,rfl,k,rAv,rAs,rAn⟩
 refine ⟨_,rfl,?_⟩;clear H a;intro a H
 obtain ⟨F3,h3,e3,o3,f3⟩:=h3.upd' (i:=2) (by decide) k
 have hF:=hF.trans f3
 have sB:=Nat.le_trans sB f3.size
 clear k f3 o3
 obtain ⟨wX,rfl⟩:∃wX,wX=w1:=⟨w1,rfl⟩
 refine wl H (Ez.asn H rfl) rfl (kP [(0,_),(1,_),(2,_),(3,_),(4,_),(10,_),(11,_),(12,_),(13,_),(14,_)] rfl (kW (kS (kR [_,_,_,_] (kL (fun a H=>Ez.al82) rfl ?_)))));clear H a;intro a H
 obtain ⟨b3,hb,h4,fA,sA⟩:=h3.al sB
 rw [<-hb] at H
 clear hb sB
 obtain ⟨wA,hwA⟩:∃x,x=World.alloc wX (.cells #[.bool false,.slice none 0 0] 82):=⟨_,rfl⟩
 rw [<-hwA] at h4 fA sA ⊢
 clear hwA
 have sB:=sA
 have hF:=hF.trans fA
 clear fA sA
 refine wl H (Ez.mv H rfl) rfl ?_;clear H a;intro a H
 refine wk H cf101 (intAbs b3 pb r0 rb wA (h4.ib 3 (by decide)) (hbI.hi hF hpbB hrbB) (by have:B<=b3:=h4.lo 3 (by decide);omega) (by omega)) rfl rfl ?_
 rintro _ w1 ⟨rB,rfl,k,rBv,rBs,rBn⟩
 refine ⟨_,rfl,?_⟩;clear H a;intro a H
 obtain ⟨F4,h4,e4,o4,f4⟩:=h4.upd' (i:=3) (by decide) k
 have hF:=hF.trans f4
 have sB:=Nat.le_trans sB f4.size
 have e4A:F4 2=rA:=(o4 2 (by decide)).trans e3
 clear k f4 o4
 obtain ⟨wX,rfl⟩:∃wX,wX=w1:=⟨w1,rfl⟩
 refine wl H (Ez.asn H rfl) rfl (kP [(0,_),(1,_),(2,_),(3,_),(4,_),(10,_),(11,_),(12,_),(13,_),(14,_)] rfl (kW (kS (kR [_,_,_,_,_,_,_] (kM rfl rfl (kL (fun a H=>Ez.neN78 H rfl rfl (r:=true) rfl) rfl (kM rfl rfl (kX rfl rfl rfl rfl rfl (kX rfl rfl rfl rfl rfl (kL (fun a H=>Ez.pkT H rfl rfl) rfl (kA rfl rfl (kP [(0,_),(1,_),(2,_),(3,_),(4,_),(10,_),(11,_),(12,_),(13,_),(14,_),(15,_)] rfl (kW (kS (kS (kR [_] (kM rfl rfl (kW ?_))))))))))))))))));clear H a;intro a H
 refine Ct (H.o rfl) (Sq (Rl [_,_,_] (wl H (Ez.al82) rfl ?_)));clear H a;intro a H
 obtain ⟨b4,hb,h5,fA,sA⟩:=h4.al sB
 rw [<-hb] at H
 clear hb sB
 obtain ⟨wA,hwA⟩:∃x,x=World.alloc wX (.cells #[.bool false,.slice none 0 0] 82):=⟨_,rfl⟩
 rw [<-hwA] at h5 fA sA ⊢
 clear hwA
 have sB:=sA
 have hF:=hF.trans fA
 clear fA sA
 refine wk H cf102 (intSetInt64 b4 1 r0 wA (h5.ib 4 (by decide)) (by decide)) rfl rfl ?_
 rintro _ w1 ⟨rU,rfl,k,rUv,rUs,rUn⟩
 refine ⟨_,rfl,?_⟩;clear H a;intro a H
 obtain ⟨F5,h5,e5,o5,f5⟩:=h5.upd' (i:=4) (by decide) k
 have hF:=hF.trans f5
 have sB:=Nat.le_trans sB f5.size
 have e5A:F5 2=rA:=(o5 2 (by decide)).trans e4A
 have e5B:F5 3=rB:=(o5 3 (by decide)).trans e4
 clear k f5 o5
 obtain ⟨wX,rfl⟩:∃wX,wX=w1:=⟨w1,rfl⟩
 refine wl H (Ez.asn H rfl) rfl (kP [(0,_),(1,_),(2,_),(3,_),(4,_),(10,_),(11,_),(12,_),(13,_),(14,_),(15,_)] rfl (kW (kR [_,_] (kL (fun a H=>Ez.al82) rfl ?_))));clear H a;intro a H
 obtain ⟨b5,hb,h6,fA,sA⟩:=h5.al sB
 rw [<-hb] at H
 clear hb sB
 obtain ⟨wA,hwA⟩:∃x,x=World.alloc wX (.cells #[.bool false,.slice none 0 0] 82):=⟨_,rfl⟩
 rw [<-hwA] at h6 fA sA ⊢
 clear hwA
 have sB:=sA
 have hF:=hF.trans fA
 clear fA sA
 refine wl H (Ez.asn H rfl) rfl (kP [(0,_),(1,_),(2,_),(3,_),(4,_),(10,_),(11,_),(12,_),(13,_),(14,_),(15,_)] rfl (kW (kS (kR [_,_] (kL (fun a H=>Ez.al82) rfl ?_)))));clear H a;intro a H
 obtain ⟨b6,hb,h7,fA,sA⟩:=h6.al sB
 rw [<-hb] at H
 clear hb sB
 obtain ⟨wA,hwA⟩:∃x,x=World.alloc wA (.cells #[.bool false,.slice none 0 0] 82):=⟨_,rfl⟩
 rw [<-hwA] at h7 fA sA ⊢
 clear hwA
 have sB:=sA
 have hF:=hF.trans fA
 clear fA sA
 refine wl H (Ez.asn H rfl) rfl (kP [(0,_),(1,_),(2,_),(3,_),(4,_),(10,_),(11,_),(12,_),(13,_),(14,_),(15,_),(16,_)] rfl (kW (kS (kR [_,_] (kL (fun a H=>Ez.al82) rfl ?_)))));clear H a;intro a H
 obtain ⟨b7,hb,h8,fA,sA⟩:=h7.al sB
 rw [<-hb] at H
 clear hb sB
 obtain ⟨wA,hwA⟩:∃x,x=World.alloc wA (.cells #[.bool false,.slice none 0 0] 82):=⟨_,rfl⟩
 rw [<-hwA] at h8 fA sA ⊢
 clear hwA
 have sB:=sA
 have hF:=hF.trans fA
 clear fA sA
 refine wl H (Ez.asn H rfl) rfl (kP [(0,_),(1,_),(2,_),(3,_),(4,_),(10,_),(11,_),(12,_),(13,_),(14,_),(15,_),(16,_),(17,_)] rfl (kW ?_));clear H a;intro a H
 obtain ⟨p,hp⟩:∃p,p=un (un (un (un (un (un p0 2 b2) 3 b3) 4 b4) 5 b5) 6 b6) 7 b7:=⟨_,rfl⟩
 have hp0:p 0=p0 0:=by rw [hp];rfl
 have hp1:p 1=p0 1:=by rw [hp];rfl
 have hp2:p 2=b2:=by rw [hp];rfl
 have hp3:p 3=b3:=by rw [hp];rfl
 have hp4:p 4=b4:=by rw [hp];rfl
 have hp5:p 5=b5:=by rw [hp];rfl
 have hp6:p 6=b6:=by rw [hp];rfl
 have hp7:p 7=b7:=by rw [hp];rfl
 obtain ⟨F,hFF⟩:∃F,F=ui (ui (ui F5 5 r0) 6 r0) 7 r0:=⟨_,rfl⟩
 have E2:F 2=rA:=by rw [hFF,<-e5A];rfl
 have E3:F 3=rB:=by rw [hFF,<-e5B];rfl
 have E4:F 4=rU:=by rw [hFF,<-e5];rfl
 have E5:F 5=r0:=by rw [hFF];rfl
 have h:Ih B 8 wA p F:=by rw [hp,hFF];exact h8
 clear h8 h7 h6 h5 h4 h3 hp hFF
 subst hp2;subst hp3;subst hp4;subst hp5;subst hp6;subst hp7
 rw [<-E2] at rAv rAs rAn
 rw [<-E3] at rBv rBs rBn
 rw [<-E4] at rUv rUn
 have hAv:nv (F 2).X (F 2).n=(F 2).v:=by unfold IR.v;rw [rAs];simp
 have hBv:nv (F 3).X (F 3).n=(F 3).v:=by unfold IR.v;rw [rBs];simp
 obtain ⟨wS,hwS⟩:∃x,x=wA:=⟨_,rfl⟩
 rw [<-hwS]
 rw [<-hwS] at h hF
 clear hwS
 refine Sq (Sq (Qr (ls:= [_,_,_,_,_,_,_,_,_,_]) Qb (by kernel_rfl) (wq H (fun w2 hw2=>Ez.mv H rfl) rfl (jN rfl rfl (jL (fun a H w2 hw2=>Ez.fa82_1 H rfl) rfl (jL (fun a H w2 hw2=>Ez.ld80 H rfl (hw2.cell (h.ib 2 (by decide)).c1)) rfl (jM rfl rfl (jN rfl rfl (jL (fun a H w2 hw2=>Ez.fa82_1 H rfl) rfl (jL (fun a H w2 hw2=>Ez.ld80 H rfl (hw2.cell (h.ib 3 (by decide)).c1)) rfl ?_))))))))));clear H a;intro a H
 refine wkq H cf90 (cmpW (F 2).q (F 3).q (F 2).n (F 2).c (F 3).n (F 3).c (F 2).X (F 3).X wS (h.ib 2 (by decide)).sl (h.ib 3 (by decide)).sl (by omega) (by omega) (h.ib 2 (by decide)).nm (h.ib 3 (by decide)).nm) rfl rfl ?_;clear H a;intro a H
 refine wq H (fun w2 hw2=>Ez.lss (r:=true) H rfl rfl (by (rw [hAv,hBv,rAv,rBv];simp [cmpI,hab]))) rfl ?_;clear H a;intro a H
 refine wqe ?_
 intro w1 hw
 have h:=h.cd hw
 have hF:=hF.trans (hw.fr _)
 replace H:Hd a 265 [] [(0,_),(1,_),(2,_),(3,_),(4,_),(10,_),(11,_),(12,_),(13,_),(14,_),(15,_),(16,_),(17,_),(60,_)]:=H.pick [0,1,2,3,4,10,11,12,13,14,15,16,17,60]
 refine Ct (H.o rfl) (Sq (Rl [_,_,_,_] (wl H (Ez.mv H rfl) rfl (kM rfl rfl (kA rfl rfl (kA rfl rfl (kP [(0,_),(1,_),(2,_),(3,_),(4,_),(10,_),(11,_),(12,_),(13,_),(14,_),(15,_),(16,_),(17,_)] rfl (kW (kR [_,_,_,_] (kM rfl rfl (kM rfl rfl (kA rfl rfl (kA rfl rfl (kP [(0,_),(1,_),(2,_),(3,_),(4,_),(10,_),(11,_),(12,_),(13,_),(14,_),(15,_),(16,_),(17,_)] rfl (kW (kS ?_))))))))))))))));clear H a;intro a H
 refine Wb ?_
 refine Qo (fun mm a w=>∃(p:Nat->Nat) (F:Nat->IR),mm=((F 2).v+(F 3).v).toNat/\Hd a 265 [] [(0,.pointer (some ⟨p0 0,0,none⟩)),(1,.pointer (some ⟨p0 1,0,none⟩)),(2,.pointer none),(3,pz pa),(4,pz pb),(11,.pointer (some ⟨p 2,0,none⟩)),(12,.pointer (some ⟨p 3,0,none⟩)),(13,.pointer (some ⟨p 4,0,none⟩)),(14,.pointer (some ⟨p 5,0,none⟩)),(15,.bool true),(16,.pointer (some ⟨p 6,0,none⟩)),(17,.pointer (some ⟨p 7,0,none⟩))]/\Ih B 8 w p F/\p 0=p0 0/\p 1=p0 1/\Inv (nv ra.X ra.n) (nv rb.X rb.n) (F 2).v (F 3).v (F 4).v (F 5).v/\Fr (Hi B) w0 w) (((F 3).v+(F 2).v).toNat) ?_ ?_
 ·replace H:Hd a 265 [] [(0,_),(1,_),(2,_),(3,_),(4,_),(11,_),(12,_),(13,_),(14,_),(15,_),(16,_),(17,_)]:=H.pick [0,1,2,3,4,11,12,13,14,15,16,17]
  refine ⟨fun i=>p (s1 i),fun i=>F (s1 i),rfl,H,h.p1,hp0,hp1,?_,hF⟩
  show Inv _ _ (F 3).v (F 2).v (F 5).v (F 4).v
  rw [rAv,rBv,rUv,E5]
  exact Inv.start ⟨hap,hab⟩
 clear H a
 intro mm a w hI
 clear E2 E3 E4 E5 rAv rAs rAn rBv rBs rBn rUv rUn hAv hBv
 obtain ⟨p,F,hmm,H,h,hp0,hp1,hI,hF⟩:=hI
 obtain ⟨wL,rfl⟩:∃wL,wL=w:=⟨w,rfl⟩
 have hn4:(F 2).n<=4:=(h.ib 2 (by decide)).abs_le (by have:=hI.an;have:=hI.ba;have:=hI.bp;omega)
 have hm4:(F 3).n<=4:=(h.ib 3 (by decide)).abs_le (by have:=hI.an;have:=hI.ba;have:=hI.bp;omega)
 have hu4:(F 4).n<=4:=(h.ib 4 (by decide)).abs_le (by have:=hI.ub;omega)
 have hv4:(F 5).n<=4:=(h.ib 5 (by decide)).abs_le (by have:=hI.vb;omega)
 have hAp:0 < (F 2).v:=by have:=hI.ba;have:=hI.bp;omega
 obtain ⟨hAs,hAv⟩:=IR.pos (h.ib 2 (by decide)).u hAp
 refine Sq (Sq (Rl [_,_,_,_,_,_] (wl H (Ez.mv H rfl) rfl (kN rfl rfl (kL (fun a H=>Ez.fa82_1 H rfl) rfl (kL (fun a H=>Ez.ld80 H rfl ((h.ib 3 (by decide)).c1)) rfl (kL (fun a H=>Ez.len80 H rfl) rfl (kL (fun a H=>Ez.gtr H rfl rfl (rfl)) rfl (kP [(0,_),(1,_),(2,_),(3,_),(4,_),(11,_),(12,_),(13,_),(14,_),(15,_),(16,_),(17,_),(70,_)] rfl (kW ?_))))))))));clear H a;intro a H
 refine Cs (H.o rfl) (fun hb2=>?_) (fun hb2=>?_)
 ·have hB2:2<=(F 3).n:=by have:=Dt hb2;omega
  have hBp:0 < (F 3).v:=IR.v_pos (h.ib 3 (by decide)).u (h.ib 3 (by decide)).nm (by omega) hI.bp
  obtain ⟨hBs,hBv⟩:=IR.pos (h.ib 3 (by decide)).u hBp
  have hBA:=hI.ba
  have hA2:2<=(F 2).n:=by
   rcases Nat.lt_or_ge (F 2).n (F 3).n with h' | h'
   ·have:=Jx (h.ib 3 (by decide)).u (h.ib 2 (by decide)).u (h.ib 3 (by decide)).nm h'
    omega
   omega
  refine Wk0 (thn (Wb (Sq (Rl [_,_,_,_,_,_,_,_,_,_,_,_,_,_] (wl H (Ez.mv H rfl) rfl (kM rfl rfl ?_))))));clear H a;intro a H
  refine wk H cf103 (lehmerSim (p 2) (p 3) (F 2) (F 3) wL (h.ib 2 (by decide)) (h.ib 3 (by decide)) hA2 (by omega) (by omega) (by omega)) rfl rfl ?_
  rintro _ w1 ⟨u0,u1,v0,v1,e',rfl,hls,hC⟩
  refine ⟨_,rfl,?_⟩;clear H a;intro a H
  have h:=h.cd hC
  have hF:=hF.trans (hC.fr _)
  rw [hAv,hBv] at hls
  obtain ⟨wL,rfl⟩:∃wL,wL=w1:=⟨w1,rfl⟩
  refine wl H (Ez.mv H rfl) rfl (kL (fun a H=>Ez.extN H rfl rfl) rfl (kL (fun a H=>Ez.extN H rfl rfl) rfl (kL (fun a H=>Ez.extN H rfl rfl) rfl (kL (fun a H=>Ez.extN H rfl rfl) rfl (kL (fun a H=>Ez.extN H rfl rfl) rfl (kA rfl rfl (kA rfl rfl (kA rfl rfl (kA rfl rfl (kA rfl rfl (kP [(0,_),(1,_),(2,_),(3,_),(4,_),(11,_),(12,_),(13,_),(14,_),(15,_),(16,_),(17,_),(18,_),(19,_),(20,_),(21,_),(22,_)] rfl (kW (kS (kR [_,_] (kM rfl rfl (kL (fun a H=>Ez.neq H rfl rfl (rfl)) rfl (kP [(0,_),(1,_),(2,_),(3,_),(4,_),(11,_),(12,_),(13,_),(14,_),(15,_),(16,_),(17,_),(18,_),(19,_),(20,_),(21,_),(22,_),(81,_)] rfl (kW ?_))))))))))))))))));clear H a;intro a H
  refine Cs (H.o rfl) (fun hb3=>?_) (fun hb3=>?_)
  ·have hv0:v0≠0:=by simpa using hb3
   have hinv:=hI.lehmer hls hv0
   refine Sq (Rl [_,_,_,_,_,_,_,_,_,_] (wl H (Ez.mv H rfl) rfl (kM rfl rfl (kM rfl rfl (kM rfl rfl (kM rfl rfl (kM rfl rfl (kM rfl rfl (kM rfl rfl (kM rfl rfl ?_))))))))));clear H a;intro a H
   refine wk H cf104 (lehmerUpd B 8 p F 2 3 6 7 u0 u1 v0 v1 e' wL h (by decide) (by decide) (by decide) (by decide) (by decide) (by decide) (by decide) (by decide) (by decide) (by decide) hls.1 hls.2.1 hls.2.2.1 hls.2.2.2.1 (by omega) (by omega)) rfl rfl ?_
   rintro _ w1 ⟨F1,rfl,h1,o1,k2,k3,k4,k5,f1⟩
   refine ⟨_,rfl,?_⟩;clear H a;intro a H
   have hF1:=hF.trans f1
   have c4:=o1 4 (by decide) (by decide) (by decide) (by decide);have c5:=o1 5 (by decide) (by decide) (by decide) (by decide)
   obtain ⟨wM,rfl⟩:∃wM,wM=w1:=⟨w1,rfl⟩
   refine kP [(0,_),(1,_),(2,_),(3,_),(4,_),(11,_),(12,_),(13,_),(14,_),(15,_),(16,_),(17,_),(18,_),(19,_),(20,_),(21,_),(22,_)] rfl (kW (kS (kR [_] (kM rfl rfl (kW ?_))))) a H;clear H a;intro a H
   refine Ct (H.o rfl) (Rl [_,_,_,_,_,_,_,_,_,_] (wl H (Ez.mv H rfl) rfl (kM rfl rfl (kM rfl rfl (kM rfl rfl (kM rfl rfl (kM rfl rfl (kM rfl rfl (kM rfl rfl (kM rfl rfl ?_))))))))));clear H a;intro a H
   refine wk H cf104 (lehmerUpd B 8 p F1 4 5 6 7 u0 u1 v0 v1 e' wM h1 (by decide) (by decide) (by decide) (by decide) (by decide) (by decide) (by decide) (by decide) (by decide) (by decide) hls.1 hls.2.1 hls.2.2.1 hls.2.2.2.1 (by rw [c4];omega) (by rw [c5];omega)) rfl rfl ?_
   rintro _ w1 ⟨F2,rfl,h2,o2,l2,l3,l4,l5,f2⟩
   refine ⟨_,rfl,?_⟩;clear H a;intro a H
   have hF2:=hF1.trans f2
   rw [c4,c5] at l2 l3
   have g2:(F2 2).v=(F1 2).v:=by rw [o2 2 (by decide) (by decide) (by decide) (by decide)]
   have g3:(F2 3).v=(F1 3).v:=by rw [o2 3 (by decide) (by decide) (by decide) (by decide)]
   have hinv2:Inv (nv ra.X ra.n) (nv rb.X rb.n) (F2 2).v (F2 3).v (F2 4).v (F2 5).v:=by rw [g2,g3,k2,k3,l2,l3];exact hinv.1
   replace H:Hd a 265 [] [(0,_),(1,_),(2,_),(3,_),(4,_),(11,_),(12,_),(13,_),(14,_),(15,_),(16,_),(17,_)]:=H.pick [0,1,2,3,4,11,12,13,14,15,16,17]
   refine Wn ?_
   refine bn (thn ?_)
   replace H:Hd a 265 [] [(0,_),(1,_),(2,_),(3,_),(4,_),(11,_),(12,_),(13,_),(14,_),(15,_),(16,_),(17,_)]:=H.pick [0,1,2,3,4,11,12,13,14,15,16,17]
   first
    | (refine ⟨_,?_,p,F2,rfl,H,h2,hp0,hp1,hinv2,hF2⟩
       rw [g2,g3,k2,k3]
       have:=hinv.2;have:=hI.bp;have:=hinv2.bp;have:=hinv2.ba;rw [g2,g3,k2,k3] at*
       omega)
    | exact ⟨((F1 (s2 2)).v+(F1 (s2 3)).v).toNat,by show ((F1 3).v+(F1 7).v).toNat < mm;rw [e3] at r1 ⊢;omega,fun i=>p (s2 i),fun i=>F1 (s2 i),rfl,H,h1.p2,hp0,hp1,hinv,hF1⟩
  refine Rl [_,_,_,_,_,_,_,_,_,_,_,_,_,_,_,_,_,_,_] (wl H (Ez.mv H rfl) rfl (kM rfl rfl (kM rfl rfl (kM rfl rfl (kM rfl rfl (kM rfl rfl (kM rfl rfl ?_)))))));clear H a;intro a H
  refine wk H cf105 (euclidUpd B 8 p F 2 3 4 5 6 7 wL h hB5 (by decide) (by decide) (by decide) (by decide) (by decide) (by decide) (by decide) (by decide) (by decide) (by decide) (by decide) (by decide) (by decide) (by decide) (by decide) (by decide) (hF.glob (by omega) hg1) (hF.glob (by omega) hg4) (by omega) hm4 (by omega) (by omega) (by omega) hAs hBs) rfl rfl ?_
  rintro _ w1 ⟨F1,q,rfl,h1,o1,q1,r1,rs,rn,u1,un',f1⟩
  refine ⟨_,rfl,?_⟩;clear H a;intro a H
  have e3:=o1 3 (by decide) (by decide) (by decide);have e5:=o1 5 (by decide) (by decide) (by decide)
  have hinv:=hI.euclid hBp q1 r1
  rw [<-u1,<-e5,<-e3] at hinv
  rw [<-e3] at q1 r1 rn
  have hF1:=hF.trans f1
  refine wl H (Ez.mv H rfl) rfl (kL (fun a H=>Ez.extN H rfl rfl) rfl (kL (fun a H=>Ez.extN H rfl rfl) rfl (kL (fun a H=>Ez.extN H rfl rfl) rfl (kL (fun a H=>Ez.extN H rfl rfl) rfl (kL (fun a H=>Ez.extN H rfl rfl) rfl (kA rfl rfl (kA rfl rfl (kA rfl rfl (kA rfl rfl (kA rfl rfl (kP [(0,_),(1,_),(2,_),(3,_),(4,_),(11,_),(12,_),(13,_),(14,_),(15,_),(16,_),(17,_)] rfl ?_)))))))))));clear H a;intro a H
  refine Wn ?_
  refine bn (thn ?_)
  replace H:Hd a 265 [] [(0,_),(1,_),(2,_),(3,_),(4,_),(11,_),(12,_),(13,_),(14,_),(15,_),(16,_),(17,_)]:=H.pick [0,1,2,3,4,11,12,13,14,15,16,17]
  first
   | (refine ⟨_,?_,p,F2,rfl,H,h2,hp0,hp1,hinv2,hF2⟩
      rw [g2,g3,k2,k3]
      have:=hinv.2;have:=hI.bp;have:=hinv2.bp;have:=hinv2.ba;rw [g2,g3,k2,k3] at*
      omega)
   | exact ⟨((F1 (s2 2)).v+(F1 (s2 3)).v).toNat,by show ((F1 3).v+(F1 7).v).toNat < mm;rw [e3] at r1 ⊢;omega,fun i=>p (s2 i),fun i=>F1 (s2 i),rfl,H,h1.p2,hp0,hp1,hinv,hF1⟩
 have hB2:(F 3).n<=1:=by have:=Df hb2;omega
 refine We (thx (thx (bxe (thn ?_))))
 refine Jf (fun a w=>∃(p:Nat->Nat) (F:Nat->IR),Hd a 265 [] [(0,.pointer (some ⟨p0 0,0,none⟩)),(1,.pointer (some ⟨p0 1,0,none⟩)),(2,.pointer none),(3,pz pa),(11,.pointer (some ⟨p 2,0,none⟩)),(13,.pointer (some ⟨p 4,0,none⟩))]/\Ih B 8 w p F/\p 0=p0 0/\p 1=p0 1/\Gx (nv ra.X ra.n) (nv rb.X rb.n) (F 2).v (F 4).v/\(F 2).n<=4/\(F 4).n<=500/\Fr (Hi B) w0 w) ?_ ?_
 ·refine Sq (Rl [_,_,_,_,_,_] (wl H (Ez.mv H rfl) rfl (kN rfl rfl (kL (fun a H=>Ez.fa82_1 H rfl) rfl (kL (fun a H=>Ez.ld80 H rfl ((h.ib 3 (by decide)).c1)) rfl (kL (fun a H=>Ez.len80 H rfl) rfl (kL (fun a H=>Ez.gtr H rfl rfl (rfl)) rfl (kP [(0,_),(1,_),(2,_),(3,_),(4,_),(11,_),(12,_),(13,_),(14,_),(15,_),(16,_),(17,_),(122,_)] rfl (kW ?_)))))))));clear H a;intro a H
  refine Cs (H.o rfl) (fun hb5=>?_) (fun hb5=>?_)
  ·have hB1:1<=(F 3).n:=by have:=Dt hb5;omega
   have hBp:0 < (F 3).v:=IR.v_pos (h.ib 3 (by decide)).u (h.ib 3 (by decide)).nm (by omega) hI.bp
   obtain ⟨hBs,hBv⟩:=IR.pos (h.ib 3 (by decide)).u hBp
   have hBA:=hI.ba
   refine Jf (fun a w=>∃(p:Nat->Nat) (F:Nat->IR),Hd a 265 [] [(0,.pointer (some ⟨p0 0,0,none⟩)),(1,.pointer (some ⟨p0 1,0,none⟩)),(2,.pointer none),(3,pz pa),(4,pz pb),(11,.pointer (some ⟨p 2,0,none⟩)),(12,.pointer (some ⟨p 3,0,none⟩)),(13,.pointer (some ⟨p 4,0,none⟩)),(14,.pointer (some ⟨p 5,0,none⟩)),(15,.bool true)]/\Ih B 8 w p F/\p 0=p0 0/\p 1=p0 1/\Inv (nv ra.X ra.n) (nv rb.X rb.n) (F 2).v (F 3).v (F 4).v (F 5).v/\(F 2).n=1/\(F 3).n<=1/\Fr (Hi B) w0 w) ?_ ?_
   ·refine Sq (Rl [_,_,_,_,_,_] (wl H (Ez.mv H rfl) rfl (kN rfl rfl (kL (fun a H=>Ez.fa82_1 H rfl) rfl (kL (fun a H=>Ez.ld80 H rfl ((h.ib 2 (by decide)).c1)) rfl (kL (fun a H=>Ez.len80 H rfl) rfl (kL (fun a H=>Ez.gtr H rfl rfl (rfl)) rfl (kP [(0,_),(1,_),(2,_),(3,_),(4,_),(11,_),(12,_),(13,_),(14,_),(15,_),(16,_),(17,_),(128,_)] rfl (kW ?_)))))))));clear H a;intro a H
    refine Cs (H.o rfl) (fun hb6=>?_) (fun hb6=>?_)
    ·have hA2:2<=(F 2).n:=by have:=Dt hb6;omega
     refine Rl [_,_,_,_,_,_,_,_,_,_,_,_,_,_,_,_,_,_,_] (wl H (Ez.mv H rfl) rfl (kM rfl rfl (kM rfl rfl (kM rfl rfl (kM rfl rfl (kM rfl rfl (kM rfl rfl ?_)))))));clear H a;intro a H
     refine wk H cf105 (euclidUpd B 8 p F 2 3 4 5 6 7 wL h hB5 (by decide) (by decide) (by decide) (by decide) (by decide) (by decide) (by decide) (by decide) (by decide) (by decide) (by decide) (by decide) (by decide) (by decide) (by decide) (by decide) (hF.glob (by omega) hg1) (hF.glob (by omega) hg4) (by omega) hm4 (by omega) (by omega) (by omega) hAs hBs) rfl rfl ?_
     rintro _ w1 ⟨F1,q,rfl,h1,o1,q1,r1,rs,rn,u1,un',f1⟩
     refine ⟨_,rfl,?_⟩;clear H a;intro a H
     have e3:=o1 3 (by decide) (by decide) (by decide);have e5:=o1 5 (by decide) (by decide) (by decide)
     have hinv:=hI.euclid hBp q1 r1
     rw [<-u1,<-e5,<-e3] at hinv
     rw [<-e3] at q1 r1 rn
     have hF1:=hF.trans f1
     refine wl H (Ez.mv H rfl) rfl (kL (fun a H=>Ez.extN H rfl rfl) rfl (kL (fun a H=>Ez.extN H rfl rfl) rfl (kL (fun a H=>Ez.extN H rfl rfl) rfl (kL (fun a H=>Ez.extN H rfl rfl) rfl (kL (fun a H=>Ez.extN H rfl rfl) rfl (kA rfl rfl (kA rfl rfl (kA rfl rfl (kA rfl rfl (kA rfl rfl (kP [(0,_),(1,_),(2,_),(3,_),(4,_),(11,_),(12,_),(13,_),(14,_),(15,_)] rfl (kW (kP [(0,_),(1,_),(2,_),(3,_),(4,_),(11,_),(12,_),(13,_),(14,_),(15,_)] rfl ?_)))))))))))));clear H a;intro a H
     first
      | exact ⟨fun i=>p (s2 i),fun i=>F1 (s2 i),H,h1.p2,hp0,hp1,hinv,by show (F1 3).n=1;rw [e3];omega,by show (F1 7).n<=1;rw [e3] at rn;omega,hF1⟩
      | exact ⟨p,F,H,h,hp0,hp1,hI,hA1,hB2,hF⟩
    have hA1:(F 2).n=1:=by
     have:=Df hb6
     rcases Nat.eq_zero_or_pos (F 2).n with h0 | h0
     ·rw [IR.v_zero h0] at hAp;omega
     omega
    refine Wk0 (thn ?_)
    replace H:Hd a 265 [] [(0,_),(1,_),(2,_),(3,_),(4,_),(11,_),(12,_),(13,_),(14,_),(15,_)]:=H.pick [0,1,2,3,4,11,12,13,14,15]
    first
     | exact ⟨fun i=>p (s2 i),fun i=>F1 (s2 i),H,h1.p2,hp0,hp1,hinv,by show (F1 3).n=1;rw [e3];omega,by show (F1 7).n<=1;rw [e3] at rn;omega,hF1⟩
     | exact ⟨p,F,H,h,hp0,hp1,hI,hA1,hB2,hF⟩
   clear H a
   intro a w hJ
   obtain ⟨p,F,H,h,hp0,hp1,hI,hA1,hB2,hF⟩:=hJ
   obtain ⟨wL,rfl⟩:∃wL,wL=w:=⟨w,rfl⟩
   have hn4:(F 2).n<=4:=(h.ib 2 (by decide)).abs_le (by have:=hI.an;have:=hI.ba;have:=hI.bp;omega)
   have hm4:(F 3).n<=4:=(h.ib 3 (by decide)).abs_le (by have:=hI.an;have:=hI.ba;have:=hI.bp;omega)
   have hu4:(F 4).n<=4:=(h.ib 4 (by decide)).abs_le (by have:=hI.ub;omega)
   have hv4:(F 5).n<=4:=(h.ib 5 (by decide)).abs_le (by have:=hI.vb;omega)
   have hAp:0 < (F 2).v:=by have:=hI.ba;have:=hI.bp;omega
   obtain ⟨hAs,hAv⟩:=IR.pos (h.ib 2 (by decide)).u hAp
   refine Sq (Rl [_,_,_,_,_,_] (wl H (Ez.mv H rfl) rfl (kN rfl rfl (kL (fun a H=>Ez.fa82_1 H rfl) rfl (kL (fun a H=>Ez.ld80 H rfl ((h.ib 3 (by decide)).c1)) rfl (kL (fun a H=>Ez.len80 H rfl) rfl (kL (fun a H=>Ez.gtr H rfl rfl (rfl)) rfl (kP [(0,_),(1,_),(2,_),(3,_),(4,_),(11,_),(12,_),(13,_),(14,_),(15,_),(148,_)] rfl (kW ?_)))))))));clear H a;intro a H
   refine Cs (H.o rfl) (fun hb7=>?_) (fun hb7=>?_)
   ·have hB1:(F 3).n=1:=by have:=Dt hb7;omega
    have hBp:0 < (F 3).v:=IR.v_pos (h.ib 3 (by decide)).u (h.ib 3 (by decide)).nm (by omega) hI.bp
    obtain ⟨hBs,hBv⟩:=IR.pos (h.ib 3 (by decide)).u hBp
    have hBA:=hI.ba
    refine Sq ?_
    obtain ⟨ba,hba,_,hWa⟩:=(h.ib 2 (by decide)).sl.blk (by have:=(h.ib 2 (by decide)).sl.le;omega)
    obtain ⟨bb,hbb,_,hWb⟩:=(h.ib 3 (by decide)).sl.blk (by have:=(h.ib 3 (by decide)).sl.le;omega)
    have hac:=(h.ib 2 (by decide)).c1
    have hbc:=(h.ib 3 (by decide)).c1
    rw [hba,hA1] at hac
    rw [hbb,hB1] at hbc
    have hca:0 < (F 2).c:=by have:=(h.ib 2 (by decide)).sl.le;omega
    have hcb:0 < (F 3).c:=by have:=(h.ib 3 (by decide)).sl.le;omega
    have hA0:=IR.v_one hAs hA1
    have hB0:=IR.v_one hBs hB1
    have hAu:=hWa.u 0 hca
    unfold U64 at hAu
    refine Qr (ls:= [_,_,_,_,_,_,_,_,_,_,_,_,_,_]) Qb (by kernel_rfl) (wq H (fun w2 hw2=>Ez.mv H rfl) rfl (jN rfl rfl (jL (fun a H w2 hw2=>Ez.fa82_1 H rfl) rfl (jL (fun a H w2 hw2=>Ez.ld80 H rfl (hw2.cell hac)) rfl (jL (fun a H w2 hw2=>Ez.ix80 H rfl rfl 0 rfl (by omega)) rfl (jL (fun a H w2 hw2=>Ez.ld103 H rfl ((by rw [Nat.zero_add];exact hw2.cell (hWa.cell hca)))) rfl (jM rfl rfl (jN rfl rfl (jL (fun a H w2 hw2=>Ez.fa82_1 H rfl) rfl (jL (fun a H w2 hw2=>Ez.ld80 H rfl (hw2.cell hbc)) rfl (jL (fun a H w2 hw2=>Ez.ix80 H rfl rfl 0 rfl (by omega)) rfl (jL (fun a H w2 hw2=>Ez.ld103 H rfl ((by rw [Nat.zero_add];exact hw2.cell (hWb.cell hcb)))) rfl (jA rfl rfl (jA rfl rfl ?_))))))))))))));clear H a;intro a H
    refine wqe ?_
    intro w1 hw
    have h:=h.cd hw
    have hF:=hF.trans (hw.fr _)
    clear hw
    rw [<-hA0,<-hB0] at H
    rw [<-hA0] at hAu
    refine kP [(0,_),(1,_),(2,_),(3,_),(4,_),(11,_),(12,_),(13,_),(14,_),(15,_),(23,_),(24,_)] rfl (kS (kS (kR [_] (kM rfl rfl (kP [(0,_),(1,_),(2,_),(3,_),(4,_),(11,_),(12,_),(13,_),(14,_),(23,_),(24,_),(161,_)] rfl (kW ?_)))))) a H;clear H a;intro a H
    refine Ct (H.o rfl) (Sq (Rl [_,_,_,_] (wl H (Ez.asn H rfl) rfl (kA rfl rfl (kA rfl rfl (kA rfl rfl (kP [(0,_),(1,_),(2,_),(3,_),(4,_),(11,_),(12,_),(13,_),(14,_),(23,_),(24,_),(25,_),(26,_),(27,_),(28,_)] rfl (kW (kS (kR [_,_] (kA rfl rfl (kA rfl rfl (kW (kS (kR [_,_] (kA rfl rfl (kA rfl rfl (kW (kS (kR [_] (kA rfl rfl (kW (kS ?_)))))))))))))))))))))));clear H a;intro a H
    refine Wb ?_
    refine Qo (fun mm a w=>∃(a1 a2 u1 u2 v1 v2:Int) (e:Bool),mm=a2.toNat/\Hd a 265 [] [(0,.pointer (some ⟨p0 0,0,none⟩)),(1,.pointer (some ⟨p0 1,0,none⟩)),(2,.pointer none),(3,pz pa),(4,pz pb),(11,.pointer (some ⟨p 2,0,none⟩)),(12,.pointer (some ⟨p 3,0,none⟩)),(13,.pointer (some ⟨p 4,0,none⟩)),(14,.pointer (some ⟨p 5,0,none⟩)),(23,.int .u64 a1),(24,.int .u64 a2),(25,.int .u64 u1),(26,.int .u64 u2),(27,.int .u64 v1),(28,.int .u64 v2),(29,.bool (!e))]/\LSt (F 2).v (F 3).v 1 (F 2).v (F 3).v a1 a2 u1 u2 v1 v2 e/\(0 < a2\/(u1<=u2/\v1<=v2))/\U64 a1/\u2 < 18446744073709551616/\v2 < 18446744073709551616/\U64 u1/\U64 v1/\Ih B 8 w p F/\Fr (Hi B) w0 w) ((F 3).v.toNat) ?_ ?_
    ·replace H:Hd a 265 [] [(0,_),(1,_),(2,_),(3,_),(4,_),(11,_),(12,_),(13,_),(14,_),(23,_),(24,_),(25,_),(26,_),(27,_),(28,_),(29,_)]:=H.pick [0,1,2,3,4,11,12,13,14,23,24,25,26,27,28,29]
     exact ⟨(F 2).v,(F 3).v,1,0,0,1,false,rfl,H,LSt.start (by omega) (by omega),.inl hBp,hAu,by decide,by decide,⟨by decide,by decide⟩,⟨by decide,by decide⟩,h,hF⟩
    clear H a
    intro mm a w hI9
    obtain ⟨a1,a2,u1,u2,v1,v2,e,hmm,H,hs,hor,ha1,hu2,hv2,hu1,hv1,h,hF⟩:=hI9
    obtain ⟨wW,rfl⟩:∃wW,wW=w:=⟨w,rfl⟩
    have g1:=hs.a21;have g2:=hs.a2p;have g3:=hs.u2p;have g4:=hs.v2p;have g5:=hs.u1p;have g6:=hs.v1p
    unfold U64 at ha1
    refine Sq (Sq (Rl [_,_] (wl H (Ez.mv H rfl) rfl (kL (fun a H=>Ez.neq H rfl rfl (rfl)) rfl (kP [(0,_),(1,_),(2,_),(3,_),(4,_),(11,_),(12,_),(13,_),(14,_),(23,_),(24,_),(25,_),(26,_),(27,_),(28,_),(29,_),(163,_)] rfl (kW ?_))))));clear H a;intro a H
    refine Cs (H.o rfl) (fun hb9=>?_) (fun hb9=>?_)
    ·have ha2:0 < a2:=by have:a2≠0:=by simpa using hb9
                         omega
     obtain ⟨hs1,hq1,hvx,hux⟩:=hs.step0 ha2
     have hm1:=En a1 (show a2≠0 by omega)
     have hm2:=El a1 ha2
     have hqa:a1 / a2<=a1:=Int.ediv_le_self a2 (by omega)
     have hw64:IntKind.u64.wrap (a1 / a2)=a1 / a2:=by rw [Wu];exact Int.emod_eq_of_lt (by omega) (by omega)
     have hpu:=Mr hq1 g3
     have hpv:=Mr hq1 (show 0<=v2 by omega)
     rw [Int.one_mul] at hpu hpv
     refine Wk0 (thn (Wb (Sq (Qr (ls:= [_,_,_,_,_,_,_,_]) Qb (by kernel_rfl) (wq H (fun w2 hw2=>Ez.mv H rfl) rfl (jM rfl rfl (jL (fun a H w2 hw2=>Ez.quo H rfl rfl (by omega) (by omega) hw64 rfl) rfl (jM rfl rfl (jM rfl rfl (jL (fun a H w2 hw2=>Ez.rem H rfl rfl (by omega) (by omega) rfl) rfl (jA rfl rfl (jA rfl rfl ?_))))))))))));clear H a;intro a H
     refine wqe ?_
     intro w1 hw
     have h:=h.cd hw
     have hF:=hF.trans (hw.fr _)
     clear hw
     refine kP [(0,_),(1,_),(2,_),(3,_),(4,_),(11,_),(12,_),(13,_),(14,_),(23,_),(24,_),(25,_),(26,_),(27,_),(28,_),(29,_),(30,_),(31,_)] rfl (kS (kR [_,_,_,_] (kM rfl rfl (kM rfl rfl (kA rfl rfl (kA rfl rfl (kP [(0,_),(1,_),(2,_),(3,_),(4,_),(11,_),(12,_),(13,_),(14,_),(23,_),(24,_),(25,_),(26,_),(27,_),(28,_),(29,_),(30,_)] rfl (kW (kS (kR [_,_,_,_,_,_,_,_] (kM rfl rfl (kM rfl rfl (kM rfl rfl (kM rfl rfl (kL (fun a H=>Ez.mulU (r:=(a1 / a2*u2)) H rfl rfl (by (exact Int.emod_eq_of_lt (by omega) (by omega)))) rfl (kL (fun a H=>Ez.addU (r:=(u1+a1 / a2*u2)) H rfl rfl (by omega)) rfl (kA rfl rfl (kA rfl rfl (kP [(0,_),(1,_),(2,_),(3,_),(4,_),(11,_),(12,_),(13,_),(14,_),(23,_),(24,_),(25,_),(26,_),(27,_),(28,_),(29,_),(30,_)] rfl (kW (kS (kR [_,_,_,_,_,_,_,_] (kM rfl rfl (kM rfl rfl (kM rfl rfl (kM rfl rfl (kL (fun a H=>Ez.mulU (r:=(a1 / a2*v2)) H rfl rfl (by (exact Int.emod_eq_of_lt (by omega) (by omega)))) rfl ?_))))))))))))))))))))))))))) a H;clear H a;intro a H
     refine wl H (Ez.addU (r:=(v1+a1 / a2*v2)) H rfl rfl (by omega)) rfl (kA rfl rfl (kA rfl rfl (kP [(0,_),(1,_),(2,_),(3,_),(4,_),(11,_),(12,_),(13,_),(14,_),(23,_),(24,_),(25,_),(26,_),(27,_),(28,_),(29,_)] rfl (kW (kR [_,_,_] (kM rfl rfl (kL (fun a H=>Ez.not H rfl rfl) rfl (kA rfl rfl (kP [(0,_),(1,_),(2,_),(3,_),(4,_),(11,_),(12,_),(13,_),(14,_),(23,_),(24,_),(25,_),(26,_),(27,_),(28,_),(29,_)] rfl ?_)))))))));clear H a;intro a H
     refine Wn ?_
     refine bn (thn ?_)
     replace H:Hd a 265 [] [(0,_),(1,_),(2,_),(3,_),(4,_),(11,_),(12,_),(13,_),(14,_),(23,_),(24,_),(25,_),(26,_),(27,_),(28,_),(29,_)]:=H.pick [0,1,2,3,4,11,12,13,14,23,24,25,26,27,28,29]
     exact ⟨(a1 % a2).toNat,by omega,a2,a1 % a2,u2,u1+a1 / a2*u2,v2,v1+a1 / a2*v2,!e,rfl,H,hs1,.inr ⟨by omega,by omega⟩,⟨by omega,by omega⟩,by omega,by omega,⟨by omega,by omega⟩,⟨by omega,by omega⟩,h,hF⟩
    have ha2:a2=0:=by simpa using hb9
    have hw1:u1<=u2/\v1<=v2:=by rcases hor with h' | h';omega;exact h'
    have ha1p:0 < a1:=by
     by_cases h0:0 < a1
     ·exact h0
     exfalso
     have h1:a1=0:=by omega
     have hux:=hs.ux
     rw [h1,ha2] at hux
     simp at hux;omega
    have hG0:=hI.word (by rw [<-ha2];exact hs) ha1p hw1.1 hw1.2
    refine We (thx (thx (bxe (thn (Sq (Rl [_,_,_,_,_,_] (wl H (Ez.mv H rfl) rfl (kM rfl rfl (kM rfl rfl (kL (fun a H=>Ez.not H rfl rfl) rfl (kM rfl rfl ?_)))))))))));clear H a;intro a H
    refine wk H cf106 (intMulW (p 4) (p 4) (!(!e)) u1 (F 4) (F 4) wW (h.ib 4 (by decide)) (h.ib 4 (by decide)) (by omega) hu1) rfl rfl ?_
    rintro _ w1 ⟨r1,rfl,k1,k1v,k1n,_⟩
    refine ⟨_,rfl,?_⟩;clear H a;intro a H
    obtain ⟨F1,h1,e1,o1,f1⟩:=h.upd' (i:=4) (by decide) k1
    obtain ⟨wX,rfl⟩:∃wX,wX=w1:=⟨w1,rfl⟩
    have x5:=o1 5 (by decide);have x2:=o1 2 (by decide)
    refine kP [(0,_),(1,_),(2,_),(3,_),(4,_),(11,_),(12,_),(13,_),(14,_),(23,_),(27,_),(29,_)] rfl (kW (kS (kR [_,_,_,_,_] (kM rfl rfl (kM rfl rfl (kM rfl rfl (kM rfl rfl ?_))))))) a H;clear H a;intro a H
    refine wk H cf106 (intMulW (p 5) (p 5) (!e) v1 (F1 5) (F1 5) wX (h1.ib 5 (by decide)) (h1.ib 5 (by decide)) (by rw [x5];omega) hv1) rfl rfl ?_
    rintro _ w1 ⟨r2,rfl,k2,k2v,k2n,_⟩
    refine ⟨_,rfl,?_⟩;clear H a;intro a H
    rw [x5] at k2v k2n
    obtain ⟨F2,h2,e2,o2,f2⟩:=h1.upd' (i:=5) (by decide) k2
    obtain ⟨wY,rfl⟩:∃wY,wY=w1:=⟨w1,rfl⟩
    have y4:=(o2 4 (by decide)).trans e1;have y2:=(o2 2 (by decide)).trans x2
    refine kP [(0,_),(1,_),(2,_),(3,_),(4,_),(11,_),(12,_),(13,_),(14,_),(23,_)] rfl (kW (kR [_,_,_,_] (kM rfl rfl (kM rfl rfl (kM rfl rfl ?_))))) a H;clear H a;intro a H
    refine wk H cf75 (intAdd (p 4) (p 4) (p 5) (F2 4) (F2 4) (F2 5) wY (h2.ib 4 (by decide)) (h2.ib 4 (by decide)) (h2.ib 5 (by decide)) (by rw [y4];omega) (by rw [e2];omega)) rfl rfl ?_
    rintro _ w1 ⟨r3,rfl,k3,k3v,k3n⟩
    refine ⟨_,rfl,?_⟩;clear H a;intro a H
    rw [y4,e2] at k3v k3n
    obtain ⟨F3,h3,e3,o3,f3⟩:=h2.upd' (i:=4) (by decide) k3
    obtain ⟨wZ,rfl⟩:∃wZ,wZ=w1:=⟨w1,rfl⟩
    have z2:=(o3 2 (by decide)).trans y2
    have hF3:=((hF.trans f1).trans f2).trans f3
    refine kP [(0,_),(1,_),(2,_),(3,_),(4,_),(11,_),(12,_),(13,_),(23,_)] rfl (kW ?_) a H;clear H a;intro a H
    have hA3:=(h3.ib 2 (by decide))
    rw [z2] at hA3
    obtain ⟨ba,hba,_,hWa⟩:=hA3.sl.blk hca
    have hac:=hA3.c1
    rw [hba,hA1] at hac
    have hZw:=hA3.word hba hWa rfl hA1 ha1 (by omega)
    rw [<-z2] at hZw
    refine Rl [_,_,_,_,_,_,_] (wl H (Ez.mv H rfl) rfl (kN rfl rfl (kL (fun a H=>Ez.fa82_1 H rfl) rfl (kL (fun a H=>Ez.ld80 H rfl (hac)) rfl (kM rfl rfl (kL (fun a H=>Ez.ix80 H rfl rfl 0 rfl (by omega)) rfl ?_))))));clear H a;intro a H
    refine wls H (Ez.st103 H rfl rfl rfl (hWa.cell (by omega)) (hWa.fz _)) ?_;clear H;intro H
    refine kP [(0,_),(1,_),(2,_),(3,_),(4,_),(11,_),(12,_),(13,_)] rfl (kW ?_) a H;clear H a;intro a H
    obtain ⟨F4,h,e4,o4,f4⟩:=h3.upd' (i:=2) (by decide) hZw
    have hF:=hF3.trans f4
    have hG:Gx (nv ra.X ra.n) (nv rb.X rb.n) (F4 2).v (F4 4).v:=by
     have g2:(F4 2).v=a1:=by rw [e4];simp [IR.v,z2,hAs,hA1,nv,up]
     have g4:(F4 4).v=sg e*(F 4).v*u1+sg (!e)*(F 5).v*v1:=by rw [o4 4 (by decide),e3,k3v,k1v,k2v,Bool.not_not]
     rw [g2,g4];exact hG0
    have hn4:(F4 2).n<=4:=by rw [e4];show (F3 2).n<=4;rw [z2];exact hn4
    have hu4:(F4 4).n<=500:=by rw [o4 4 (by decide),e3];omega
    replace H:Hd a 265 [] [(0,_),(1,_),(2,_),(3,_),(11,_),(13,_)]:=H.pick [0,1,2,3,11,13]
    exact ⟨p,_,H,h,hp0,hp1,hG,hn4,by omega,hF⟩
   have hB0:(F 3).n=0:=by have:=Df hb7;omega
   have hG:Gx (nv ra.X ra.n) (nv rb.X rb.n) (F 2).v (F 4).v:=by have hh:=hI;rw [IR.v_zero hB0] at hh;exact hh.done
   refine Wk0 (thn ?_)
   replace H:Hd a 265 [] [(0,_),(1,_),(2,_),(3,_),(11,_),(13,_)]:=H.pick [0,1,2,3,11,13]
   exact ⟨p,_,H,h,hp0,hp1,hG,hn4,by omega,hF⟩
  have hB0:(F 3).n=0:=by have:=Df hb5;omega
  have hG:Gx (nv ra.X ra.n) (nv rb.X rb.n) (F 2).v (F 4).v:=by have hh:=hI;rw [IR.v_zero hB0] at hh;exact hh.done
  refine Wk0 (thn ?_)
  replace H:Hd a 265 [] [(0,_),(1,_),(2,_),(3,_),(11,_),(13,_)]:=H.pick [0,1,2,3,11,13]
  exact ⟨p,_,H,h,hp0,hp1,hG,hn4,by omega,hF⟩
 clear H a
 intro a w hJ
 obtain ⟨p,F,H,h,hp0,hp1,hG,hn4,hu4,hF⟩:=hJ
 obtain ⟨wL,rfl⟩:∃wL,wL=w:=⟨w,rfl⟩
 have hcn:=(haI.hi hF hpaB hraB).c0
 rw [has] at hcn
 rw [<-hp0,<-hp1] at H
 refine Sq (Rl [_,_,_,_,_] (wl H (Ez.mv H rfl) rfl (kN rfl rfl (kL (fun a H=>Ez.fa82_0 H rfl) rfl (kL (fun a H=>Ez.ld4 H rfl (hcn)) rfl (kA rfl rfl (kP [(0,_),(1,_),(2,_),(3,_),(11,_),(13,_),(32,_)] rfl (kW (kS (kS (kR [_,_] (kM rfl rfl (kL (fun a H=>Ez.neN78 H rfl rfl (r:=false) rfl) rfl (kP [(0,_),(1,_),(2,_),(3,_),(11,_),(13,_),(32,_),(218,_)] rfl (kW ?_)))))))))))))));clear H a;intro a H
 refine Cf (H.o rfl) (Wk0 (thn (Sq (Sq (Rl [_,_] (wl H (Ez.mv H rfl) rfl (kL (fun a H=>Ez.neN78 H rfl rfl (r:=true) rfl) rfl (kP [(0,_),(1,_),(11,_),(13,_),(32,_),(248,_)] rfl (kW ?_)))))))));clear H a;intro a H
 refine Ct (H.o rfl) (Sq (Rl [_,_,_] (wl H (Ez.mv H rfl) rfl (kM rfl rfl ?_))));clear H a;intro a H
 refine wk H cf76 (intSet (p 1) (p 4) (F 1) (F 4) wL (h.ib 1 (by decide)) (h.ib 4 (by decide)) (h.ne 1 (by decide) 4 (by decide) (by decide)) (by omega)) rfl rfl ?_
 rintro _ w1 ⟨r1,rfl,k1,k1v,k1s,k1n⟩
 refine ⟨_,rfl,?_⟩;clear H a;intro a H
 obtain ⟨F1,h1,e1,o1,f1⟩:=h.upd' (i:=1) (by decide) k1
 obtain ⟨wX,rfl⟩:∃wX,wX=w1:=⟨w1,rfl⟩
 have x2:=o1 2 (by decide)
 refine kP [(0,_),(1,_),(11,_),(32,_)] rfl (kW (kS (kR [_] (kM rfl rfl (kP [(0,_),(1,_),(11,_),(252,_)] rfl (kW ?_)))))) a H;clear H a;intro a H
 refine Cf (H.o rfl) (Wk0 (thn (Sq (Rl [_,_,_] (wl H (Ez.mv H rfl) rfl (kM rfl rfl ?_))))));clear H a;intro a H
 refine wk H cf76 (intSet (p 0) (p 2) (F1 0) (F1 2) wX (h1.ib 0 (by decide)) (h1.ib 2 (by decide)) (h1.ne 0 (by decide) 2 (by decide) (by decide)) (by rw [x2];omega)) rfl rfl ?_
 rintro _ w1 ⟨r2,rfl,k2,k2v,k2s,k2n⟩
 refine ⟨_,rfl,?_⟩;clear H a;intro a H
 obtain ⟨F2,h2,e2,o2,f2⟩:=h1.upd' (i:=0) (by decide) k2
 rw [x2] at k2v k2s k2n
 refine kP [(0,_)] rfl (kW (kS (kR [_,_] (kM rfl rfl (kA rfl rfl (kP [(10,_)] rfl (kW ?_))))))) a H;clear H a;intro a H
 refine Wr ?_
 refine rt1 H rfl rfl ?_
 have hg2:(F2 0).v=(F 2).v:=by rw [e2,k2v]
 have hg1':(F2 1).v=(F 4).v:=by rw [o2 1 (by decide),e1,k1v]
 refine ⟨F2,by rw [hp0],(h2.cut (by decide)).congr (fun i hi=>?_),by rw [hg2,hg1'];exact hG,by rw [e2,k2n];exact hn4,by rw [o2 1 (by decide),e1,k1n];exact hu4,(hF.trans f1).trans f2⟩
 match i,hi with
 | 0,_=>exact hp0
 | 1,_=>exact hp1
end
section
set_option maxRecDepth 8000
namespace Ez
section
variable {a:Act} {N:Nat} {ds:List Deferred} {l:Env} {w:World} {d:Option Nat} {ty:TypeId} {pos:String} {after:Array Edge} {g:Option (Nat × Bool)}
theorem bs80 (H:Hd a N ds l) {x:Operand} {v:Int} (h:ov l x=some (.int .u64 v)):(execOp a.eval ⟨d,.buildSlice 80 1 #[(0,x)],ty,pos,after,g⟩).run Tryz.prog w=.ok (.value (.slice (some ⟨w.heap.size,0,none⟩) 1 1)) (w.alloc (.cells #[.int .u64 v] 103)):=by
 have e:=H.o h
 revert e;generalize a.eval=ρ;intro e
 simp only [execOp];go_simp
theorem bld82 (H:Hd a N ds l) {x y:Operand} {b:Bool} {q:Option Addr} {n c:Nat} (h:ov l x=some (.bool b)) (h':ov l y=some (.slice q n c)):(execOp a.eval ⟨d,.build 82 #[(0,x),(1,y)],ty,pos,after,g⟩).run Tryz.prog w=.ok (.value (.agg #[.bool b,.slice q n c])) w:=by
 have e:=H.o h
 have e':=H.o h'
 revert e e';generalize a.eval=ρ;intro e e'
 simp only [execOp];go_simp
theorem box82 (H:Hd a N ds l) {x:Operand} {u v:Value} (h:ov l x=some (.agg #[u,v])) (hu:u.cells=#[u]) (hv:v.cells=#[v]):(execOp a.eval ⟨d,.box 82 x,ty,pos,after,g⟩).run Tryz.prog w=.ok (.value (.pointer (some ⟨w.heap.size,0,none⟩))) (w.alloc (.cells #[u,v] 82)):=by
 have e:=H.o h
 simp only [execOp,e];go_simp
end
end Ez
theorem Wk.one (w:World) {v:Int} (hv:U64 v):Wk (w.alloc (.cells #[.int .u64 v] 103)) w.heap.size 1 (fun _=>v):=
 ⟨by rw [heap_alloc_new];rfl,fun _ _=>hv,by decide⟩
theorem natOne (w:World):
 Calls Tryz.prog 91 #[] w fun e w'=>∃b,e=.returned (.slice (some ⟨b,0,none⟩) 1 1)/\Wk w' b 1 (fun _=>1)/\w.heap.size<=b/\Fr NoT w w':=by
 refine Qd (vs:= []) Tryz.func91 rfl rfl ?_
 intro a H
 replace H:Hd a 2 [] []:=H
 refine Sq (Rl [_] (wl H (Ez.asn H rfl) rfl (kW (kS (kR [_,_] (kL (fun a H=>Ez.bs80 H rfl) rfl (kA rfl rfl (kP [(0,_)] rfl (kW ?_)))))))));clear H a;intro a H
 refine Wr ?_
 refine rt1 H rfl rfl ?_
 exact ⟨_,rfl,Wk.one w ⟨by decide,by decide⟩,Nat.le_refl _,(Fr.refl NoT w).alloc _⟩
theorem intOne (w:World):
 Calls Tryz.prog 74 #[] w fun e w'=>∃b r,e=.returned (pz b)/\Ib w' b r/\r.s=false/\r.n=1/\nv r.X r.n=1/\w.heap.size<=b/\Fr NoT w w':=by
 refine Qd (vs:= []) Tryz.func74 rfl rfl ?_
 intro a H
 replace H:Hd a 4 [] []:=H
 refine Sq (Rl [_] (wl H (Ez.asn H rfl) rfl (kW (kS (kR [_,_,_,_] ?_)))));clear H a;intro a H
 refine wk H cf91 (natOne w) rfl rfl ?_
 rintro _ w1 ⟨b,rfl,h1,h2,h3⟩
 refine ⟨_,rfl,?_⟩;clear H a;intro a H
 refine wl H (Ez.bld82 H rfl rfl) rfl (kL (fun a H=>Ez.box82 H rfl rfl rfl) rfl (kA rfl rfl (kP [(0,_)] rfl (kW ?_))));clear H a;intro a H
 refine Wr ?_
 refine rt1 H rfl rfl ?_
 refine ⟨_,⟨false,some ⟨b,0,none⟩,1,1,fun _=>1⟩,rfl,⟨heap_alloc_new w1 _,?_,.inr (by show (1:Int)≠0;decide)⟩,rfl,rfl,by simp [nv],h3.size,h3.alloc _⟩
 exact (Sl.of h1 (Nat.le_refl _) (by decide)).frN ((Fr.refl NoT w1).alloc _)
theorem intCmp (x y:Nat) (rx ry:IR) (w:World) (hx:Ib w x rx) (hy:Ib w y ry) (hne:x≠y) (hxs:rx.s=false) (hys:ry.s=false) (hnx:rx.n < 1000) (hny:ry.n < 1000):
 Calls Tryz.prog 73 #[pz x,pz y] w fun e w'=>e=.returned (.int .i64 (cmpI (nv rx.X rx.n) (nv ry.X ry.n)))/\Cd w w':=by
 refine Qd (vs:= [pz x,pz y]) Tryz.func73 rfl rfl ?_
 intro a H
 replace H:Hd a 39 [] [(0,pz x),(1,pz y)]:=H
 refine Sq (Rl [_] (wl H (Ez.asn H rfl) rfl (kW (kS ?_))));clear H a;intro a H
 refine Wb (Sq (Rl [_,_,_,_] (wl H (Ez.mv H rfl) rfl (kM rfl rfl (kL (fun a H=>Ez.eqI H rfl rfl hx.blk hy.blk (r:=false) (by simp [hne])) rfl (kA rfl rfl (kP [(0,_),(1,_),(4,_),(5,_)] rfl (kW ?_))))))));clear H a;intro a H
 refine Cf (H.o rfl) (Sq ?_)
 have hcx:=hx.c0
 have hcy:=hy.c0
 rw [hxs] at hcx
 rw [hys] at hcy
 refine Qr (ls:= [_,_,_,_,_,_,_,_,_,_]) Qb (by kernel_rfl) (wq H (fun w2 hw2=>Ez.mv H rfl) rfl (jN rfl rfl (jL (fun a H w2 hw2=>Ez.fa82_0 H rfl) rfl (jL (fun a H w2 hw2=>Ez.ld4 H rfl (hw2.cell hcx)) rfl (jM rfl rfl (jN rfl rfl (jL (fun a H w2 hw2=>Ez.fa82_0 H rfl) rfl (jL (fun a H w2 hw2=>Ez.ld4 H rfl (hw2.cell hcy)) rfl (jL (fun a H w2 hw2=>Ez.eqb H rfl rfl rfl) rfl (jA rfl rfl ?_))))))))));clear H a;intro a H
 refine wqe ?_
 intro w1 hw
 have hC:=hw
 have hx:=hx.cd hw
 have hy:=hy.cd hw
 have hcx:=hw.cell hcx
 clear hw
 replace H:Hd a 39 [] [(0,_),(1,_),(4,_),(9,_)]:=H.pick [0,1,4,9]
 refine Ct (H.o rfl) (Sq (Qr (ls:= [_,_,_,_,_,_,_,_,_,_]) Qb (by kernel_rfl) (wq H (fun w2 hw2=>Ez.mv H rfl) rfl (jN rfl rfl (jL (fun a H w2 hw2=>Ez.fa82_1 H rfl) rfl (jL (fun a H w2 hw2=>Ez.ld80 H rfl (hw2.cell hx.c1)) rfl (jM rfl rfl (jN rfl rfl (jL (fun a H w2 hw2=>Ez.fa82_1 H rfl) rfl (jL (fun a H w2 hw2=>Ez.ld80 H rfl (hw2.cell hy.c1)) rfl ?_))))))))));clear H a;intro a H
 refine wkq H cf90 (cmpW rx.q ry.q rx.n rx.c ry.n ry.c rx.X ry.X w1 hx.sl hy.sl (by omega) (by omega) hx.nm hy.nm) rfl rfl ?_;clear H a;intro a H
 refine wq H (fun w2 hw2=>Ez.asn H rfl) rfl ?_;clear H a;intro a H
 refine wqe ?_
 intro w1 hw
 have hC:=hC.trans hw
 have hcx:=hw.cell hcx
 clear hw
 refine kP [(0,_),(4,_)] rfl (kS (kR [_,_,_,_] (kM rfl rfl (kN rfl rfl (kL (fun a H=>Ez.fa82_0 H rfl) rfl (kL (fun a H=>Ez.ld4 H rfl (hcx)) rfl (kP [(4,_),(31,_)] rfl (kW ?_)))))))) a H;clear H a;intro a H
 refine Cf (H.o rfl) (Wk0 (bn (thn (Wr ?_))))
 refine rt1 H rfl rfl ?_
 exact ⟨rfl,hC⟩
theorem intGCD (B:Nat) (p0:Nat->Nat) (F0:Nat->IR) (pa pb:Nat) (ra rb:IR) (w:World) (h2:Ih B 2 w p0 F0) (hB5:4 < B) (haI:Ib w pa ra) (hbI:Ib w pb rb) (hpaB:pa < B) (hpbB:pb < B) (hraB:∀k j,TQ ra.q k j->k < B) (hrbB:∀k j,TQ rb.q k j->k < B) (hg1:w.cell? ⟨1,0,none⟩=some (.int .i64 40)) (hg4:w.cell? ⟨4,0,none⟩=some (.int .i64 40)) (has:ra.s=false) (hab:nv ra.X ra.n < nv rb.X rb.n) (hna:ra.n<=4) (hnb:rb.n<=4):
 Calls Tryz.prog 72 #[.pointer (some ⟨p0 0,0,none⟩),.pointer (some ⟨p0 1,0,none⟩),.pointer none,pz pa,pz pb] w fun e w'=>∃F',e=.returned (.pointer (some ⟨p0 0,0,none⟩))/\Ih B 2 w' p0 F'/\Gx (nv ra.X ra.n) (nv rb.X rb.n) (F' 0).v (F' 1).v/\(F' 0).n<=4/\(F' 1).n<=500/\Fr (Hi B) w w':=by
 refine Qd (vs:= [.pointer (some ⟨p0 0,0,none⟩),.pointer (some ⟨p0 1,0,none⟩),.pointer none,pz pa,pz pb]) Tryz.func72 rfl rfl ?_
 intro a H
 replace H:Hd a 89 [] [(0,.pointer (some ⟨p0 0,0,none⟩)),(1,.pointer (some ⟨p0 1,0,none⟩)),(2,.pointer none),(3,pz pa),(4,pz pb)]:=H
 refine Sq (Rl [_] (wl H (Ez.asn H rfl) rfl (kW (kS (kS ?_)))));clear H a;intro a H
 rcases Nat.eq_zero_or_pos ra.n with h0 | h0
 ·have hbn:0 < rb.n:=by
   rcases Nat.eq_zero_or_pos rb.n with h0 | h0
   ·have:=Q5 ra.n haI.u
    rw [h0] at hab;simp [nv] at hab;omega
   exact h0
  refine Rl [_,_,_,_,_,_,_,_,_,_,_,_,_,_] (wl H (Ez.mv H rfl) rfl (kN rfl rfl (kL (fun a H=>Ez.fa82_1 H rfl) rfl (kL (fun a H=>Ez.ld80 H rfl (haI.c1)) rfl (kL (fun a H=>Ez.len80 H rfl) rfl (kL (fun a H=>Ez.eql (r:=true) H rfl rfl (by (simp;omega))) rfl (kM rfl rfl (kX rfl rfl rfl rfl rfl (kX rfl rfl rfl rfl rfl (kX rfl rfl rfl rfl rfl (kX rfl rfl rfl rfl rfl (kX rfl rfl rfl rfl rfl (kX rfl rfl rfl rfl rfl (kL (fun a H=>Ez.pkT H rfl rfl) rfl (kP [(0,_),(1,_),(2,_),(3,_),(4,_),(10,_),(28,_)] rfl (kW ?_))))))))))))))));clear H a;intro a H
  refine Ct (H.o rfl) (Sq (Qr (ls:= [_,_,_,_,_,_,_,_,_,_,_,_,_,_,_,_,_,_,_,_,_,_]) Qb (by kernel_rfl) (wq H (fun w2 hw2=>Ez.mv H rfl) rfl (jN rfl rfl (jL (fun a H w2 hw2=>Ez.fa82_1 H rfl) rfl (jL (fun a H w2 hw2=>Ez.ld80 H rfl (hw2.cell haI.c1)) rfl (jL (fun a H w2 hw2=>Ez.len80 H rfl) rfl (jM rfl rfl (jN rfl rfl (jL (fun a H w2 hw2=>Ez.fa82_1 H rfl) rfl (jL (fun a H w2 hw2=>Ez.ld80 H rfl (hw2.cell hbI.c1)) rfl (jL (fun a H w2 hw2=>Ez.len80 H rfl) rfl (jM rfl rfl (jN rfl rfl (jL (fun a H w2 hw2=>Ez.fa82_0 H rfl) rfl (jL (fun a H w2 hw2=>Ez.ld4 H rfl (hw2.cell haI.c0)) rfl (jM rfl rfl (jN rfl rfl (jL (fun a H w2 hw2=>Ez.fa82_0 H rfl) rfl (jL (fun a H w2 hw2=>Ez.ld4 H rfl (hw2.cell hbI.c0)) rfl (jA rfl rfl (jA rfl rfl (jA rfl rfl (jA rfl rfl ?_))))))))))))))))))))))));clear H a;intro a H
  refine wqe ?_
  intro w1 hw
  have h2:=h2.cd hw
  have hbI:=hbI.cd hw
  have hC:=hw
  clear hw
  obtain ⟨wX,rfl⟩:∃wX,wX=w1:=⟨w1,rfl⟩
  refine kP [(0,_),(1,_),(2,_),(3,_),(4,_),(10,_),(11,_),(12,_),(13,_),(14,_)] rfl (kS (kS (kR [_,_] (kM rfl rfl (kL (fun a H=>Ez.eql (r:=true) H rfl rfl (by (simp;omega))) rfl (kP [(0,_),(1,_),(2,_),(3,_),(4,_),(10,_),(11,_),(12,_),(13,_),(14,_),(48,_)] rfl (kW ?_))))))) a H;clear H a;intro a H
  refine Ct (H.o rfl) (Rl [_,_,_] (wl H (Ez.mv H rfl) rfl (kM rfl rfl ?_)));clear H a;intro a H
  refine wk H cf76 (intSet (p0 0) pb (F0 0) rb wX (h2.ib 0 (by decide)) hbI (by have:=h2.lo 0 (by decide);omega) (by omega)) rfl rfl ?_
  rintro _ w1 ⟨r1,rfl,k1,k1v,k1s,k1n⟩
  refine ⟨_,rfl,?_⟩;clear H a;intro a H
  obtain ⟨wY,rfl⟩:∃wY,wY=w1:=⟨w1,rfl⟩
  refine kP [(0,_),(1,_),(2,_),(3,_),(4,_),(10,_),(11,_),(12,_),(13,_),(14,_)] rfl (kW (kS (kR [_,_,_,_] (kM rfl rfl (kN rfl rfl (kL (fun a H=>Ez.fa82_0 H rfl) rfl ?_)))))) a H;clear H a;intro a H
  refine wls H (Ez.st4 H rfl rfl rfl k1.ib.c0 (k1.ib.fz _)) ?_;clear H;intro H
  refine kP [(0,_),(1,_),(2,_),(3,_),(4,_),(10,_),(11,_),(12,_),(13,_),(14,_)] rfl (kW ?_) a H;clear H a;intro a H
  have hN:=k1.ib.neg false r1.q
  have k2:Zr wX _ (p0 0) (F0 0) ⟨false,r1.q,r1.n,r1.c,r1.X⟩:=k1.trans ⟨hN.1,Own.refl _ _,hN.2⟩
  obtain ⟨F1,h3,e3,o3,f3⟩:=h2.upd' (i:=0) (by decide) k2
  generalize wY.setCell ⟨p0 0,0,none⟩ (.bool false)=wZ at h3 f3
  refine Sq (Sq (Rl [_,_] (wl H (Ez.mv H rfl) rfl (kL (fun a H=>Ez.neN78 H rfl rfl (r:=true) rfl) rfl (kP [(0,_),(1,_),(2,_),(3,_),(4,_),(10,_),(11,_),(12,_),(13,_),(14,_),(59,_)] rfl (kW ?_))))));clear H a;intro a H
  refine Ct (H.o rfl) (Sq (Rl [_,_] (wl H (Ez.mv H rfl) rfl (kL (fun a H=>Ez.eql (r:=true) H rfl rfl (by (simp;omega))) rfl (kP [(0,_),(1,_),(2,_),(3,_),(4,_),(10,_),(12,_),(13,_),(14,_),(61,_)] rfl (kW ?_))))));clear H a;intro a H
  refine Ct (H.o rfl) (Rl [_,_] (wl H (Ez.mv H rfl) rfl ?_));clear H a;intro a H
  refine wk H cf88 (intSetUint64 (p0 1) 0 (F1 1) wZ (h3.ib 1 (by decide)) ⟨by decide,by decide⟩) rfl rfl ?_
  rintro _ w1 ⟨r4,rfl,k4,k4v,k4s,k4n⟩
  refine ⟨_,rfl,?_⟩;clear H a;intro a H
  obtain ⟨F2,h4,e4,o4,f4⟩:=h3.upd' (i:=1) (by decide) k4
  refine kP [(0,_),(1,_),(2,_),(3,_),(4,_),(10,_),(12,_),(14,_)] rfl (kW (kS (kS (kR [_,_] (kM rfl rfl (kL (fun a H=>Ez.neN78 H rfl rfl (r:=false) rfl) rfl (kP [(0,_),(1,_),(2,_),(3,_),(4,_),(10,_),(12,_),(14,_),(71,_)] rfl (kW ?_)))))))) a H;clear H a;intro a H
  refine Cf (H.o rfl) (Wk0 (thn (Sq (Rl [_,_] (wl H (Ez.mv H rfl) rfl (kA rfl rfl (kP [(0,_),(1,_),(2,_),(3,_),(4,_),(10,_)] rfl (kW ?_))))))));clear H a;intro a H
  refine Wr (thr ?_)
  refine rt1 H rfl rfl ?_
  have g0:(F2 0).v=nv rb.X rb.n:=by
   rw [o4 0 (by decide),e3]
   have hk:=k1v
   unfold IR.v at hk ⊢
   simp only
   rw [k1s] at hk
   cases hs:rb.s with
   | false=>rw [hs] at hk;simpa using hk
   | true=>rw [hs] at hk;simp at hk ⊢;omega
  have g1:(F2 1).v=0:=by rw [e4,k4v]
  refine ⟨F2,rfl,h4,?_,by rw [o4 0 (by decide),e3];show r1.n<=4;omega,by rw [e4];omega,((hC.fr _).trans f3).trans f4⟩
  rw [g0,g1,h0]
  have hz:nv ra.X 0=0:=rfl
  rw [h0] at hab
  rw [hz] at hab ⊢
  exact ⟨hab,Int.dvd_refl _,Int.dvd_zero _,by simp,by omega,by omega⟩
 have hbn:0 < rb.n:=by
  rcases Nat.eq_zero_or_pos rb.n with h0 | h0
  ·have:=Q5 ra.n haI.u
   rw [h0] at hab;simp [nv] at hab;omega
  exact h0
 refine Rl [_,_,_,_,_,_,_,_,_,_,_,_,_,_] (wl H (Ez.mv H rfl) rfl (kN rfl rfl (kL (fun a H=>Ez.fa82_1 H rfl) rfl (kL (fun a H=>Ez.ld80 H rfl (haI.c1)) rfl (kL (fun a H=>Ez.len80 H rfl) rfl (kL (fun a H=>Ez.eql (r:=false) H rfl rfl (by (simp;omega))) rfl (kM rfl rfl (kG (fun a H=>Ez.mv H rfl) rfl rfl rfl rfl rfl (kG (fun a H=>Ez.nc H rfl) rfl rfl rfl rfl rfl (kG (fun a H=>Ez.fa82_1 H rfl) rfl rfl rfl rfl rfl (kG (fun a H=>Ez.ld80 H rfl (hbI.c1)) rfl rfl rfl rfl rfl (kG (fun a H=>Ez.len80 H rfl) rfl rfl rfl rfl rfl (kG (fun a H=>Ez.eql (r:=false) H rfl rfl (by (simp;omega))) rfl rfl rfl rfl rfl (kL (fun a H=>Ez.pkF H rfl rfl) rfl (kP [(0,_),(1,_),(2,_),(3,_),(4,_),(10,_),(28,_)] rfl (kW ?_))))))))))))))));clear H a;intro a H
 refine Cf (H.o rfl) (Wk0 (thn (Sq ?_)))
 have hap:0 < nv ra.X ra.n:=by
  have:=nv_ge h0 haI.u (by rcases haI.nm with h' | h';omega;exact h')
  have:=Q3 (ra.n - 1)
  omega
 refine Rl [_,_,_,_,_,_,_] (wl H (Ez.mv H rfl) rfl (kM rfl rfl (kM rfl rfl (kM rfl rfl (kM rfl rfl ?_)))));clear H a;intro a H
 refine wk H cf89 (lehmerGCD B p0 F0 pa pb ra rb w h2 hB5 haI hbI hpaB hpbB hraB hrbB hg1 hg4 has hap hab hna hnb) rfl rfl ?_
 rintro _ w1 ⟨F',rfl,k1,k2,k3,k4,k5⟩
 refine ⟨_,rfl,?_⟩;clear H a;intro a H
 refine wl H (Ez.asn H rfl) rfl (kP [(10,_)] rfl (kW ?_));clear H a;intro a H
 refine Wr ?_
 refine rt1 H rfl rfl ?_
 exact ⟨F',rfl,k1,k2,k3,k4,k5⟩
theorem modInverse (z pg pn:Nat) (rz rg rn:IR) (w:World) (hz:Ib w z rz) (hg:Ib w pg rg) (hn:Ib w pn rn) (hg1:w.cell? ⟨1,0,none⟩=some (.int .i64 40)) (hg4:w.cell? ⟨4,0,none⟩=some (.int .i64 40)) (hgs:rg.s=false) (hns:rn.s=false) (hlt:nv rg.X rg.n < nv rn.X rn.n) (hgn:rg.n<=4) (hnn:rn.n<=4):
 Calls Tryz.prog 60 #[pz z,pz pg,pz pn] w fun e w'=>(e=.returned (.pointer none)/\Fr (Hi w.heap.size) w w'/\∃g:Int,1 < g/\g∣nv rn.X rn.n/\g∣nv rg.X rg.n)\/(∃r,e=.returned (pz z)/\Zr w w' z rz r/\(0<=r.v/\r.v<=nv rn.X rn.n)/\nv rn.X rn.n∣1 - r.v*nv rg.X rg.n/\r.n<=600):=by
 have hcn:=hn.c0
 have hcg:=hg.c0
 rw [hns] at hcn
 rw [hgs] at hcg
 refine Qd (vs:= [pz z,pz pg,pz pn]) Tryz.func60 rfl rfl ?_
 intro a H
 replace H:Hd a 38 [] [(0,pz z),(1,pz pg),(2,pz pn)]:=H
 refine Sq (Rl [_] (wl H (Ez.asn H rfl) rfl (kW (kS (kS (kR [_,_,_,_] (kM rfl rfl (kN rfl rfl (kL (fun a H=>Ez.fa82_0 H rfl) rfl (kL (fun a H=>Ez.ld4 H rfl (hcn)) rfl (kP [(0,_),(1,_),(2,_),(6,_),(14,_)] rfl (kW ?_))))))))))));clear H a;intro a H
 refine Cf (H.o rfl) (Wk0 (thn (Sq (Sq (Rl [_,_,_,_] (wl H (Ez.mv H rfl) rfl (kN rfl rfl (kL (fun a H=>Ez.fa82_0 H rfl) rfl (kL (fun a H=>Ez.ld4 H rfl (hcg)) rfl (kP [(0,_),(1,_),(2,_),(6,_),(20,_)] rfl (kW ?_)))))))))));clear H a;intro a H
 refine Cf (H.o rfl) (Wk0 (thn (Sq ?_)))
 obtain ⟨B,hB⟩:∃B,B=w.heap.size:=⟨_,rfl⟩
 have h0:Ih B 0 w (fun _=>0) (fun _=>r0):=⟨fun i hi=>by omega,fun i hi=>by omega,fun i hi=>by omega,fun i hi=>by omega,fun i hi=>by omega⟩
 have hF:=Fr.refl (Hi B) w
 have sB:B<=w.heap.size:=by omega
 have hB5:4 < B:=by have:=Bl0 w _ hg4;rw [hB];exact this
 refine Rl [_,_] (wl H (Ez.al82) rfl ?_);clear H a;intro a H
 obtain ⟨b0,hb,h1,fA,sA⟩:=h0.al sB
 rw [<-hb] at H
 clear hb sB
 obtain ⟨wA,hwA⟩:∃x,x=World.alloc w (.cells #[.bool false,.slice none 0 0] 82):=⟨_,rfl⟩
 rw [<-hwA] at h1 fA sA ⊢
 clear hwA
 have sB:=sA
 have hF:=hF.trans fA
 clear fA sA
 refine wl H (Ez.al82) rfl (kP [(0,_),(1,_),(2,_),(6,_),(9,_),(10,_)] rfl (kW ?_));clear H a;intro a H
 obtain ⟨b1,hb,h2,fA,sA⟩:=h1.al sB
 rw [<-hb] at H
 clear hb sB
 obtain ⟨wA,hwA⟩:∃x,x=World.alloc wA (.cells #[.bool false,.slice none 0 0] 82):=⟨_,rfl⟩
 rw [<-hwA] at h2 fA sA ⊢
 clear hwA
 have sB:=sA
 have hF:=hF.trans fA
 clear fA sA
 obtain ⟨wX,rfl⟩:∃wX,wX=wA:=⟨wA,rfl⟩
 refine Sq (Rl [_,_,_] (wl H (Ez.mv H rfl) rfl (kM rfl rfl ?_)));clear H a;intro a H
 refine wk H cf72 (intGCD B (un (un (fun _=>0) 0 b0) 1 b1) _ pg pn rg rn wX h2 hB5 (hg.hi hF (by rw [hB];exact hg.lt) (fun k j ht=>by rw [hB];exact hg.sl.lt ht)) (hn.hi hF (by rw [hB];exact hn.lt) (fun k j ht=>by rw [hB];exact hn.sl.lt ht)) (by rw [hB];exact hg.lt) (by rw [hB];exact hn.lt) (fun k j ht=>by rw [hB];exact hg.sl.lt ht) (fun k j ht=>by rw [hB];exact hn.sl.lt ht) (hF.glob (by omega) hg1) (hF.glob (by omega) hg4) hgs hlt hgn hnn) rfl rfl ?_
 rintro _ w1 ⟨F1,rfl,h3,hG,hn0,hn1,f3⟩
 refine ⟨_,rfl,?_⟩;clear H a;intro a H
 have hF:=hF.trans f3
 clear f3
 obtain ⟨wY,rfl⟩:∃wY,wY=w1:=⟨w1,rfl⟩
 have hI0:Ib wY b0 (F1 0):=h3.ib 0 (by decide)
 have hI1:Ib wY b1 (F1 1):=h3.ib 1 (by decide)
 obtain ⟨hs0,hv0⟩:=IR.pos hI0.u hG.1
 refine kP [(0,_),(2,_),(6,_),(9,_),(10,_)] rfl (kW (kS (kS (kR [_,_,_] ?_)))) a H;clear H a;intro a H
 refine wk H cf74 (intOne wY) rfl rfl ?_
 rintro _ w1 ⟨bo,ro,rfl,j1,j2,j3,j4,j5,j6⟩
 refine ⟨_,rfl,?_⟩;clear H a;intro a H
 obtain ⟨wZ,rfl⟩:∃wZ,wZ=w1:=⟨w1,rfl⟩
 have hI0:=hI0.fr j6 (fun _ f=>f) (fun _ _ _ _ f=>f)
 have hI1':=hI1.fr j6 (fun _ f=>f) (fun _ _ _ _ f=>f)
 have hF:=hF.trans j6.noT
 refine wk H cf73 (intCmp b0 bo (F1 0) ro wZ hI0 j1 (by have h9:b0 < wY.heap.size:=(h3.ib 0 (by decide)).lt;omega) hs0 j2 (by omega) (by omega)) rfl rfl ?_
 rintro _ w1 ⟨rfl,hC⟩
 refine ⟨_,rfl,?_⟩;clear H a;intro a H
 have hF:=hF.trans (hC.fr _)
 have hI1':=hI1'.cd hC
 rw [hv0,j4] at H
 obtain ⟨wV,rfl⟩:∃wV,wV=w1:=⟨w1,rfl⟩
 refine wl H (Ez.neq H rfl rfl (rfl)) rfl (kP [(0,_),(2,_),(6,_),(10,_),(29,_)] rfl (kW ?_));clear H a;intro a H
 refine Cs (H.o rfl) (fun hb2=>?_) (fun hb2=>?_)
 ·have hne:(F1 0).v≠1:=by
   have:cmpI (F1 0).v 1≠0:=by simpa using hb2
   intro e;rw [e] at this;exact this rfl
  refine Sq (Rl [_] (wl H (Ez.asn H rfl) rfl (kP [(0,_),(2,_),(6,_),(10,_)] rfl (kW ?_))));clear H a;intro a H
  refine Wr (thr ?_)
  refine rt1 H rfl rfl ?_
  exact .inl ⟨rfl,by rw [<-hB];exact hF,(F1 0).v,by have:=hG.1;omega,hG.2.1,hG.2.2.1⟩
 have heq:(F1 0).v=1:=by
  have:cmpI (F1 0).v 1=0:=by simpa using hb2
  unfold cmpI at this
  split at this
  ·omega
  split at this <;> omega
 refine Wk0 (thn (Sq (Sq ?_)))
 obtain ⟨_,_,_,hmod,hl1,hl2⟩:=hG
 rw [heq] at hmod
 have hz9:=hz.hi hF (by rw [hB];exact hz.lt) (fun k j ht=>by rw [hB];exact hz.sl.lt ht)
 have hn9:=hn.hi hF (by rw [hB];exact hn.lt) (fun k j ht=>by rw [hB];exact hn.sl.lt ht)
 have hnv:rn.v=nv rn.X rn.n:=by unfold IR.v;rw [hns];simp
 have hzb:z≠b1:=by have h9:B<=b1:=h3.lo 1 (by decide);have:=hz.lt;omega
 refine Rl [_,_] (wl H (Ez.fa82_0 H rfl) rfl (kL (fun a H=>Ez.ld4 H rfl (hI1'.c0)) rfl (kP [(0,_),(2,_),(6,_),(10,_),(31,_)] rfl (kW ?_))));clear H a;intro a H
 refine Cs (H.o rfl) (fun hb3=>?_) (fun hb3=>?_)
 ·have hsg:(F1 1).s=true:=hb3
  have hle:(F1 1).v<=0:=by unfold IR.v;rw [hsg];have:=Q5 (F1 1).n hI1'.u;simp;omega
  refine Rl [_,_,_] (wl H (Ez.mv H rfl) rfl (kM rfl rfl ?_));clear H a;intro a H
  refine wk H cf75 (intAdd z b1 pn rz (F1 1) rn wV hz9 hI1' hn9 (by omega) (by omega)) rfl rfl ?_
  rintro _ w1 ⟨r,rfl,k1,k2,k3⟩
  refine ⟨_,rfl,?_⟩;clear H a;intro a H
  refine kP [(0,_),(6,_)] rfl (kW (kS (kR [_,_] (kM rfl rfl (kA rfl rfl (kP [(6,_)] rfl (kW ?_))))))) a H;clear H a;intro a H
  refine Wr ?_
  refine rt1 H rfl rfl ?_
  have hFz:Fr (ZT z rz.q) w w1:=(hF.mono fun k o hk e=>by have:B<=k:=e;omega).trans (k1.fr)
  have hOz:Own w rz.q r.q:=fun k j ht=>(k1.ow k j ht).imp id (fun h=>Nat.le_trans hF.size h)
  refine .inr ⟨r,rfl,⟨k1.ib,hOz,hFz⟩,?_,?_,by omega⟩
  ·rw [k2];first | (rw [hnv];omega) | omega
  rw [k2]
  first
   | (rw [hnv,show 1 - ((F1 1).v+nv rn.X rn.n)*nv rg.X rg.n=(1 - (F1 1).v*nv rg.X rg.n) - nv rn.X rn.n*nv rg.X rg.n by grind];exact Int.dvd_sub hmod (Int.dvd_mul_right _ _))
   | exact hmod
 have hsg:(F1 1).s=false:=hb3
 have hle:0<=(F1 1).v:=by unfold IR.v;rw [hsg];have:=Q5 (F1 1).n hI1'.u;simp;omega
 refine Rl [_,_] (wl H (Ez.mv H rfl) rfl ?_);clear H a;intro a H
 refine wk H cf76 (intSet z b1 rz (F1 1) wV hz9 hI1' hzb (by omega)) rfl rfl ?_
 rintro _ w1 ⟨r,rfl,k1,k2,k4,k3⟩
 refine ⟨_,rfl,?_⟩;clear H a;intro a H
 refine kP [(0,_),(6,_)] rfl (kW (kS (kR [_,_] (kM rfl rfl (kA rfl rfl (kP [(6,_)] rfl (kW ?_))))))) a H;clear H a;intro a H
 refine Wr ?_
 refine rt1 H rfl rfl ?_
 have hFz:Fr (ZT z rz.q) w w1:=(hF.mono fun k o hk e=>by have:B<=k:=e;omega).trans (k1.fr)
 have hOz:Own w rz.q r.q:=fun k j ht=>(k1.ow k j ht).imp id (fun h=>Nat.le_trans hF.size h)
 refine .inr ⟨r,rfl,⟨k1.ib,hOz,hFz⟩,?_,?_,by omega⟩
 ·rw [k2];first | (rw [hnv];omega) | omega
 rw [k2]
 first
  | (rw [hnv,show 1 - ((F1 1).v+nv rn.X rn.n)*nv rg.X rg.n=(1 - (F1 1).v*nv rg.X rg.n) - nv rn.X rn.n*nv rg.X rg.n by grind];exact Int.dvd_sub hmod (Int.dvd_mul_right _ _))
  | exact hmod
end
theorem Jt (n:Int):IntKind.u64.wrap n=n % 18446744073709551616:=Wu n
theorem J8 (n:Int):IntKind.u32.wrap n=n % 4294967296:=Wv n
def U32 (a:Int):Prop:=0<=a/\a < 4294967296
def eqN (a b:Int):Int:=if a=b then 1 else 0
def ltN (a b:Int):Int:=if a < b then 1 else 0
theorem J7 (a b:Int):eqN a b=0\/eqN a b=1:=by unfold eqN;split <;> simp
theorem J6 (a b:Int):ltN a b=0\/ltN a b=1:=by unfold ltN;split <;> simp
theorem ret_int {k:IntKind} {a b:Int} (h:a=b):Ending.returned (.int k a)=.returned (.int k b):=by rw [h]
theorem xor32_zero {a b:Int} (ha:U32 a) (hb:U32 b):0<=bits .xor .u32 a b/\bits .xor .u32 a b < 4294967296/\(bits .xor .u32 a b=0↔a=b):=by
 obtain ⟨A,rfl⟩:=Eo ha.1
 obtain ⟨B,rfl⟩:=Eo hb.1
 have h1:=ha.2;have h2:=hb.2
 rw [u32_xor_nat A B (by omega) (by omega)]
 have h:A ^^^ B < 2 ^ 32:=Nat.xor_lt_two_pow (by omega) (by omega)
 refine ⟨by omega,by omega,?_⟩
 constructor
 ·intro h0
  have:A ^^^ B=0:=by omega
  have e:A ^^^ (A ^^^ B)=A:=by rw [this];simp
  rw [<-Nat.xor_assoc] at e;simp at e;omega
 intro h0
 have:A=B:=by omega
 subst this;simp
theorem ctEq (a b:Int) (w:World) (ha:U32 a) (hb:U32 b):
 Calls Tryz.prog 47 #[.int .u32 a,.int .u32 b] w fun e w'=>e=.returned (.int .u32 (eqN a b))/\w=w':=by
 go_enter Tryz.func47,Tryz.ntmps47
 go_wp2
 go_ret
 refine ⟨ret_int ?_,rfl⟩
 obtain ⟨h1,h2,h3⟩:=xor32_zero ha hb
 generalize bits .xor .u32 a b=x at h1 h2 h3
 rw [Jt,Jt];unfold eqN
 split <;> omega
theorem ctLess (a b:Int) (w:World) (ha:U32 a) (hb:U32 b):
 Calls Tryz.prog 65 #[.int .u32 a,.int .u32 b] w fun e w'=>e=.returned (.int .u32 (ltN a b))/\w=w':=by
 go_enter Tryz.func65,Tryz.ntmps65
 go_wp2
 go_ret
 refine ⟨ret_int ?_,rfl⟩
 unfold U32 at ha hb
 rw [Jt,Jt,Jt];unfold ltN
 split <;> omega
theorem ctLE (a b:Int) (w:World) (ha:U32 a) (hb:U32 b):
 Calls Tryz.prog 81 #[.int .u32 a,.int .u32 b] w fun e w'=>e=.returned (.int .u32 (1 - ltN b a))/\w=w':=by
 go_enter Tryz.func81,Tryz.ntmps81
 go_wp2
 go_ret
 refine ⟨ret_int ?_,rfl⟩
 unfold U32 at ha hb
 rw [Jt,Jt,Jt,Jt];unfold ltN
 split <;> omega
theorem ctGreater (a b:Int) (w:World) (ha:U32 a) (hb:U32 b):
 Calls Tryz.prog 46 #[.int .u32 a,.int .u32 b] w fun e w'=>e=.returned (.int .u32 (ltN b a))/\w=w':=by
 go_enter Tryz.func46,Tryz.ntmps46
 go_wp2_with (go_at_call 65;refine (ctLess _ _ _ hb ha).mono ?_;rintro e w' ⟨rfl,rfl⟩)
 go_ret
 exact ⟨rfl,rfl⟩
theorem ctGE (a b:Int) (w:World) (ha:U32 a) (hb:U32 b):
 Calls Tryz.prog 67 #[.int .u32 a,.int .u32 b] w fun e w'=>e=.returned (.int .u32 (1 - ltN a b))/\w=w':=by
 go_enter Tryz.func67,Tryz.ntmps67
 go_wp2_with (go_at_call 81;refine (ctLE _ _ _ hb ha).mono ?_;rintro e w' ⟨rfl,rfl⟩)
 go_ret
 exact ⟨rfl,rfl⟩
theorem ctNotEq (a b:Int) (w:World) (ha:U32 a) (hb:U32 b):
 Calls Tryz.prog 58 #[.int .u32 a,.int .u32 b] w fun e w'=>e=.returned (.int .u32 (1 - eqN a b))/\w=w':=by
 go_enter Tryz.func58,Tryz.ntmps58
 go_wp2
 go_ret
 refine ⟨ret_int ?_,rfl⟩
 obtain ⟨h1,h2,h3⟩:=xor32_zero ha hb
 generalize bits .xor .u32 a b=x at h1 h2 h3
 rw [Jt,Jt]
 unfold eqN
 split
 ·rw [show (x % 18446744073709551616 - 1) % 18446744073709551616 / 9223372036854775808 % 4294967296=1 by omega];decide
 rw [show (x % 18446744073709551616 - 1) % 18446744073709551616 / 9223372036854775808 % 4294967296=0 by omega];decide
theorem ctMin (a b:Int) (w:World) (ha:U32 a) (hb:U32 b):
 Calls Tryz.prog 78 #[.int .u32 a,.int .u32 b] w fun e w'=>e=.returned (.int .u32 (min a b))/\w=w':=by
 go_enter Tryz.func78,Tryz.ntmps78
 go_wp2_with (go_at_call 65;refine (ctLess _ _ _ ha hb).mono ?_;rintro e w' ⟨rfl,rfl⟩)
 go_ret
 refine ⟨ret_int ?_,rfl⟩
 obtain ⟨A,rfl⟩:=Eo ha.1
 obtain ⟨B,rfl⟩:=Eo hb.1
 have h1:=ha.2;have h2:=hb.2
 have h:A ^^^ B < 2 ^ 32:=Nat.xor_lt_two_pow (by omega) (by omega)
 rw [u32_xor_nat A B (by omega) (by omega)]
 unfold ltN
 split
 ·rw [show (-1:Int) % 4294967296=((4294967295:Nat):Int) by decide,u32_and_nat _ _ (by omega) (by omega),
   show (4294967295:Nat)=2 ^ 32 - 1 by decide,Nat.and_two_pow_sub_one_eq_mod,Nat.mod_eq_of_lt h,u32_xor_nat _ _ (by omega) (by omega),
   Nat.xor_comm A B,<-Nat.xor_assoc]
  simp;omega
 rw [show (-0:Int) % 4294967296=((0:Nat):Int) by decide,u32_and_nat _ _ (by omega) (by omega),Nat.and_zero,u32_xor_nat _ _ (by omega) (by omega)]
 simp;omega
def S8 (w:World) (b o:Nat) (n0 n1 n2 n3 n4 n5 n6 n7:Int):Prop:=w.cell? ⟨b,o,none⟩=some (.int .u32 n0)/\w.cell? ⟨b,o+1,none⟩=some (.int .u32 n1)/\w.cell? ⟨b,o+2,none⟩=some (.int .u32 n2)/\w.cell? ⟨b,o+3,none⟩=some (.int .u32 n3)/\w.cell? ⟨b,o+4,none⟩=some (.int .u32 n4)/\w.cell? ⟨b,o+5,none⟩=some (.int .u32 n5)/\w.cell? ⟨b,o+6,none⟩=some (.int .u32 n6)/\w.cell? ⟨b,o+7,none⟩=some (.int .u32 n7)/\U32 n0/\U32 n1/\U32 n2/\U32 n3/\U32 n4/\U32 n5/\U32 n6/\U32 n7
def F8 (w:World) (b o:Nat):Prop:=w.frozen? ⟨b,o,none⟩=false/\w.frozen? ⟨b,o+1,none⟩=false/\w.frozen? ⟨b,o+2,none⟩=false/\w.frozen? ⟨b,o+3,none⟩=false/\w.frozen? ⟨b,o+4,none⟩=false/\w.frozen? ⟨b,o+5,none⟩=false/\w.frozen? ⟨b,o+6,none⟩=false/\w.frozen? ⟨b,o+7,none⟩=false
def val8 (n0 n1 n2 n3 n4 n5 n6 n7:Int):Int:=n0+4294967296*(n1+4294967296*(n2+4294967296*(n3+4294967296*(n4+4294967296*(n5+4294967296*(n6+4294967296*n7))))))
def NN:Int:=115792089237316195423570985008687907852837564279074904382605163141518161494337
def ovN (x:Int):Int:=if NN<=x then 1 else 0
theorem and01 {x y:Int} (hx:x=0\/x=1) (hy:y=0\/y=1):bits .and .u32 x y=x*y:=by
 rcases hx with rfl | rfl <;> rcases hy with rfl | rfl <;> decide
theorem or01 {x y:Int} (hx:x=0\/x=1) (hy:y=0\/y=1):bits .or .u32 x y=x+y - x*y:=by
 rcases hx with rfl | rfl <;> rcases hy with rfl | rfl <;> decide
theorem andE {x X a A:Int} (ha:U32 a) (hA:U32 A):bits .and .u32 (eqN x X) (eqN a A)=eqN (a+4294967296*x) (A+4294967296*X):=by
 rw [and01 (J7 _ _) (J7 _ _)]
 unfold U32 at ha hA;unfold eqN
 repeat' split
 all_goals omega
theorem orL {x X a A:Int} (ha:U32 a) (hA:U32 A):bits .or .u32 (ltN X x) (bits .and .u32 (eqN x X) (ltN A a))=ltN (A+4294967296*X) (a+4294967296*x):=by
 have e:bits .and .u32 (eqN x X) (ltN A a)=0\/bits .and .u32 (eqN x X) (ltN A a)=1:=by
  rcases J7 x X with h | h <;> rcases J6 A a with h' | h' <;> rw [h,h'] <;> decide
 rw [or01 (J6 _ _) e,and01 (J7 _ _) (J6 _ _)]
 unfold U32 at ha hA;unfold eqN ltN
 repeat' split
 all_goals omega
theorem orL1 {x X a A:Int} (ha:U32 a) (hA:U32 A) (hx:x<=X):bits .and .u32 (eqN x X) (ltN A a)=ltN (A+4294967296*X) (a+4294967296*x):=by
 rw [and01 (J7 _ _) (J6 _ _)]
 unfold U32 at ha hA;unfold eqN ltN
 repeat' split
 all_goals omega
theorem orL0 {x X a A:Int} (ha:U32 a) (hA:U32 A):bits .or .u32 (ltN X x) (bits .and .u32 (eqN x X) (1 - ltN a A))=1 - ltN (a+4294967296*x) (A+4294967296*X):=by
 have e0:(1 - ltN a A)=0\/(1 - ltN a A)=1:=by rcases J6 a A with h | h <;> rw [h] <;> decide
 have e:bits .and .u32 (eqN x X) (1 - ltN a A)=0\/bits .and .u32 (eqN x X) (1 - ltN a A)=1:=by
  rcases J7 x X with h | h <;> rcases e0 with h' | h' <;> rw [h,h'] <;> decide
 rw [or01 (J6 _ _) e,and01 (J7 _ _) e0]
 unfold U32 at ha hA;unfold eqN ltN
 repeat' split
 all_goals omega
set_option maxRecDepth 10000 in
set_option maxHeartbeats 2000000 in
theorem overflows (b o:Nat) (n0 n1 n2 n3 n4 n5 n6 n7:Int) (w:World) (h:S8 w b o n0 n1 n2 n3 n4 n5 n6 n7):
 Calls Tryz.prog 52 #[.pointer (some ⟨b,o,none⟩)] w fun e w'=>e=.returned (.int .u32 (ovN (val8 n0 n1 n2 n3 n4 n5 n6 n7)))/\w=w':=by
 obtain ⟨h0,h1,h2,h3,h4,h5,h6,h7,u0,u1,u2,u3,u4,u5,u6,u7⟩:=h
 go_enter Tryz.func52,Tryz.ntmps52
 go_wp2_with (first
  | (go_at_call 47;refine (ctEq _ _ _ (by assumption) ⟨by decide,by decide⟩).mono ?_;rintro e w' ⟨rfl,rfl⟩)
  | (go_at_call 46;refine (ctGreater _ _ _ (by assumption) ⟨by decide,by decide⟩).mono ?_;rintro e w' ⟨rfl,rfl⟩)
  | (go_at_call 67;refine (ctGE _ _ _ (by assumption) ⟨by decide,by decide⟩).mono ?_;rintro e w' ⟨rfl,rfl⟩))
 go_ret
 refine ⟨ret_int ?_,rfl⟩
 have k0:U32 3493216577:=⟨by decide,by decide⟩
 have k1:U32 3218235020:=⟨by decide,by decide⟩
 have k2:U32 2940772411:=⟨by decide,by decide⟩
 have k3:U32 3132021990:=⟨by decide,by decide⟩
 have k4:U32 4294967294:=⟨by decide,by decide⟩
 have k5:U32 4294967295:=⟨by decide,by decide⟩
 have z:n5+4294967296*(n6+4294967296*n7)<=4294967295+4294967296*(4294967295+4294967296*4294967295):=by
  unfold U32 at u5 u6 u7;omega
 rw [andE u6 k5,andE u5 k5,orL1 u4 k4 z,andE u4 k4,orL u3 k3,andE u3 k3,orL u2 k2,andE u2 k2,orL u1 k1,andE u1 k1,orL0 u0 k0]
 unfold ovN ltN val8 NN
 split <;> split <;> omega
def Sc (w:World) (b o:Nat) (x:Int):Prop:=∃n0 n1 n2 n3 n4 n5 n6 n7:Int,S8 w b o n0 n1 n2 n3 n4 n5 n6 n7/\val8 n0 n1 n2 n3 n4 n5 n6 n7=x
theorem Sc.range {w:World} {b o:Nat} {x:Int} (h:Sc w b o x):0<=x/\x < 115792089237316195423570985008687907853269984665640564039457584007913129639936:=by
 obtain ⟨n0,n1,n2,n3,n4,n5,n6,n7,⟨_,_,_,_,_,_,_,_,u0,u1,u2,u3,u4,u5,u6,u7⟩,rfl⟩:=h
 unfold U32 at*;unfold val8;omega
def put8 (w:World) (b o:Nat) (m0 m1 m2 m3 m4 m5 m6 m7:Int):World:=((((((((w.setCell ⟨b,o,none⟩ (.int .u32 m0)).setCell ⟨b,o+1,none⟩ (.int .u32 m1)).setCell ⟨b,o+2,none⟩ (.int .u32 m2)).setCell ⟨b,o+3,none⟩ (.int .u32 m3)).setCell ⟨b,o+4,none⟩ (.int .u32 m4)).setCell ⟨b,o+5,none⟩ (.int .u32 m5)).setCell ⟨b,o+6,none⟩ (.int .u32 m6)).setCell ⟨b,o+7,none⟩ (.int .u32 m7))
theorem put8_fr (w:World) (b o:Nat) (m0 m1 m2 m3 m4 m5 m6 m7:Int):Fr (Rng b o 8) w (put8 w b o m0 m1 m2 m3 m4 m5 m6 m7):=
 (((((((((Fr.refl _ w).setCell (b:=b) (o:=o) (fun _=>⟨rfl,by omega,by omega⟩) (.int .u32 m0)).setCell (b:=b) (o:=o+1) (fun _=>⟨rfl,by omega,by omega⟩) (.int .u32 m1)).setCell (b:=b) (o:=o+2) (fun _=>⟨rfl,by omega,by omega⟩) (.int .u32 m2)).setCell (b:=b) (o:=o+3) (fun _=>⟨rfl,by omega,by omega⟩) (.int .u32 m3)).setCell (b:=b) (o:=o+4) (fun _=>⟨rfl,by omega,by omega⟩) (.int .u32 m4)).setCell (b:=b) (o:=o+5) (fun _=>⟨rfl,by omega,by omega⟩) (.int .u32 m5)).setCell (b:=b) (o:=o+6) (fun _=>⟨rfl,by omega,by omega⟩) (.int .u32 m6)).setCell (b:=b) (o:=o+7) (fun _=>⟨rfl,by omega,by omega⟩) (.int .u32 m7))
theorem Qc {w:World} {a q:Addr} {v u:Value} (h:w.cell? q=some u):(w.setCell a v).cell? q=some (if q=a then v else u):=by
 split
 ·subst q;exact World.cell?_setCell_same _ _ _ (by rw [h];first | done | rfl)
 rw [Co _ _ _ _ (Ne.symm (by assumption))];exact h
theorem put8_S8 {w:World} {b o:Nat} {n0 n1 n2 n3 n4 n5 n6 n7:Int} (h:S8 w b o n0 n1 n2 n3 n4 n5 n6 n7) (m0 m1 m2 m3 m4 m5 m6 m7:Int) (u0:U32 m0) (u1:U32 m1) (u2:U32 m2) (u3:U32 m3) (u4:U32 m4) (u5:U32 m5) (u6:U32 m6) (u7:U32 m7):S8 (put8 w b o m0 m1 m2 m3 m4 m5 m6 m7) b o m0 m1 m2 m3 m4 m5 m6 m7:=by
 obtain ⟨h0,h1,h2,h3,h4,h5,h6,h7,_⟩:=h
 refine ⟨?_,?_,?_,?_,?_,?_,?_,?_,u0,u1,u2,u3,u4,u5,u6,u7⟩
 ·exact (Qc (Qc (Qc (Qc (Qc (Qc (Qc (Qc h0)))))))).trans (by simp)
 ·exact (Qc (Qc (Qc (Qc (Qc (Qc (Qc (Qc h1)))))))).trans (by simp)
 ·exact (Qc (Qc (Qc (Qc (Qc (Qc (Qc (Qc h2)))))))).trans (by simp)
 ·exact (Qc (Qc (Qc (Qc (Qc (Qc (Qc (Qc h3)))))))).trans (by simp)
 ·exact (Qc (Qc (Qc (Qc (Qc (Qc (Qc (Qc h4)))))))).trans (by simp)
 ·exact (Qc (Qc (Qc (Qc (Qc (Qc (Qc (Qc h5)))))))).trans (by simp)
 ·exact (Qc (Qc (Qc (Qc (Qc (Qc (Qc (Qc h6)))))))).trans (by simp)
 exact (Qc (Qc (Qc (Qc (Qc (Qc (Qc (Qc h7)))))))).trans (by simp)
theorem Jm (z:Int) (h0:0<=z) (h1:z < 18446744073709551616):bits .and .u64 z 4294967295 % 4294967296=z % 4294967296:=by
 obtain ⟨Z,rfl⟩:=Eo h0
 rw [show (4294967295:Int)=((4294967295:Nat):Int) by rfl,u64_and_nat _ _ (by omega) (by omega),show (4294967295:Nat)=2 ^ 32 - 1 by decide,Nat.and_two_pow_sub_one_eq_mod]
 omega
theorem red_arith (n0 n1 n2 n3 n4 n5 n6 n7 x v c0 c1 c2 c3 c4 c5 c6 c7:Int)
 (hv:v=0\/v=1) (hx:val8 n0 n1 n2 n3 n4 n5 n6 n7=x) (e0:c0=n0+v*801750719) (e1:c1=c0 / 4294967296+n1+v*1076732275) (e2:c2=c1 / 4294967296+n2+v*1354194884)
 (e3:c3=c2 / 4294967296+n3+v*1162945305) (e4:c4=c3 / 4294967296+n4+v) (e5:c5=c4 / 4294967296+n5) (e6:c6=c5 / 4294967296+n6) (e7:c7=c6 / 4294967296+n7):
 val8 (c0 % 4294967296) (c1 % 4294967296) (c2 % 4294967296) (c3 % 4294967296) (c4 % 4294967296) (c5 % 4294967296) (c6 % 4294967296) (c7 % 4294967296)=(x+v*432420386565659656852420866394968145599) % 115792089237316195423570985008687907853269984665640564039457584007913129639936:=by
 unfold val8 at*;omega
set_option maxRecDepth 10000 in
set_option maxHeartbeats 2000000 in
theorem reduce256g (b o:Nat) (x v:Int) (w:World) (h:Sc w b o x) (hf:F8 w b o) (hv:v=0\/v=1):
 Calls Tryz.prog 53 #[.pointer (some ⟨b,o,none⟩),.int .u32 v] w fun e w'=>e=.returned (.tuple #[])/\Sc w' b o ((x+v*432420386565659656852420866394968145599) % 115792089237316195423570985008687907853269984665640564039457584007913129639936)/\Fr (Rng b o 8) w w':=by
 obtain ⟨n0,n1,n2,n3,n4,n5,n6,n7,⟨h0,h1,h2,h3,h4,h5,h6,h7,u0,u1,u2,u3,u4,u5,u6,u7⟩,hx⟩:=h
 obtain ⟨f0,f1,f2,f3,f4,f5,f6,f7⟩:=hf
 obtain ⟨R,hR⟩:∃R,R=(x+v*432420386565659656852420866394968145599) % 115792089237316195423570985008687907853269984665640564039457584007913129639936:=⟨_,rfl⟩
 rw [<-hR]
 have HR:=Lib.hid hR;clear hR
 have HV:=Lib.hid hv
 obtain ⟨hv0,hv1⟩:0<=v/\v<=1:=by omega
 clear hv
 have HX:=Lib.hid hx;clear hx
 obtain ⟨u0,u0'⟩:=u0;obtain ⟨u1,u1'⟩:=u1;obtain ⟨u2,u2'⟩:=u2;obtain ⟨u3,u3'⟩:=u3
 obtain ⟨u4,u4'⟩:=u4;obtain ⟨u5,u5'⟩:=u5;obtain ⟨u6,u6'⟩:=u6;obtain ⟨u7,u7'⟩:=u7
 go_enter Tryz.func53,Tryz.ntmps53
 go_wp2
 refine bodyPost_end (results_none rfl _ _ _) rfl ?_
 have hs:S8 w b o n0 n1 n2 n3 n4 n5 n6 n7:=⟨h0,h1,h2,h3,h4,h5,h6,h7,⟨u0,u0'⟩,⟨u1,u1'⟩,⟨u2,u2'⟩,⟨u3,u3'⟩,⟨u4,u4'⟩,⟨u5,u5'⟩,⟨u6,u6'⟩,⟨u7,u7'⟩⟩
 obtain ⟨c0,e0⟩:∃c,c=n0+v*801750719:=⟨_,rfl⟩
 obtain ⟨c1,e1⟩:∃c,c=c0 / 4294967296+n1+v*1076732275:=⟨_,rfl⟩
 obtain ⟨c2,e2⟩:∃c,c=c1 / 4294967296+n2+v*1354194884:=⟨_,rfl⟩
 obtain ⟨c3,e3⟩:∃c,c=c2 / 4294967296+n3+v*1162945305:=⟨_,rfl⟩
 obtain ⟨c4,e4⟩:∃c,c=c3 / 4294967296+n4+v:=⟨_,rfl⟩
 obtain ⟨c5,e5⟩:∃c,c=c4 / 4294967296+n5:=⟨_,rfl⟩
 obtain ⟨c6,e6⟩:∃c,c=c5 / 4294967296+n6:=⟨_,rfl⟩
 obtain ⟨c7,e7⟩:∃c,c=c6 / 4294967296+n7:=⟨_,rfl⟩
 simp only [<-e0,<-e1,<-e2,<-e3,<-e4,<-e5,<-e6,<-e7]
 have hA:=red_arith n0 n1 n2 n3 n4 n5 n6 n7 x v c0 c1 c2 c3 c4 c5 c6 c7 HV.out HX.out e0 e1 e2 e3 e4 e5 e6 e7
 rw [Jm c0 (by omega) (by omega),Jm c1 (by omega) (by omega),Jm c2 (by omega) (by omega),Jm c3 (by omega) (by omega),
  Jm c4 (by omega) (by omega),Jm c5 (by omega) (by omega),Jm c6 (by omega) (by omega),Jm c7 (by omega) (by omega)]
 rw [<-HR.out] at hA
 exact ⟨by trivial,⟨_,_,_,_,_,_,_,_,put8_S8 hs _ _ _ _ _ _ _ _ (by unfold U32;omega) (by unfold U32;omega) (by unfold U32;omega) (by unfold U32;omega) (by unfold U32;omega) (by unfold U32;omega) (by unfold U32;omega) (by unfold U32;omega),hA⟩,put8_fr _ _ _ _ _ _ _ _ _ _ _⟩
theorem reduce256 (b o:Nat) (x:Int) (w:World) (h:Sc w b o x) (hf:F8 w b o):
 Calls Tryz.prog 53 #[.pointer (some ⟨b,o,none⟩),.int .u32 (ovN x)] w fun e w'=>e=.returned (.tuple #[])/\Sc w' b o (x - NN*ovN x)/\Fr (Rng b o 8) w w':=by
 have hr:=h.range
 refine (reduce256g b o x (ovN x) w h hf (by unfold ovN;split <;> simp)).mono fun e w' ⟨h1,h2,h3⟩=>⟨h1,?_,h3⟩
 have:(x+ovN x*432420386565659656852420866394968145599) % 115792089237316195423570985008687907853269984665640564039457584007913129639936=x - NN*ovN x:=by
  unfold ovN NN;split <;> omega
 rw [<-this];exact h2
def Ac3 (w:World) (b o:Nat) (n0 n1 n2:Int):Prop:=w.cell? ⟨b,o,none⟩=some (.int .u32 n0)/\w.cell? ⟨b,o+1,none⟩=some (.int .u32 n1)/\w.cell? ⟨b,o+2,none⟩=some (.int .u32 n2)/\U32 n0/\U32 n1/\U32 n2
def Af3 (w:World) (b o:Nat):Prop:=w.frozen? ⟨b,o,none⟩=false/\w.frozen? ⟨b,o+1,none⟩=false/\w.frozen? ⟨b,o+2,none⟩=false
def Ac (w:World) (b o:Nat) (x:Int):Prop:=∃n0 n1 n2:Int,Ac3 w b o n0 n1 n2/\n0+4294967296*(n1+4294967296*n2)=x
theorem ltN_01 (a b:Int):0<=ltN a b/\ltN a b<=1:=by rcases J6 a b with h | h <;> omega
theorem and_low' (z:Int) (h0:0<=z) (h1:z < 18446744073709551616):bits .and .u64 z 4294967295=z % 4294967296:=by
 obtain ⟨Z,rfl⟩:=Eo h0
 rw [show (4294967295:Int)=((4294967295:Nat):Int) by rfl,u64_and_nat _ _ (by omega) (by omega),show (4294967295:Nat)=2 ^ 32 - 1 by decide,Nat.and_two_pow_sub_one_eq_mod]
 omega
theorem Ac3.set0 {w:World} {b o:Nat} {n0 n1 n2:Int} (h:Ac3 w b o n0 n1 n2) (m:Int) (hm:U32 m):Ac3 (w.setCell ⟨b,o,none⟩ (.int .u32 m)) b o m n1 n2:=by
 obtain ⟨h0,h1,h2,u0,u1,u2⟩:=h
 exact ⟨(Qc h0).trans (by simp),(Qc h1).trans (by simp),(Qc h2).trans (by simp),hm,u1,u2⟩
theorem Ac3.set1 {w:World} {b o:Nat} {n0 n1 n2:Int} (h:Ac3 w b o n0 n1 n2) (m:Int) (hm:U32 m):Ac3 (w.setCell ⟨b,o+1,none⟩ (.int .u32 m)) b o n0 m n2:=by
 obtain ⟨h0,h1,h2,u0,u1,u2⟩:=h
 exact ⟨(Qc h0).trans (by simp),(Qc h1).trans (by simp),(Qc h2).trans (by simp),u0,hm,u2⟩
theorem Ac3.set2 {w:World} {b o:Nat} {n0 n1 n2:Int} (h:Ac3 w b o n0 n1 n2) (m:Int) (hm:U32 m):Ac3 (w.setCell ⟨b,o+2,none⟩ (.int .u32 m)) b o n0 n1 m:=by
 obtain ⟨h0,h1,h2,u0,u1,u2⟩:=h
 exact ⟨(Qc h0).trans (by simp),(Qc h1).trans (by simp),(Qc h2).trans (by simp),u0,u1,hm⟩
theorem Af3.fr {w w':World} {b o:Nat} {T:Nat->Nat->Prop} (hF:Fr T w w') (hb:b < w.heap.size) (h:Af3 w b o):Af3 w' b o:=
 ⟨(hF.frozen _ _ hb).trans h.1,(hF.frozen _ _ hb).trans h.2.1,(hF.frozen _ _ hb).trans h.2.2⟩
theorem Ac.lt {w:World} {b o:Nat} {x:Int} (h:Ac w b o x):b < w.heap.size:=by
 obtain ⟨n0,n1,n2,h,e⟩:=h
 exact Bl0 w _ h.1
set_option maxRecDepth 100000 in
set_option maxHeartbeats 4000000 in
theorem accAdd (b o:Nat) (x v:Int) (w:World) (h:Ac w b o x) (hf:Af3 w b o) (hv0:0<=v) (hv1:v<=18446744065119617025) (hx:x+v < 79228162514264337593543950336):
 Calls Tryz.prog 55 #[.pointer (some ⟨b,o,none⟩),.int .u64 v] w fun e w'=>e=.returned (.tuple #[])/\Ac w' b o (x+v)/\Fr (Rng b o 3) w w':=by
 have hlt:=h.lt
 obtain ⟨n0,n1,n2,hA,HX⟩:=h
 have hA':=hA
 obtain ⟨h0,h1,h2,⟨u0,u0'⟩,⟨u1,u1'⟩,⟨u2,u2'⟩⟩:=hA'
 have hf':=hf
 obtain ⟨f0,f1,f2⟩:=hf'
 replace HX:=Lib.hid HX
 have HV:=Lib.hid hx;clear hx
 have hF:Fr (Rng b o 3) w w:=Fr.refl _ _
 go_enter Tryz.func55,Tryz.ntmps55
 go_wp2_with fail
 go_still_tail 10,(by kernel_rfl)
 change wpList _ _ _ _ _ w.drew
 go_wp2_with (go_at_call 65;refine (ctLess _ _ _ (by unfold U32;omega) (by unfold U32;omega)).mono ?_;rintro e w' ⟨rfl,rfl⟩)
 rw [and_low' v hv0 (by omega)]
 obtain ⟨m0,hm0⟩:∃m,(n0+v % 4294967296) % 4294967296=m:=⟨_,rfl⟩
 rw [hm0]
 have l0:=ltN_01 m0 (v % 4294967296 % 4294967296)
 obtain ⟨k,hk⟩:∃m,(v / 4294967296+ltN m0 (v % 4294967296 % 4294967296)) % 4294967296=m:=⟨_,rfl⟩
 rw [hk]
 replace hF:=(hF.setCell (b:=b) (o:=o) (fun _=>⟨rfl,by omega,by omega⟩) (.int .u32 m0)).drew
 replace hf:=Af3.fr hF hlt hf
 replace hA:Ac3 (w.setCell ⟨b,o,none⟩ (.int .u32 m0)).drew b o m0 n1 n2:=hA.set0 m0 (by unfold U32;omega)
 generalize (w.setCell ⟨b,o,none⟩ (.int .u32 m0)).drew=w1 at hA hf hF ⊢
 have hA':=hA.2.1
 have hf':=hf.2.1
 have HM0:=Lib.hid hm0;clear hm0
 have HK:=Lib.hid hk
 have hk1:0<=k/\k < 4294967296:=by omega
 clear hk l0 h0 h1 h2 f0 f1 f2
 obtain ⟨hk0,hk1⟩:=hk1
 go_still_tail 10,(by kernel_rfl)
 replace hf:Af3 w1.drew b o:=hf
 replace hA:Ac3 w1.drew b o m0 n1 n2:=hA
 replace hF:=hF.drew
 change wpList _ _ _ _ _ w1.drew
 clear hA' hf'
 generalize w1.drew=w2 at hA hf hF ⊢
 have hA':=hA.2.1
 have hf':=hf.2.1
 go_wp2_with fail
 clear hA' hf'
 obtain ⟨m1,hm1⟩:∃m,(n1+k) % 4294967296=m:=⟨_,rfl⟩
 rw [hm1]
 replace hf:=Af3.fr (Fr.setCell (Fr.refl (Rng b o 3) w2) (b:=b) (o:=o+1) (fun _=>⟨rfl,by omega,by omega⟩) (.int .u32 m1)) (Bl0 _ _ hA.1) hf
 replace hF:=(hF.setCell (b:=b) (o:=o+1) (fun _=>⟨rfl,by omega,by omega⟩) (.int .u32 m1))
 replace hA:=hA.set1 m1 (by unfold U32;omega)
 generalize (w2.setCell ⟨b,o+1,none⟩ (.int .u32 m1))=w3 at hA hf hF ⊢
 have hA':=hA.2.1
 have hA'':=hA.2.2.1
 have hf':=hf.2.2
 have hu1:0<=m1/\m1 < 4294967296:=by omega
 obtain ⟨hu1,hu1'⟩:=hu1
 have HM1:=Lib.hid hm1;clear hm1
 go_still_tail 16,(by kernel_rfl)
 still_call ((ctLess m1 k w3.drew ⟨hu1,hu1'⟩ ⟨hk0,hk1⟩).mono fun _ _ h=>⟨h.1,h.2.symm⟩)
 repeat still_step
 refine wpStill_nil ?_
 have l1:=ltN_01 m1 k
 replace hf:Af3 w3.drew b o:=hf
 replace hA:Ac3 w3.drew b o m0 m1 n2:=hA
 replace hF:=hF.drew
 change wpList _ _ _ _ _ w3.drew
 clear hA' hA'' hf'
 generalize w3.drew=w4 at hA hf hF ⊢
 have hA':=hA.2.2.1
 have hf':=hf.2.2
 have hfin:n2+ltN m1 k < 4294967296/\m0+4294967296*(m1+4294967296*(n2+ltN m1 k))=x+v:=by
  have:=HX.out;have:=HV.out;have:=HM0.out;have:=HM1.out;have:=HK.out;have:=ltN_01 m0 (v % 4294967296 % 4294967296)
  unfold ltN at*;split at*<;> split at*<;> omega
 have hw:IntKind.u32.wrap (n2+ltN m1 k)=n2+ltN m1 k:=by
  rw [J8];exact Int.emod_eq_of_lt (by omega) hfin.1
 rw [hw]
 clear hw
 obtain ⟨m2,hm2⟩:∃m,n2+ltN m1 k=m:=⟨_,rfl⟩
 rw [hm2] at hfin ⊢
 have hu2:U32 m2:=by unfold U32;omega
 have HM2:=Lib.hid hm2;clear hm2
 have HFIN:=Lib.hid hfin;clear hfin
 go_wp2_with fail
 refine bodyPost_end (results_none rfl _ _ _) rfl ?_
 exact ⟨rfl,⟨m0,m1,m2,hA.set2 m2 hu2,HFIN.out.2⟩,hF.setCell (b:=b) (o:=o+2) (fun _=>⟨rfl,by omega,by omega⟩) (.int .u32 m2)⟩
set_option maxRecDepth 100000 in
set_option maxHeartbeats 4000000 in
theorem accRsh (b o:Nat) (x:Int) (w:World) (h:Ac w b o x) (hf:Af3 w b o):
 Calls Tryz.prog 56 #[.pointer (some ⟨b,o,none⟩)] w fun e w'=>e=.returned (.tuple #[])/\Ac w' b o (x / 4294967296)/\Fr (Rng b o 3) w w':=by
 have hlt:=h.lt
 obtain ⟨n0,n1,n2,hA,HX⟩:=h
 have hA':=hA
 obtain ⟨h0,h1,h2,⟨u0,u0'⟩,⟨u1,u1'⟩,⟨u2,u2'⟩⟩:=hA'
 have hf':=hf
 obtain ⟨f0,f1,f2⟩:=hf'
 replace HX:=Lib.hid HX
 have hF:Fr (Rng b o 3) w w:=Fr.refl _ _
 go_enter Tryz.func56,Tryz.ntmps56
 go_wp2_with fail
 go_still_tail 9,(by kernel_rfl)
 change wpList _ _ _ _ _ w.drew
 go_wp2_with fail
 replace hF:=(hF.drew.setCell (b:=b) (o:=o) (fun _=>⟨rfl,by omega,by omega⟩) (.int .u32 n1))
 replace hf:=Af3.fr hF hlt hf
 replace hA:Ac3 (w.drew.setCell ⟨b,o,none⟩ (.int .u32 n1)) b o n1 n1 n2:=Ac3.set0 (w:=w.drew) hA n1 ⟨u1,u1'⟩
 have e:(w.setCell ⟨b,o,none⟩ (.int .u32 n1)).drew=w.drew.setCell ⟨b,o,none⟩ (.int .u32 n1):=rfl
 rw [e]
 clear e h0 h1 h2 f0 f1 f2
 generalize w.drew.setCell ⟨b,o,none⟩ (.int .u32 n1)=w1 at hA hf hF ⊢
 have hA1:=hA.2.1
 have hA2:=hA.2.2.1
 have hf1:=hf.2.1
 go_still_tail 9,(by kernel_rfl)
 change wpList _ _ _ _ _ w1.drew
 replace hf:Af3 w1.drew b o:=hf
 replace hA:Ac3 w1.drew b o n1 n1 n2:=hA
 replace hF:=hF.drew
 clear hA1 hA2 hf1
 generalize w1.drew=w2 at hA hf hF ⊢
 obtain ⟨h0,h1,h2,_⟩:=id hA
 obtain ⟨f0,f1,f2⟩:=id hf
 go_wp2_with fail
 refine bodyPost_end (results_none rfl _ _ _) rfl ?_
 refine ⟨by trivial,⟨n1,n2,0,(hA.set1 n2 ⟨u2,u2'⟩).set2 0 ⟨by decide,by decide⟩,?_⟩,(hF.setCell (b:=b) (o:=o+1) (fun _=>⟨rfl,by omega,by omega⟩) (.int .u32 n2)).setCell (b:=b) (o:=o+2) (fun _=>⟨rfl,by omega,by omega⟩) (.int .u32 0)⟩
 have:=HX.out;omega
theorem S8.set0 {w:World} {b o:Nat} {n0 n1 n2 n3 n4 n5 n6 n7:Int} (h:S8 w b o n0 n1 n2 n3 n4 n5 n6 n7) (m:Int) (hm:U32 m):S8 (w.setCell ⟨b,o,none⟩ (.int .u32 m)) b o m n1 n2 n3 n4 n5 n6 n7:=by
 obtain ⟨h0,h1,h2,h3,h4,h5,h6,h7,u0,u1,u2,u3,u4,u5,u6,u7⟩:=h
 exact ⟨(Qc h0).trans (by simp),(Qc h1).trans (by simp),(Qc h2).trans (by simp),(Qc h3).trans (by simp),(Qc h4).trans (by simp),(Qc h5).trans (by simp),(Qc h6).trans (by simp),(Qc h7).trans (by simp),hm,u1,u2,u3,u4,u5,u6,u7⟩
theorem S8.set1 {w:World} {b o:Nat} {n0 n1 n2 n3 n4 n5 n6 n7:Int} (h:S8 w b o n0 n1 n2 n3 n4 n5 n6 n7) (m:Int) (hm:U32 m):S8 (w.setCell ⟨b,o+1,none⟩ (.int .u32 m)) b o n0 m n2 n3 n4 n5 n6 n7:=by
 obtain ⟨h0,h1,h2,h3,h4,h5,h6,h7,u0,u1,u2,u3,u4,u5,u6,u7⟩:=h
 exact ⟨(Qc h0).trans (by simp),(Qc h1).trans (by simp),(Qc h2).trans (by simp),(Qc h3).trans (by simp),(Qc h4).trans (by simp),(Qc h5).trans (by simp),(Qc h6).trans (by simp),(Qc h7).trans (by simp),u0,hm,u2,u3,u4,u5,u6,u7⟩
theorem S8.set2 {w:World} {b o:Nat} {n0 n1 n2 n3 n4 n5 n6 n7:Int} (h:S8 w b o n0 n1 n2 n3 n4 n5 n6 n7) (m:Int) (hm:U32 m):S8 (w.setCell ⟨b,o+2,none⟩ (.int .u32 m)) b o n0 n1 m n3 n4 n5 n6 n7:=by
 obtain ⟨h0,h1,h2,h3,h4,h5,h6,h7,u0,u1,u2,u3,u4,u5,u6,u7⟩:=h
 exact ⟨(Qc h0).trans (by simp),(Qc h1).trans (by simp),(Qc h2).trans (by simp),(Qc h3).trans (by simp),(Qc h4).trans (by simp),(Qc h5).trans (by simp),(Qc h6).trans (by simp),(Qc h7).trans (by simp),u0,u1,hm,u3,u4,u5,u6,u7⟩
theorem S8.set3 {w:World} {b o:Nat} {n0 n1 n2 n3 n4 n5 n6 n7:Int} (h:S8 w b o n0 n1 n2 n3 n4 n5 n6 n7) (m:Int) (hm:U32 m):S8 (w.setCell ⟨b,o+3,none⟩ (.int .u32 m)) b o n0 n1 n2 m n4 n5 n6 n7:=by
 obtain ⟨h0,h1,h2,h3,h4,h5,h6,h7,u0,u1,u2,u3,u4,u5,u6,u7⟩:=h
 exact ⟨(Qc h0).trans (by simp),(Qc h1).trans (by simp),(Qc h2).trans (by simp),(Qc h3).trans (by simp),(Qc h4).trans (by simp),(Qc h5).trans (by simp),(Qc h6).trans (by simp),(Qc h7).trans (by simp),u0,u1,u2,hm,u4,u5,u6,u7⟩
theorem S8.set4 {w:World} {b o:Nat} {n0 n1 n2 n3 n4 n5 n6 n7:Int} (h:S8 w b o n0 n1 n2 n3 n4 n5 n6 n7) (m:Int) (hm:U32 m):S8 (w.setCell ⟨b,o+4,none⟩ (.int .u32 m)) b o n0 n1 n2 n3 m n5 n6 n7:=by
 obtain ⟨h0,h1,h2,h3,h4,h5,h6,h7,u0,u1,u2,u3,u4,u5,u6,u7⟩:=h
 exact ⟨(Qc h0).trans (by simp),(Qc h1).trans (by simp),(Qc h2).trans (by simp),(Qc h3).trans (by simp),(Qc h4).trans (by simp),(Qc h5).trans (by simp),(Qc h6).trans (by simp),(Qc h7).trans (by simp),u0,u1,u2,u3,hm,u5,u6,u7⟩
theorem S8.set5 {w:World} {b o:Nat} {n0 n1 n2 n3 n4 n5 n6 n7:Int} (h:S8 w b o n0 n1 n2 n3 n4 n5 n6 n7) (m:Int) (hm:U32 m):S8 (w.setCell ⟨b,o+5,none⟩ (.int .u32 m)) b o n0 n1 n2 n3 n4 m n6 n7:=by
 obtain ⟨h0,h1,h2,h3,h4,h5,h6,h7,u0,u1,u2,u3,u4,u5,u6,u7⟩:=h
 exact ⟨(Qc h0).trans (by simp),(Qc h1).trans (by simp),(Qc h2).trans (by simp),(Qc h3).trans (by simp),(Qc h4).trans (by simp),(Qc h5).trans (by simp),(Qc h6).trans (by simp),(Qc h7).trans (by simp),u0,u1,u2,u3,u4,hm,u6,u7⟩
theorem S8.set6 {w:World} {b o:Nat} {n0 n1 n2 n3 n4 n5 n6 n7:Int} (h:S8 w b o n0 n1 n2 n3 n4 n5 n6 n7) (m:Int) (hm:U32 m):S8 (w.setCell ⟨b,o+6,none⟩ (.int .u32 m)) b o n0 n1 n2 n3 n4 n5 m n7:=by
 obtain ⟨h0,h1,h2,h3,h4,h5,h6,h7,u0,u1,u2,u3,u4,u5,u6,u7⟩:=h
 exact ⟨(Qc h0).trans (by simp),(Qc h1).trans (by simp),(Qc h2).trans (by simp),(Qc h3).trans (by simp),(Qc h4).trans (by simp),(Qc h5).trans (by simp),(Qc h6).trans (by simp),(Qc h7).trans (by simp),u0,u1,u2,u3,u4,u5,hm,u7⟩
theorem S8.set7 {w:World} {b o:Nat} {n0 n1 n2 n3 n4 n5 n6 n7:Int} (h:S8 w b o n0 n1 n2 n3 n4 n5 n6 n7) (m:Int) (hm:U32 m):S8 (w.setCell ⟨b,o+7,none⟩ (.int .u32 m)) b o n0 n1 n2 n3 n4 n5 n6 m:=by
 obtain ⟨h0,h1,h2,h3,h4,h5,h6,h7,u0,u1,u2,u3,u4,u5,u6,u7⟩:=h
 exact ⟨(Qc h0).trans (by simp),(Qc h1).trans (by simp),(Qc h2).trans (by simp),(Qc h3).trans (by simp),(Qc h4).trans (by simp),(Qc h5).trans (by simp),(Qc h6).trans (by simp),(Qc h7).trans (by simp),u0,u1,u2,u3,u4,u5,u6,hm⟩
theorem F8.fr {w w':World} {b o:Nat} {T:Nat->Nat->Prop} (hF:Fr T w w') (hb:b < w.heap.size) (h:F8 w b o):F8 w' b o:=by
 obtain ⟨f0,f1,f2,f3,f4,f5,f6,f7⟩:=h
 exact ⟨(hF.frozen _ _ hb).trans f0,(hF.frozen _ _ hb).trans f1,(hF.frozen _ _ hb).trans f2,(hF.frozen _ _ hb).trans f3,(hF.frozen _ _ hb).trans f4,(hF.frozen _ _ hb).trans f5,(hF.frozen _ _ hb).trans f6,(hF.frozen _ _ hb).trans f7⟩
theorem S8.lt {w:World} {b o:Nat} {n0 n1 n2 n3 n4 n5 n6 n7:Int} (h:S8 w b o n0 n1 n2 n3 n4 n5 n6 n7):b < w.heap.size:=Bl0 w _ h.1
theorem S8.fr {w w':World} {b o:Nat} {n0 n1 n2 n3 n4 n5 n6 n7:Int} {T:Nat->Nat->Prop} (hF:Fr T w w') (ht:∀j,o<=j->j < o+8->¬T b j) (h:S8 w b o n0 n1 n2 n3 n4 n5 n6 n7):S8 w' b o n0 n1 n2 n3 n4 n5 n6 n7:=by
 obtain ⟨h0,h1,h2,h3,h4,h5,h6,h7,u⟩:=h
 exact ⟨hF.someCell h0 (ht _ (by omega) (by omega)),hF.someCell h1 (ht _ (by omega) (by omega)),hF.someCell h2 (ht _ (by omega) (by omega)),hF.someCell h3 (ht _ (by omega) (by omega)),
  hF.someCell h4 (ht _ (by omega) (by omega)),hF.someCell h5 (ht _ (by omega) (by omega)),hF.someCell h6 (ht _ (by omega) (by omega)),hF.someCell h7 (ht _ (by omega) (by omega)),u⟩
theorem Sc.fr {w w':World} {b o:Nat} {x:Int} {T:Nat->Nat->Prop} (hF:Fr T w w') (ht:∀j,o<=j->j < o+8->¬T b j) (h:Sc w b o x):Sc w' b o x:=by
 obtain ⟨n0,n1,n2,n3,n4,n5,n6,n7,h,e⟩:=h
 exact ⟨_,_,_,_,_,_,_,_,h.fr hF ht,e⟩
theorem Sc.lt {w:World} {b o:Nat} {x:Int} (h:Sc w b o x):b < w.heap.size:=by
 obtain ⟨n0,n1,n2,n3,n4,n5,n6,n7,h,e⟩:=h
 exact h.lt
theorem or4 {a b c d:Int} (ha:0<=a/\a < 256) (hb:0<=b/\b < 256) (hc:0<=c/\c < 256) (hd:0<=d/\d < 256):
 bits BinOp.or IntKind.u32 (bits BinOp.or IntKind.u32 (bits BinOp.or IntKind.u32 a (b*256)) (c*65536)) (d*16777216)=a+b*256+c*65536+d*16777216:=by
 obtain ⟨A,rfl⟩:=Eo ha.1
 obtain ⟨B,rfl⟩:=Eo hb.1
 obtain ⟨C,rfl⟩:=Eo hc.1
 obtain ⟨D,rfl⟩:=Eo hd.1
 have e1:A ||| B*256=A+B*256:=by rw [Nat.or_comm,nat_join 8 _ _ (by omega) (by omega)];omega
 have e2:(A+B*256) ||| C*65536=A+B*256+C*65536:=by rw [Nat.or_comm,nat_join 16 _ _ (by omega) (by omega)];omega
 have e3:(A+B*256+C*65536) ||| D*16777216=A+B*256+C*65536+D*16777216:=by rw [Nat.or_comm,nat_join 24 _ _ (by omega) (by omega)];omega
 rw [show (B:Int)*256=((B*256:Nat):Int) by omega,u32_or_nat _ _ (by omega) (by omega),e1,
  show (C:Int)*65536=((C*65536:Nat):Int) by omega,u32_or_nat _ _ (by omega) (by omega),e2,
  show (D:Int)*16777216=((D*16777216:Nat):Int) by omega,u32_or_nat _ _ (by omega) (by omega),e3]
 omega
def be (Y:Nat->Int):Nat->Int
 | 0=>0
 | n+1=>be Y n*256+Y n
theorem be_split (Y:Nat->Int):be Y 32=val8 (Y 31+Y 30*256+Y 29*65536+Y 28*16777216) (Y 27+Y 26*256+Y 25*65536+Y 24*16777216) (Y 23+Y 22*256+Y 21*65536+Y 20*16777216) (Y 19+Y 18*256+Y 17*65536+Y 16*16777216)
 (Y 15+Y 14*256+Y 13*65536+Y 12*16777216) (Y 11+Y 10*256+Y 9*65536+Y 8*16777216) (Y 7+Y 6*256+Y 5*65536+Y 4*16777216) (Y 3+Y 2*256+Y 1*65536+Y 0*16777216):=by
 simp only [be,val8];omega
def By (w:World) (b o n:Nat) (Y:Nat->Int):Prop:=∀j,j < n->w.cell? ⟨b,o+j,none⟩=some (.int .u8 (Y j))/\0<=Y j/\Y j < 256
theorem By.fr {w w':World} {b o n:Nat} {Y:Nat->Int} {T:Nat->Nat->Prop} (hF:Fr T w w') (ht:∀j,o<=j->j < o+n->¬T b j) (h:By w b o n Y):By w' b o n Y:=
 fun j hj=>⟨hF.someCell (h j hj).1 (ht _ (by omega) (by omega)),(h j hj).2⟩
section
set_option maxRecDepth 8000
theorem By.cd {w w':World} {b o n:Nat} {Y:Nat->Int} (h:By w b o n Y) (hC:Cd w w'):By w' b o n Y:=fun j hj=>⟨hC.cell (h j hj).1,(h j hj).2⟩
theorem By.sub {w:World} {b o n:Nat} {Y:Nat->Int} (h:By w b o n Y) {s m:Nat} (hs:s+m<=n):By w b (o+s) m (fun i=>Y (s+i)):=fun j hj=>by
 have:=h (s+j) (by omega)
 rw [<-Nat.add_assoc] at this;exact this
theorem Ki (Y:Nat->Int) (m:Nat):∀n,be Y (m+n)=be Y m*256 ^ n+be (fun i=>Y (m+i)) n
 | 0=>by simp [be]
 | n+1=>by
   rw [<-Nat.add_assoc]
   simp only [be]
   rw [Ki Y m n,Int.pow_succ]
   grind
theorem Je {Y Z:Nat->Int}:∀n,(∀j,j < n->Y j=Z j)->be Y n=be Z n
 | 0,_=>rfl
 | n+1,h=>by simp only [be];rw [Je n (fun j hj=>h j (by omega)),h n (by omega)]
theorem be_bound {Y:Nat->Int}:∀n,(∀j,j < n->0<=Y j/\Y j < 256)->0<=be Y n/\be Y n < 256 ^ n
 | 0,_=>by simp [be]
 | n+1,h=>by
   have h1:=be_bound n (fun j hj=>h j (by omega))
   have h2:=h n (by omega)
   simp only [be]
   rw [Int.pow_succ]
   omega
theorem pow256 (k:Nat):(256:Int) ^ (8*k)=BB ^ k:=by rw [Int.pow_mul];rfl
theorem beU32 (b o n c:Nat) (Y:Nat->Int) (w:World) (hB:By w b o 4 Y) (hn:4<=n):
 Calls Tryz.prog 98 #[.slice (some ⟨b,o,none⟩) n c] w fun e w'=>e=.returned (.int .u32 (be Y 4))/\Cd w w':=by
 refine Qd (vs:= [.slice (some ⟨b,o,none⟩) n c]) Tryz.func98 rfl rfl ?_
 intro a H
 replace H:Hd a 28 [] [(0,.slice (some ⟨b,o,none⟩) n c)]:=H
 refine Sq (Rl [_] (wl H (Ez.asn H rfl) rfl (kW (kS (kR [_,_,_] (kM rfl rfl (kL (fun a H=>Ez.ix65 H rfl rfl 3 rfl (by omega)) rfl (kL (fun a H=>Ez.ld5 H rfl ((hB 3 (by omega)).1)) rfl (kP [(0,_),(2,_)] rfl (kW (kS ?_)))))))))));clear H a;intro a H
 refine Qr (ls:= [_,_,_,_,_,_,_,_,_,_,_,_,_,_,_,_,_,_,_,_,_,_,_]) Qb (by kernel_rfl) (wq H (fun w2 hw2=>Ez.mv H rfl) rfl (jL (fun a H w2 hw2=>Ez.ix65 H rfl rfl 3 rfl (by omega)) rfl (jL (fun a H w2 hw2=>Ez.ld5 H rfl (hw2.cell (hB 3 (by omega)).1)) rfl (jL (fun a H w2 hw2=>Ez.cv (r:=(Y 3)) H rfl ty5 ty33 (by (rw [Wv];have:=(hB 3 (by omega)).2;omega))) rfl (jM rfl rfl (jL (fun a H w2 hw2=>Ez.ix65 H rfl rfl 2 rfl (by omega)) rfl (jL (fun a H w2 hw2=>Ez.ld5 H rfl (hw2.cell (hB 2 (by omega)).1)) rfl (jL (fun a H w2 hw2=>Ez.cv (r:=(Y 2)) H rfl ty5 ty33 (by (rw [Wv];have:=(hB 2 (by omega)).2;omega))) rfl (jL (fun a H w2 hw2=>Ez.shlU32 (r:=(Y 2*256)) H rfl rfl 8 rfl (by decide) (by (have:=(hB 2 (by omega)).2;omega))) rfl (jL (fun a H w2 hw2=>Ez.or H rfl rfl (u32_or8 _ _ (by have:=(hB 3 (by omega)).2;omega) (by have:=(hB 3 (by omega)).2;omega) (by have:=(hB 2 (by omega)).2;omega) (by omega) (by have:=(hB 2 (by omega)).2;omega))) rfl (jM rfl rfl (jL (fun a H w2 hw2=>Ez.ix65 H rfl rfl 1 rfl (by omega)) rfl (jL (fun a H w2 hw2=>Ez.ld5 H rfl (hw2.cell (hB 1 (by omega)).1)) rfl (jL (fun a H w2 hw2=>Ez.cv (r:=(Y 1)) H rfl ty5 ty33 (by (rw [Wv];have:=(hB 1 (by omega)).2;omega))) rfl (jL (fun a H w2 hw2=>Ez.shlU32 (r:=(Y 1*65536)) H rfl rfl 16 rfl (by decide) (by (have:=(hB 1 (by omega)).2;omega))) rfl (jL (fun a H w2 hw2=>Ez.or H rfl rfl (u32_or16 _ _ (by have:=(hB 3 (by omega)).2;have:=(hB 2 (by omega)).2;omega) (by have:=(hB 3 (by omega)).2;have:=(hB 2 (by omega)).2;omega) (by have:=(hB 1 (by omega)).2;omega) (by omega) (by have:=(hB 1 (by omega)).2;omega))) rfl (jM rfl rfl (jL (fun a H w2 hw2=>Ez.ix65 H rfl rfl 0 rfl (by omega)) rfl (jL (fun a H w2 hw2=>Ez.ld5 H rfl (hw2.cell (hB 0 (by omega)).1)) rfl (jL (fun a H w2 hw2=>Ez.cv (r:=(Y 0)) H rfl ty5 ty33 (by (rw [Wv];have:=(hB 0 (by omega)).2;omega))) rfl (jL (fun a H w2 hw2=>Ez.shlU32 (r:=(Y 0*16777216)) H rfl rfl 24 rfl (by decide) (by (have:=(hB 0 (by omega)).2;omega))) rfl (jL (fun a H w2 hw2=>Ez.or H rfl rfl (u32_or24 _ _ (by have:=(hB 3 (by omega)).2;have:=(hB 2 (by omega)).2;have:=(hB 1 (by omega)).2;omega) (by have:=(hB 3 (by omega)).2;have:=(hB 2 (by omega)).2;have:=(hB 1 (by omega)).2;omega) (by have:=(hB 0 (by omega)).2;omega) (by omega) (by have:=(hB 0 (by omega)).2;omega))) rfl (jA rfl rfl ?_)))))))))))))))))))))));clear H a;intro a H
 refine wqe ?_
 intro w1 hw
 skip
 replace H:Hd a 28 [] [(2,_)]:=H.pick [2]
 refine Wr ?_
 refine rt1 H rfl rfl ?_
 refine ⟨?_,hw⟩
 congr 2
 simp only [be];omega
theorem beU32Q (b o n c:Nat) (Y:Nat->Int) (w:World) (hB:By w b o 4 Y) (hn:4<=n):∀w',Cd w w'->Calls Tryz.prog 98 [Value.slice (some ⟨b,o,none⟩) n c].toArray w' fun e w''=>e=.returned (.int .u32 (be Y 4))/\Cd w w'':=
 fun w' hw=>(beU32 b o n c Y w' (hB.cd hw) hn).mono fun _ _ ⟨h,e⟩=>⟨h,hw.trans e⟩
theorem beU64 (b o n c:Nat) (Y:Nat->Int) (w:World) (hB:By w b o 8 Y) (hn:8<=n) (hc:n<=c):
 Calls Tryz.prog 97 #[.slice (some ⟨b,o,none⟩) n c] w fun e w'=>e=.returned (.int .u64 (be Y 8))/\Cd w w':=by
 refine Qd (vs:= [.slice (some ⟨b,o,none⟩) n c]) Tryz.func97 rfl rfl ?_
 intro a H
 replace H:Hd a 15 [] [(0,.slice (some ⟨b,o,none⟩) n c)]:=H
 refine Sq (Rl [_] (wl H (Ez.asn H rfl) rfl (kW (kS (kR [_,_,_] (kM rfl rfl (kL (fun a H=>Ez.ix65 H rfl rfl 7 rfl (by omega)) rfl (kL (fun a H=>Ez.ld5 H rfl ((hB 7 (by omega)).1)) rfl (kP [(0,_),(2,_)] rfl (kW (kS ?_)))))))))));clear H a;intro a H
 have hu:∀j,j < 8->0<=Y j/\Y j < 256:=fun j hj=>(hB j hj).2
 have b1:=be_bound (Y:=Y) 4 (fun j hj=>hu j (by omega))
 have b2:=be_bound (Y:=fun i=>Y (4+i)) 4 (fun j hj=>hu _ (by omega))
 have e1:=Ki Y 4 4
 rw [show (256:Int) ^ 4=4294967296 by decide] at b1 b2 e1
 refine Qr (ls:= [_,_,_,_,_,_,_,_,_,_]) Qb (by kernel_rfl) (wq H (fun w2 hw2=>Ez.mv H rfl) rfl ?_);clear H a;intro a H
 refine wkq H cf98 (beU32Q b o n c Y w (fun j hj=>hB j (by omega)) (by omega)) rfl rfl ?_;clear H a;intro a H
 refine wq H (fun w2 hw2=>Ez.cv (r:=(be Y 4)) H rfl ty33 ty28 (by (rw [Wu];omega))) rfl (jL (fun a H w2 hw2=>Ez.shlU (r:=(be Y 4*4294967296)) H rfl rfl 32 rfl (by decide) (by (omega))) rfl (jM rfl rfl (jL (fun a H w2 hw2=>Ez.slL65 H rfl rfl 4 rfl (by omega) hc (o+4) (n - 4) (c - 4) (if_pos (by omega)) rfl rfl) rfl ?_)));clear H a;intro a H
 refine wkq H cf98 (beU32Q b (o+4) (n - 4) (c - 4) (fun i=>Y (4+i)) w (hB.sub (by omega)) (by omega)) rfl rfl ?_;clear H a;intro a H
 refine wq H (fun w2 hw2=>Ez.cv (r:=(be (fun i=>Y (4+i)) 4)) H rfl ty33 ty28 (by (rw [Wu];omega))) rfl (jL (fun a H w2 hw2=>Ez.or H rfl rfl (orJ 32 (by decide) ⟨by omega,by omega⟩ (by omega) ⟨b2.1,by have:=b2.2;omega⟩)) rfl (jA rfl rfl ?_));clear H a;intro a H
 refine wqe ?_
 intro w1 hw
 skip
 replace H:Hd a 15 [] [(2,_)]:=H.pick [2]
 refine Wr ?_
 refine rt1 H rfl rfl ?_
 refine ⟨?_,hw⟩
 congr 2
 exact e1.symm
theorem beWord (b o n c:Nat) (Y:Nat->Int) (w:World) (hB:By w b o 8 Y) (hn:8<=n) (hc:n<=c):
 Calls Tryz.prog 83 #[.slice (some ⟨b,o,none⟩) n c] w fun e w'=>e=.returned (.int .u64 (be Y 8))/\Cd w w':=by
 refine Qd (vs:= [.slice (some ⟨b,o,none⟩) n c]) Tryz.func83 rfl rfl ?_
 intro a H
 replace H:Hd a 8 [] [(0,.slice (some ⟨b,o,none⟩) n c)]:=H
 refine Sq (Rl [_] (wl H (Ez.asn H rfl) rfl (kW (kS ?_))));clear H a;intro a H
 refine Ct (H.o rfl) (Sq (Rl [_,_,_] (wl H (Ez.mv H rfl) rfl ?_)));clear H a;intro a H
 refine wk H cf97 (beU64 b o n c Y w hB hn hc) rfl rfl ?_
 rintro _ w1 ⟨rfl,hC⟩
 refine ⟨_,rfl,?_⟩;clear H a;intro a H
 refine wl H (Ez.asn H rfl) rfl (kP [(0,_),(2,_)] rfl (kW ?_));clear H a;intro a H
 refine Wr (thr ?_)
 refine rt1 H rfl rfl ?_
 exact ⟨rfl,hC⟩
theorem natSetBytes (q:Option Addr) (n0 c0 b o c:Nat) (Z Y:Nat->Int) (w:World) (hz:Sl w q n0 c0 Z) (hB:By w b o 32 Y) (hc:32<=c) (hd:∀j,¬TQ q b j):
 Calls Tryz.prog 69 #[.slice q n0 c0,.slice (some ⟨b,o,none⟩) 32 c] w fun e w'=>∃q' k c' X',e=.returned (.slice q' k c')/\Sl w' q' k c' X'/\k<=4/\nv X' k=be Y 32/\Nm X' k/\Own w q q'/\Fr (TQ q) w w':=by
 obtain ⟨w0,hw0⟩:∃w0,w0=w:=⟨w,rfl⟩
 rw [<-hw0]
 rw [<-hw0] at hz hB
 clear hw0 w
 refine Qd (vs:= [.slice q n0 c0,.slice (some ⟨b,o,none⟩) 32 c]) Tryz.func69 rfl rfl ?_
 intro a H
 replace H:Hd a 59 [] [(0,.slice q n0 c0),(1,.slice (some ⟨b,o,none⟩) 32 c)]:=H
 refine Sq (Rl [_] (wl H (Ez.asn H rfl) rfl (kW (kS (kR [_,_,_,_,_,_,_,_] (kM rfl rfl (kM rfl rfl (kL (fun a H=>Ez.len65 H rfl) rfl (kL (fun a H=>Ez.addI (r:=(40:Int)) H rfl rfl (by omega) (by omega)) rfl (kL (fun a H=>Ez.subI (r:=(39:Int)) H rfl rfl (by omega) (by omega)) rfl (kL (fun a H=>Ez.quo H rfl rfl (by omega) (by omega) (by decide) (r:=4) (by decide)) rfl ?_)))))))))));clear H a;intro a H
 refine wk H cf82 (J9 q n0 c0 4 Z w0 hz (by omega)) rfl rfl ?_
 rintro _ w1 ⟨q',c',X1,rfl,h1,h2,h3⟩
 refine ⟨_,rfl,?_⟩;clear H a;intro a H
 have hle:=h1.le
 obtain ⟨bz,rfl,_,hW⟩:=h1.blk (by omega)
 have hB1:=By.fr h3 (fun j _ _ f=>f) hB
 have hbz:bz≠b:=by
  rcases h2 bz 0 (Qt.2 rfl) with h | h
  ·exact fun e=>hd 0 (by rw [<-e];exact h)
  have:=Bl0 w0 _ (hB 0 (by omega)).1
  intro e;rw [e] at h;exact absurd this (Nat.not_lt.2 h)
 have hF0:Fr (Bl bz) w1 w1:=Fr.refl _ _
 obtain ⟨wX,hwX⟩:∃wX,wX=w1:=⟨w1,rfl⟩
 rw [<-hwX]
 rw [<-hwX] at hW hB1 h3 hF0
 clear hwX h1
 refine wl H (Ez.asn H rfl) rfl (kP [(0,_),(1,_),(4,_)] rfl (kW (kS (kR [_,_,_] (kM rfl rfl (kL (fun a H=>Ez.len65 H rfl) rfl (kA rfl rfl (kP [(0,_),(1,_),(4,_),(5,_)] rfl (kW (kS (kS (kR [_] (kA rfl rfl (kW ?_))))))))))))));clear H a;intro a H
 refine Wb ?_
 refine Qo (fun mm a w=>∃(k:Nat) (X2:Nat->Int),mm=4 - k/\k<=4/\Hd a 59 [] [(0,.slice (some ⟨bz,0,none⟩) 4 c'),(1,.slice (some ⟨b,o,none⟩) 32 c),(5,.int .i64 ((32 - 8*k:Nat):Int)),(6,.int .i64 k)]/\Wk w bz c' X2/\nv X2 k=be (fun i=>Y (32 - 8*k+i)) (8*k)/\Fr (Bl bz) wX w) (4) ?_ ?_
 ·replace H:Hd a 59 [] [(0,_),(1,_),(5,_),(6,_)]:=H.pick [0,1,5,6]
  exact ⟨0,X1,rfl,Nat.zero_le _,H,hW,rfl,hF0⟩
 clear H a
 intro mm a w hI
 clear hF0 hW
 obtain ⟨k,X2,hmm,hk,H,hW,hv,hF⟩:=hI
 obtain ⟨wL,rfl⟩:∃wL,wL=w:=⟨w,rfl⟩
 have hB2:=By.fr hF (fun j _ _ e=>hbz (Eq.symm e)) hB1
 refine Sq (Sq (Rl [_,_] (wl H (Ez.mv H rfl) rfl (kL (fun a H=>Ez.geq H rfl rfl (rfl)) rfl (kP [(0,_),(1,_),(5,_),(6,_),(19,_)] rfl (kW ?_))))));clear H a;intro a H
 refine Cs (H.o rfl) (fun hb0=>?_) (fun hb0=>?_)
 ·have hk3:k < 4:=by have:=Dt hb0;omega
  refine Wk0 (thn (Sq (Wb (Sq (Rl [_,_,_,_,_,_,_,_,_,_] (wl H (Ez.mv H rfl) rfl (kM rfl rfl (kM rfl rfl (kM rfl rfl (kL (fun a H=>Ez.subI (r:=((24 - 8*k:Nat):Int)) H rfl rfl (by omega) (by omega)) rfl (kM rfl rfl (kL (fun a H=>Ez.slLH65 H rfl rfl rfl (24 - 8*k) (32 - 8*k) rfl rfl (by omega) (by omega) (o+(24 - 8*k)) 8 (c - (24 - 8*k)) (if_pos (by omega)) (by omega) rfl) rfl ?_))))))))))));clear H a;intro a H
  refine wk H cf83 (beWord b (o+(24 - 8*k)) 8 (c - (24 - 8*k)) (fun i=>Y (24 - 8*k+i)) wL (hB2.sub (by omega)) (by omega) (by omega)) rfl rfl ?_
  rintro _ w1 ⟨rfl,hC⟩
  refine ⟨_,rfl,?_⟩;clear H a;intro a H
  have hW2:=hW.heq hC.heap
  refine wl H (Ez.ix80 H rfl rfl k rfl (by omega)) rfl ?_;clear H a;intro a H
  refine wls H (Ez.st103 H rfl rfl rfl (hW2.cell (by omega)) (hW2.fz _)) ?_;clear H;intro H
  refine kP [(0,_),(1,_),(5,_),(6,_)] rfl (kW ?_) a H;clear H a;intro a H
  have hu:=be_bound (Y:=fun i=>Y (24 - 8*k+i)) 8 (fun j hj=>(hB (24 - 8*k+j) (by omega)).2)
  rw [show (256:Int) ^ 8=18446744073709551616 by decide] at hu
  have hW3:=hW2.set (j:=0+k) (by omega) (v:=be (fun i=>Y (24 - 8*k+i)) 8) hu
  have hF3:=(hF.trans (hC.fr _)).trans (Fr.bl (b:=bz) (j:=0+k) (.int .u64 (be (fun i=>Y (24 - 8*k+i)) 8)))
  have hv3:nv (up X2 (0+k) (be (fun i=>Y (24 - 8*k+i)) 8)) (k+1)=be (fun i=>Y (32 - 8*(k+1)+i)) (8*(k+1)):=by
   simp only [nv]
   rw [Nat.zero_add,Qz,Ja k (fun j hj=>Qx (by omega)),hv]
   have e:=Ki (fun i=>Y (24 - 8*k+i)) 8 (8*k)
   rw [pow256] at e
   rw [show 32 - 8*(k+1)=24 - 8*k by omega,show 8*(k+1)=8+8*k by omega,e,Int.add_comm]
   congr 1
   exact Je _ fun j hj=>by congr 1;omega
  refine Rl [_,_,_] (wl H (Ez.mv H rfl) rfl (kL (fun a H=>Ez.subI (r:=((32 - 8*(k+1):Nat):Int)) H rfl rfl (by omega) (by omega)) rfl (kA rfl rfl (kP [(0,_),(1,_),(5,_),(6,_)] rfl ?_))));clear H a;intro a H
  refine Wn ?_
  refine bn (thn (Rl [_,_,_] (wl H (Ez.mv H rfl) rfl (kL (fun a H=>Ez.addI (r:=((k+1:Nat):Int)) H rfl rfl (by omega) (by omega)) rfl (kA rfl rfl (kP [(0,_),(1,_),(5,_),(6,_)] rfl (kW (kP [(0,_),(1,_),(5,_),(6,_)] rfl ?_))))))));clear H a;intro a H
  exact ⟨4 - (k+1),by omega,k+1,_,rfl,by omega,H,hW3,hv3,hF3⟩
 have hk4:k=4:=by have:=Df hb0;omega
 subst hk4
 refine We (thx (thx (bxe (thn (Sq (Sq (Rl [_,_] (wl H (Ez.mv H rfl) rfl (kL (fun a H=>Ez.gtr (r:=false) H rfl rfl (by (simp))) rfl (kP [(0,_),(1,_),(5,_),(34,_)] rfl (kW ?_)))))))))));clear H a;intro a H
 refine Cf (H.o rfl) (Wk0 (thn (Sq (Rl [_,_,_] (wl H (Ez.mv H rfl) rfl ?_)))));clear H a;intro a H
 refine wk H cf84 (Kc _ 4 c' X2 wL (Sl.of hW hle (by omega)) (by omega)) rfl rfl ?_
 rintro _ w1 ⟨j,rfl,k1,k2,k3,k4,rfl⟩
 refine ⟨_,rfl,?_⟩;clear H a;intro a H
 refine wl H (Ez.asn H rfl) rfl (kP [(4,_)] rfl (kW ?_));clear H a;intro a H
 refine Wr ?_
 refine rt1 H rfl rfl ?_
 refine ⟨_,j,c',X2,rfl,k2,k1,?_,k4,h2,(h3.noT.trans hF.blq).own h2⟩
 rw [k3,hv]
 exact Je 32 fun j hj=>by congr 1;omega
theorem intSetBytes (z b o c:Nat) (Y:Nat->Int) (rz:IR) (w:World) (hz:Ib w z rz) (hB:By w b o 32 Y) (hc:32<=c) (hd:∀j,¬TQ rz.q b j):
 Calls Tryz.prog 59 #[pz z,.slice (some ⟨b,o,none⟩) 32 c] w fun e w'=>∃r,e=.returned (pz z)/\Zr w w' z rz r/\nv r.X r.n=be Y 32/\r.s=false/\r.n<=4:=by
 refine Qd (vs:= [pz z,.slice (some ⟨b,o,none⟩) 32 c]) Tryz.func59 rfl rfl ?_
 intro a H
 replace H:Hd a 18 [] [(0,pz z),(1,.slice (some ⟨b,o,none⟩) 32 c)]:=H
 refine Sq (Rl [_] (wl H (Ez.asn H rfl) rfl (kW (kS (kR [_,_,_,_,_,_,_,_,_,_] (kM rfl rfl (kM rfl rfl (kN rfl rfl (kL (fun a H=>Ez.fa82_1 H rfl) rfl (kL (fun a H=>Ez.ld80 H rfl (hz.c1)) rfl (kM rfl rfl ?_)))))))))));clear H a;intro a H
 refine wk H cf69 (natSetBytes rz.q rz.n rz.c b o c rz.X Y w hz.sl hB hc hd) rfl rfl ?_
 rintro _ w1 ⟨q',n',c',X',rfl,h1,h2,h3,h4,h5,h6⟩
 refine ⟨_,rfl,?_⟩;clear H a;intro a H
 have hA:=hz.abs h6 h1 h4
 refine wl H (Ez.nc H rfl) rfl (kL (fun a H=>Ez.fa82_1 H rfl) rfl ?_);clear H a;intro a H
 refine wls H (Ez.st80 H rfl rfl rfl hA.1 hA.2.1) ?_;clear H;intro H
 refine kP [(0,_),(4,_)] rfl (kW (kS (kR [_,_,_,_] (kM rfl rfl (kN rfl rfl (kL (fun a H=>Ez.fa82_0 H rfl) rfl ?_)))))) a H;clear H a;intro a H
 refine wls H (Ez.st4 H rfl rfl rfl hA.2.2.1.c0 (hA.2.2.1.fz _)) ?_;clear H;intro H
 refine kP [(0,_),(4,_)] rfl (kW (kS (kR [_,_] (kM rfl rfl (kA rfl rfl (kP [(4,_)] rfl (kW ?_))))))) a H;clear H a;intro a H
 refine Wr ?_
 refine rt1 H rfl rfl ?_
 have hN:=hA.2.2.1.neg false rz.q
 exact ⟨_,rfl,⟨hN.1,h5,hA.2.2.2.trans hN.2⟩,h3,rfl,h2⟩
end
section
set_option maxRecDepth 8000
structure Bk (w:World) (b c:Nat) (Y:Nat->Int):Prop where
 blk:w.heap[b]?=some (.cells (Array.ofFn fun j:Fin c=>Value.int .u8 (Y j)) 5 (0,0))
 u:∀j,j < c->0<=Y j/\Y j < 256
section
variable {w w':World} {b c:Nat} {Y:Nat->Int}
theorem Bk.cell (h:Bk w b c Y) {j:Nat} (hj:j < c):w.cell? ⟨b,j,none⟩=some (.int .u8 (Y j)):=by
 simp [World.cell?,h.blk,hj]
theorem Bk.fz (h:Bk w b c Y) (j:Nat):w.frozen? ⟨b,j,none⟩=false:=by simp [World.frozen?,h.blk]
theorem Bk.lt (h:Bk w b c Y):b < w.heap.size:=by
 have:=h.blk
 rcases Nat.lt_or_ge b w.heap.size with h' | h'
 ·exact h'
 rw [Array.getElem?_eq_none h'] at this;cases this
theorem Bk.set (h:Bk w b c Y) {j:Nat} (hj:j < c) {v:Int} (hv:0<=v/\v < 256):Bk (w.setCell ⟨b,j,none⟩ (.int .u8 v)) b c (up Y j v):=by
 refine ⟨?_,fun k hk=>?_⟩
 ·rw [Js h.blk]
  refine congrArg (fun A=>some (Obj.cells A 5 (0,0))) ?_
  apply Array.ext
  ·simp
  intro i h1 h2
  simp only [Array.getElem_ofFn,up]
  by_cases e:j=i
  ·subst e;simp
  rw [Array.getElem_setIfInBounds_ne (by simpa using h2) e,if_neg (Ne.symm e)];simp
 by_cases e:k=j
 ·subst e;rw [Qz];exact hv
 rw [Qx e];exact h.u k hk
theorem Bk.fr {T:Nat->Nat->Prop} (h:Bk w b c Y) (hF:Fr T w w') (hT:∀o,¬T b o):Bk w' b c Y:=⟨(hF.block b h.lt hT).trans h.blk,h.u⟩
theorem Bk.heq (h:Bk w b c Y) (hh:w'.heap=w.heap):Bk w' b c Y:=⟨by rw [hh];exact h.blk,h.u⟩
theorem Bk.by_ (h:Bk w b c Y) {o n:Nat} (hn:o+n<=c):By w b o n (fun i=>Y (o+i)):=fun j hj=>⟨h.cell (by omega),h.u _ (by omega)⟩
theorem byte_info:∃i,Tryz.prog.info? 5=some i/\i.zero=some (.int .u8 0)/\i.bytes=1/\i.size=1:=by
 have h:(Tryz.prog.info? 5).map (fun i=>(i.zero,i.bytes,i.size))=some (some (.int .u8 0),1,1):=by kernel_rfl
 cases hi:Tryz.prog.info? 5 with
 | none=>rw [hi] at h;cases h
 | some i=>rw [hi] at h;simp only [Option.map_some,Option.some.injEq,Prod.mk.injEq] at h;exact ⟨i,rfl,h⟩
theorem madeB (n:Nat):madeCells #[Value.int .u8 0] n=Array.ofFn fun j:Fin n=>Value.int .u8 ((fun _=>0:Nat->Int) j):=by
 apply Array.ext
 ·rw [size_madeCells,Array.size_ofFn]
 intro i h1 h2
 simp only [madeCells,Array.getElem_map,Array.getElem_range,Array.getElem_ofFn]
 show #[Value.int .u8 0][i % 1]! =_
 rw [Nat.mod_one];rfl
theorem Bk.made (w:World) (n:Nat):Bk (w.alloc (.cells (Array.ofFn fun j:Fin n=>Value.int .u8 ((fun _=>0:Nat->Int) j)) 5)) w.heap.size n (fun _=>0):=
 ⟨(by show (w.heap.push _)[w.heap.size]?=_;rw [Array.getElem?_push_size]),fun _ _=>⟨by decide,by decide⟩⟩
end
section
variable {a:Act} {N:Nat} {ds:List Deferred} {l:Env} {w:World} {d:Option Nat} {ty:TypeId} {pos:String} {after:Array Edge} {g:Option (Nat × Bool)}
theorem Ez.mk65 (H:Hd a N ds l) {x y:Operand} {i j:Int} (h:ov l x=some (.int .i64 i)) (h':ov l y=some (.int .i64 j)) (n:Nat) (hi:i=(n:Int)) (hj:j=(n:Int)) (hc:n < 10000000000):
 (execOp a.eval ⟨d,.makeSlice 65 x y,ty,pos,after,g⟩).run Tryz.prog w=.ok (.value (.slice (some ⟨w.heap.size,0,none⟩) n n)) (w.alloc (.cells (Array.ofFn fun j:Fin n=>Value.int .u8 ((fun _=>0:Nat->Int) j)) 5)):=by
 have e:=H.o h
 have e':=H.o h'
 subst hi;subst hj
 obtain ⟨ti,h1,h2,h3,h4⟩:=byte_info
 have q:=run_make (P:=Tryz.prog) w 65 5 ti (.int .u8 0) (by kernel_rfl) h1 h2 .i64 .i64 (n:Int) (n:Int) (by omega) (by omega) (by rw [h3];omega) (by omega)
 rw [h4,Nat.mul_one,Int.toNat_natCast,show (Value.int .u8 0).cells=#[Value.int .u8 0] from rfl,madeB] at q
 simp only [execOp,e,e',Sem.run_bind,q,Result.andThen];rfl
end
end
section
set_option maxRecDepth 8000
theorem emod_step {x P:Int} (hP:0 < P):x % (P*256)=x % P+(x / P % 256)*P:=by
 have d1:=Int.mul_ediv_add_emod x P
 have d2:=Int.mul_ediv_add_emod (x / P) 256
 have m1:=En x (show P≠0 by omega)
 have m2:=El x hP
 have m3:=En (x / P) (show (256:Int)≠0 by decide)
 have m4:=El (x / P) (show (0:Int) < 256 by decide)
 generalize x / P % 256=r at*
 generalize x / P / 256=q at*
 have e:x=(x % P+r*P)+P*256*q:=by
  have:P*(x / P)=P*(256*q+r):=by rw [d2]
  grind
 have h1:=Mr (show r<=255 by omega) (Int.le_of_lt hP)
 have h2:=Mn m3 (Int.le_of_lt hP)
 generalize hs:x % P=s at*
 rw [e,Int.add_mul_emod_self_left]
 exact Int.emod_eq_of_lt (by omega) (by omega)
theorem shr8 {x:Int} {j:Nat} (hP:(0:Int) < 256 ^ j):x / 256 ^ j / 2 ^ 8=x / 256 ^ (j+1):=by
 have e:(256:Int) ^ (j+1)=256 ^ j*2 ^ 8:=by rw [Int.pow_succ];rfl
 rw [e]
 first | exact Int.ediv_ediv_of_nonneg (Int.le_of_lt hP) | exact Int.ediv_ediv (Int.le_of_lt hP) | exact (Int.ediv_mul_ediv _ _ _)
theorem be_pre (Y:Nat->Int) (s m:Nat):be (fun i=>Y (s+i)) (m+1)=Y s*256 ^ m+be (fun i=>Y (s+1+i)) m:=by
 have:=Ki (fun i=>Y (s+i)) 1 m
 rw [Nat.add_comm 1 m] at this
 rw [this]
 congr 1
 ·simp [be]
 exact Je m fun j _=>by congr 1;omega
theorem natBytes (q:Option Addr) (n c b:Nat) (X Y:Nat->Int) (w:World) (hx:Sl w q n c X) (hb:Bk w b (8*n) Y) (hd:∀j,¬TQ q b j) (hn:n < 1000):
 Calls Tryz.prog 80 #[.slice q n c,.slice (some ⟨b,0,none⟩) (8*n) (8*n)] w fun e w'=>∃(i:Nat) (Y':Nat->Int),e=.returned (.int .i64 i)/\i<=8*n/\Bk w' b (8*n) Y'/\be (fun j=>Y' (i+j)) (8*n - i)=nv X n/\Fr (Bl b) w w'/\(i < 8*n->Y' i≠0):=by
 obtain ⟨w0,hw0⟩:∃w0,w0=w:=⟨w,rfl⟩
 rw [<-hw0]
 rw [<-hw0] at hx hb
 clear hw0 w
 refine Qd (vs:= [.slice q n c,.slice (some ⟨b,0,none⟩) (8*n) (8*n)]) Tryz.func80 rfl rfl ?_
 intro a H
 replace H:Hd a 51 [] [(0,.slice q n c),(1,.slice (some ⟨b,0,none⟩) (8*n) (8*n))]:=H
 refine Sq (Rl [_] (wl H (Ez.asn H rfl) rfl (kW (kS (kR [_,_,_] (kM rfl rfl (kL (fun a H=>Ez.len65 H rfl) rfl (kA rfl rfl (kP [(0,_),(1,_),(4,_)] rfl (kW (kS (kS (kR [_,_,_] (kM rfl rfl (kL (fun a H=>Ez.len80 H rfl) rfl (kM rfl rfl (kP [(1,_),(4,_),(10,_),(11,_),(12,_)] rfl (kW ?_))))))))))))))))));clear H a;intro a H
 refine Wb ?_
 refine Qo (fun mm a w=>∃(k:Nat) (Y1:Nat->Int),mm=n - k/\k<=n/\Hd a 51 [] [(1,.slice (some ⟨b,0,none⟩) (8*n) (8*n)),(4,.int .i64 ((8*(n - k):Nat):Int)),(10,.slice q n c),(11,.int .i64 n),(12,.int .i64 k)]/\Bk w b (8*n) Y1/\be (fun i=>Y1 (8*(n - k)+i)) (8*k)=nv X k/\Fr (Bl b) w0 w) (n) ?_ ?_
 ·replace H:Hd a 51 [] [(1,_),(4,_),(10,_),(11,_),(12,_)]:=H.pick [1,4,10,11,12]
  exact ⟨0,Y,rfl,Nat.zero_le _,H,hb,rfl,Fr.refl _ _⟩
 clear H a
 intro mm a w hI
 clear hb
 obtain ⟨k,Y1,hmm,hk,H,hb,hv,hF⟩:=hI
 obtain ⟨wL,rfl⟩:∃wL,wL=w:=⟨w,rfl⟩
 refine Sq (Rl [_] (wl H (Ez.lss H rfl rfl (rfl)) rfl (kW (kS ?_))));clear H a;intro a H
 refine Cs (H.o rfl) (fun hb0=>?_) (fun hb0=>?_)
 ·have hkn:k < n:=by have:=Dt hb0;omega
  have hle:=hx.le
  obtain ⟨bx,hq,_,hW⟩:=hx.blk (by omega)
  rw [hq] at H
  have hbx:bx≠b:=fun e=>hd 0 (by rw [hq,Qt];exact e.symm)
  have hW1:=hW.fr hF (fun _ e=>hbx e)
  have hxu:=hW.u k (by omega)
  unfold U64 at hxu
  refine Wk0 (thn (Sq (Wb (Sq (Rl [_,_,_] (wl H (Ez.ix80 H rfl rfl k rfl (by omega)) rfl (kL (fun a H=>Ez.ld103 H rfl ((by rw [Nat.zero_add];exact hW1.cell (by omega)))) rfl (kA rfl rfl (kP [(1,_),(4,_),(6,_),(10,_),(11,_),(12,_)] rfl (kW (kS (kR [_] (kA rfl rfl (kW ?_))))))))))))));clear H a;intro a H
  refine Wb ?_
  refine Qo (fun mm a w=>∃(j:Nat) (Y2:Nat->Int),mm=8 - j/\j<=8/\Hd a 51 [] [(1,.slice (some ⟨b,0,none⟩) (8*n) (8*n)),(4,.int .i64 ((8*(n - k) - j:Nat):Int)),(6,.int .u64 (X k / 256 ^ j)),(7,.int .i64 j),(10,.slice (some ⟨bx,0,none⟩) n c),(11,.int .i64 n),(12,.int .i64 k)]/\Bk w b (8*n) Y2/\be (fun i=>Y2 (8*(n - k) - j+i)) (8*k+j)=nv X k+X k % 256 ^ j*BB ^ k/\Fr (Bl b) w0 w) (8) ?_ ?_
  ·replace H:Hd a 51 [] [(1,_),(4,_),(6,_),(7,_),(10,_),(11,_),(12,_)]:=H.pick [1,4,6,7,10,11,12]
   refine ⟨0,Y1,rfl,Nat.zero_le _,by simpa using H,hb,?_,hF⟩
   rw [Int.pow_zero,Int.emod_one];simpa using hv
  clear H a
  intro mm a w hI9
  clear hb hv hF hW1
  obtain ⟨j,Y2,hmm1,hj,H,hb,hv,hF⟩:=hI9
  obtain ⟨wL,rfl⟩:∃wL,wL=w:=⟨w,rfl⟩
  have hP:(0:Int) < 256 ^ j:=Int.pow_pos (by decide)
  refine Sq (Sq (Rl [_,_] (wl H (Ez.mv H rfl) rfl (kL (fun a H=>Ez.lss H rfl rfl (rfl)) rfl (kP [(1,_),(4,_),(6,_),(7,_),(10,_),(11,_),(12,_),(17,_)] rfl (kW ?_))))));clear H a;intro a H
  refine Cs (H.o rfl) (fun hb1=>?_) (fun hb1=>?_)
  ·have hj8:j < 8:=by have:=Dt hb1;omega
   refine Wk0 (thn (Sq (Wb (Sq (Rl [_,_,_] (wl H (Ez.mv H rfl) rfl (kL (fun a H=>Ez.subI (r:=((8*(n - k) - (j+1):Nat):Int)) H rfl rfl (by omega) (by omega)) rfl (kA rfl rfl (kP [(1,_),(4,_),(6,_),(7,_),(10,_),(11,_),(12,_)] rfl (kW (kS (kS (kR [_,_] (kM rfl rfl (kL (fun a H=>Ez.geq (r:=true) H rfl rfl (by (simp))) rfl (kP [(1,_),(4,_),(6,_),(7,_),(10,_),(11,_),(12,_),(23,_)] rfl (kW ?_)))))))))))))))));clear H a;intro a H
   refine Ct (H.o rfl) (Rl [_,_,_,_,_,_] (wl H (Ez.mv H rfl) rfl (kM rfl rfl (kM rfl rfl (kL (fun a H=>Ez.cv (r:=(X k / 256 ^ j % 256)) H rfl ty103 ty5 (by (rw [IntKind.wrap_u8]))) rfl (kL (fun a H=>Ez.ix65 H rfl rfl (8*(n - k) - (j+1)) rfl (by omega)) rfl ?_))))));clear H a;intro a H
   refine wls H (Ez.st5 H rfl rfl rfl (hb.cell (by omega)) (hb.fz _)) ?_;clear H;intro H
   refine kP [(1,_),(4,_),(6,_),(7,_),(10,_),(11,_),(12,_)] rfl (kW ?_) a H;clear H a;intro a H
   have hr0:=En (X k / 256 ^ j) (show (256:Int)≠0 by decide)
   have hr1:=El (X k / 256 ^ j) (show (0:Int) < 256 by decide)
   have hb3:=hb.set (j:=0+(8*(n - k) - (j+1))) (by omega) (v:=X k / 256 ^ j % 256) ⟨hr0,hr1⟩
   have hF3:=hF.trans (Fr.bl (b:=b) (j:=0+(8*(n - k) - (j+1))) (.int .u8 (X k / 256 ^ j % 256)))
   have hv3:be (fun i=>up Y2 (0+(8*(n - k) - (j+1))) (X k / 256 ^ j % 256) (8*(n - k) - (j+1)+i)) (8*k+(j+1))=nv X k+X k % 256 ^ (j+1)*BB ^ k:=by
    rw [<-Nat.add_assoc,be_pre,Nat.zero_add,Qz,Int.pow_succ,emod_step hP]
    have e1:be (fun i=>up Y2 (8*(n - k) - (j+1)) (X k / 256 ^ j % 256) (8*(n - k) - (j+1)+1+i)) (8*k+j)=nv X k+X k % 256 ^ j*BB ^ k:=by
     rw [<-hv]
     exact Je _ fun i hi=>by rw [Qx (by omega)];congr 1;omega
    rw [e1,Int.pow_add,pow256]
    grind
   refine Rl [_,_,_] (wl H (Ez.mv H rfl) rfl (kL (fun a H=>Ez.shrU (r:=(X k / 256 ^ (j+1))) H rfl rfl 8 rfl (by decide) (by (exact shr8 hP))) rfl (kA rfl rfl (kP [(1,_),(4,_),(6,_),(7,_),(10,_),(11,_),(12,_)] rfl ?_))));clear H a;intro a H
   refine Wn ?_
   refine bn (thn (Rl [_,_,_] (wl H (Ez.mv H rfl) rfl (kL (fun a H=>Ez.addI (r:=((j+1:Nat):Int)) H rfl rfl (by omega) (by omega)) rfl (kA rfl rfl (kP [(1,_),(4,_),(6,_),(7,_),(10,_),(11,_),(12,_)] rfl (kW (kP [(1,_),(4,_),(6,_),(7,_),(10,_),(11,_),(12,_)] rfl ?_))))))));clear H a;intro a H
   exact ⟨8 - (j+1),by omega,j+1,_,rfl,by omega,H,hb3,hv3,hF3⟩
  have hj8:j=8:=by have:=Df hb1;omega
  subst hj8
  rw [<-hq] at H
  have hv9:be (fun i=>Y2 (8*(n - (k+1))+i)) (8*(k+1))=nv X (k+1):=by
   rw [show 8*(n - (k+1))=8*(n - k) - 8 by omega,show 8*(k+1)=8*k+8 by omega,hv]
   simp only [nv]
   rw [show (256:Int) ^ 8=18446744073709551616 by decide,Int.emod_eq_of_lt hxu.1 hxu.2]
  rw [show 8*(n - k) - 8=8*(n - (k+1)) by omega] at H
  refine We (thx (thx (bxe (bn (thn (Rl [_,_] (wl H (Ez.addI (r:=((k+1:Nat):Int)) H rfl rfl (by omega) (by omega)) rfl (kM rfl rfl (kP [(1,_),(4,_),(10,_),(11,_),(12,_)] rfl (kW (kP [(1,_),(4,_),(10,_),(11,_),(12,_)] rfl ?_)))))))))));clear H a;intro a H
  exact ⟨n - (k+1),by omega,k+1,Y2,rfl,by omega,H,hb,hv9,hF⟩
 have hkn:k=n:=by have:=Df hb0;omega
 subst hkn
 refine We (thx (thx (bxe (thn (Sq (Sq (Rl [_,_] (wl H (Ez.mv H rfl) rfl (kL (fun a H=>Ez.lss (r:=false) H rfl rfl (by (simp))) rfl (kP [(1,_),(4,_),(37,_)] rfl (kW ?_)))))))))));clear H a;intro a H
 refine Cf (H.o rfl) (Wk0 (thn (Sq (Wb ?_))))
 refine Qo (fun mm a w=>∃(i:Nat),mm=8*k - i/\i<=8*k/\Hd a 51 [] [(1,.slice (some ⟨b,0,none⟩) (8*k) (8*k)),(4,.int .i64 i)]/\be (fun j=>Y1 (i+j)) (8*k - i)=nv X k/\wL=w) (8*k) ?_ ?_
 ·replace H:Hd a 51 [] [(1,_),(4,_)]:=H.pick [1,4]
  refine ⟨0,rfl,Nat.zero_le _,by simpa using H,?_,rfl⟩
  rw [<-hv]
  simp
 clear H a
 intro mm a w hI8
 obtain ⟨i,hmm2,hi,H,hv2,rfl⟩:=hI8
 refine Sq (Sq ?_)
 rcases (show i < 8*k\/i=8*k by omega) with h0 | h0
 ·refine Rl [_,_,_,_,_,_,_,_,_,_,_] (wl H (Ez.mv H rfl) rfl (kM rfl rfl (kL (fun a H=>Ez.len65 H rfl) rfl (kL (fun a H=>Ez.lss (r:=true) H rfl rfl (by (simp;omega))) rfl (kM rfl rfl (kG (fun a H=>Ez.mv H rfl) rfl rfl rfl rfl rfl (kG (fun a H=>Ez.mv H rfl) rfl rfl rfl rfl rfl (kG (fun a H=>Ez.ix65 H rfl rfl i rfl (by omega)) rfl rfl rfl rfl rfl (kG (fun a H=>Ez.ld5 H rfl ((by rw [Nat.zero_add];exact hb.cell h0))) rfl rfl rfl rfl rfl (kG (fun a H=>Ez.eql H rfl rfl (rfl)) rfl rfl rfl rfl rfl (kL (fun a H=>Ez.pkT H rfl rfl) rfl (kP [(1,_),(4,_),(48,_)] rfl (kW ?_)))))))))))));clear H a;intro a H
  refine Cs (H.o rfl) (fun hb5=>?_) (fun hb5=>?_)
  ·have hz:Y1 i=0:=Dt hb5
   refine Wk0 (thn (Wb (Rl [_,_,_] (wl H (Ez.mv H rfl) rfl (kL (fun a H=>Ez.addI (r:=((i+1:Nat):Int)) H rfl rfl (by omega) (by omega)) rfl (kA rfl rfl (kP [(1,_),(4,_)] rfl ?_)))))));clear H a;intro a H
   refine Wn ?_
   refine bn (thn ?_)
   replace H:Hd a 51 [] [(1,_),(4,_)]:=H.pick [1,4]
   refine ⟨8*k - (i+1),by omega,i+1,rfl,by omega,H,?_,rfl⟩
   rw [show 8*k - i=(8*k - (i+1))+1 by omega,be_pre,hz] at hv2
   rw [<-hv2];simp
  refine We (thx (thx (bxe (thn (Wr ?_)))))
  refine rt1 H rfl rfl ?_
  exact ⟨i,Y1,rfl,hi,hb,hv2,hF,fun hlt=>by first | exact Df hb5 | omega⟩
 refine Rl [_,_,_,_,_,_,_,_,_,_,_] (wl H (Ez.mv H rfl) rfl (kM rfl rfl (kL (fun a H=>Ez.len65 H rfl) rfl (kL (fun a H=>Ez.lss (r:=false) H rfl rfl (by (simp;omega))) rfl (kM rfl rfl (kX rfl rfl rfl rfl rfl (kX rfl rfl rfl rfl rfl (kX rfl rfl rfl rfl rfl (kX rfl rfl rfl rfl rfl (kX rfl rfl rfl rfl rfl (kL (fun a H=>Ez.pkF H rfl rfl) rfl (kP [(1,_),(4,_),(48,_)] rfl (kW ?_)))))))))))));clear H a;intro a H
 refine Cf (H.o rfl) (We (thx (thx (bxe (thn (Wr ?_))))))
 refine rt1 H rfl rfl ?_
 exact ⟨i,Y1,rfl,hi,hb,hv2,hF,fun hlt=>by first | exact Df hb5 | omega⟩
theorem intBytes (x:Nat) (rx:IR) (w:World) (hx:Ib w x rx) (hn:rx.n < 1000):
 Calls Tryz.prog 63 #[pz x] w fun e w'=>∃(b o L c:Nat) (Y:Nat->Int),e=.returned (.slice (some ⟨b,o,none⟩) L c)/\w.heap.size<=b/\L<=8*rx.n/\L<=c/\By w' b o L Y/\be Y L=nv rx.X rx.n/\Fr NoT w w'/\(0 < L->Y 0≠0):=by
 refine Qd (vs:= [pz x]) Tryz.func63 rfl rfl ?_
 intro a H
 replace H:Hd a 19 [] [(0,pz x)]:=H
 refine Sq (Rl [_] (wl H (Ez.asn H rfl) rfl (kW (kS (kR [_,_,_,_,_,_,_,_] (kM rfl rfl (kN rfl rfl (kL (fun a H=>Ez.fa82_1 H rfl) rfl (kL (fun a H=>Ez.ld80 H rfl (hx.c1)) rfl (kL (fun a H=>Ez.len80 H rfl) rfl (kL (fun a H=>Ez.mulI (r:=((8*rx.n:Nat):Int)) H rfl rfl (by omega) (by omega)) rfl (kL (fun a H=>Ez.mk65 H rfl rfl (8*rx.n) rfl rfl (by omega)) rfl (kA rfl rfl (kP [(0,_),(2,_),(3,_)] rfl (kW ?_)))))))))))))));clear H a;intro a H
 have hb:=Bk.made w (8*rx.n)
 have hF:=(Fr.refl NoT w).alloc (.cells (Array.ofFn fun j:Fin (8*rx.n)=>Value.int .u8 ((fun _=>0:Nat->Int) j)) 5)
 obtain ⟨b,hbb⟩:∃b,b=w.heap.size:=⟨_,rfl⟩
 rw [<-hbb] at H hb
 generalize w.alloc (.cells (Array.ofFn fun j:Fin (8*rx.n)=>Value.int .u8 ((fun _=>0:Nat->Int) j)) 5)=wA at hb hF
 have hx1:=hx.fr hF (fun _ f=>f) (fun _ _ _ _ f=>f)
 refine Sq (Rl [_,_,_,_,_,_,_,_,_] (wl H (Ez.mv H rfl) rfl (kM rfl rfl (kN rfl rfl (kL (fun a H=>Ez.fa82_1 H rfl) rfl (kL (fun a H=>Ez.ld80 H rfl (hx1.c1)) rfl (kM rfl rfl ?_)))))));clear H a;intro a H
 refine wk H cf80 (natBytes rx.q rx.n rx.c b rx.X _ wA hx1.sl hb (fun j ht=>by have:=hx.sl.lt ht;omega) hn) rfl rfl ?_
 rintro _ w1 ⟨i,Y',rfl,h1,h2,h3,h4,h5⟩
 refine ⟨_,rfl,?_⟩;clear H a;intro a H
 refine wl H (Ez.slL65 H rfl rfl i rfl (by omega) (by omega) (if i < 8*rx.n then 0+i else 0) (8*rx.n - i) (8*rx.n - i) rfl rfl rfl) rfl (kA rfl rfl (kP [(2,_)] rfl (kW ?_)));clear H a;intro a H
 refine Wr ?_
 refine rt1 H rfl rfl ?_
 refine ⟨b,if i < 8*rx.n then 0+i else 0,8*rx.n - i,8*rx.n - i,fun j=>Y' (i+j),rfl,by omega,by omega,Nat.le_refl _,?_,h3,hF.plus h4 (by omega),fun h0=>h5 (by omega)⟩
 intro j hj
 rw [if_pos (by omega),Nat.zero_add]
 exact ⟨h2.cell (by omega),h2.u _ (by omega)⟩
end
section
set_option maxRecDepth 8000
namespace Ez
section
variable {a:Act} {N:Nat} {ds:List Deferred} {l:Env} {w:World} {d:Option Nat} {ty:TypeId} {pos:String} {after:Array Edge} {g:Option (Nat × Bool)}
theorem idx9 (H:Hd a N ds l) {x y:Operand} {s:ByteArray} {k:IntKind} {i:Int} {r:Int} (h:ov l x=some (.string s)) (h':ov l y=some (.int k i)) (j:Nat) (hj:i=(j:Int)) (hn:j < s.size) (hr:((getElem s j hn).toNat:Int)=r):(execOp a.eval ⟨d,.index 9 x y,ty,pos,after,g⟩).run Tryz.prog w=.ok (.value (.int .u8 r)) w:=by
 have e:=H.o h
 have e':=H.o h'
 subst hj;subst hr
 have h1:(0:Int)<=(j:Int)/\(j:Int) < (s.size:Int):=by omega
 simp only [execOp,e,e']
 go_simp
theorem len9 (H:Hd a N ds l) {x:Operand} {s:ByteArray} (h:ov l x=some (.string s)):(execOp a.eval ⟨d,.call { callee:=.builtin .len,args:=#[x],argTypes:=#[9]},ty,pos,after,g⟩).run Tryz.prog w=.ok (.value (.int .i64 s.size)) w:=by
 have e:=H.o h
 revert e;generalize a.eval=ρ;intro e
 simp only [execOp];go_simp
theorem bld152 (H:Hd a N ds l) {x y z:Operand} {s:ByteArray} {i j:Int} (h:ov l x=some (.string s)) (h':ov l y=some (.int .i64 i)) (h'':ov l z=some (.int .i64 j)):(execOp a.eval ⟨d,.build 152 #[(0,x),(1,y),(2,z)],ty,pos,after,g⟩).run Tryz.prog w=.ok (.value (.agg #[.string s,.int .i64 i,.int .i64 j])) w:=by
 have e:=H.o h
 have e':=H.o h'
 have e'':=H.o h''
 revert e e' e'';generalize a.eval=ρ;intro e e' e''
 simp only [execOp];go_simp
theorem box152 (H:Hd a N ds l) {x:Operand} {u v t:Value} (h:ov l x=some (.agg #[u,v,t])) (hu:u.cells=#[u]) (hv:v.cells=#[v]) (ht:t.cells=#[t]):(execOp a.eval ⟨d,.box 152 x,ty,pos,after,g⟩).run Tryz.prog w=.ok (.value (.pointer (some ⟨w.heap.size,0,none⟩))) (w.alloc (.cells #[u,v,t] 152)):=by
 have e:=H.o h
 simp only [execOp,e];go_simp
theorem mki131 (H:Hd a N ds l) {x:Operand} {v:Value} (h:ov l x=some v):(execOp a.eval ⟨d,.makeInterface 131 x,ty,pos,after,g⟩).run Tryz.prog w=.ok (.value (.iface 131 v)) w:=by
 have e:=H.o h
 simp only [execOp,e];go_simp
theorem eqNI (H:Hd a N ds l) {x:Operand} {u:TypeId} (h:ov l x=some .nilIface):(execOp a.eval ⟨d,.binOp .eql 146 x (.const .nilIface) u,ty,pos,after,g⟩).run Tryz.prog w=.ok (.value (.bool true)) w:=by
 have e:=H.o h
 have e':a.eval (.const .nilIface)=.nilIface:=rfl
 simp only [execOp,e,e',eqGuard];go_simp
theorem neNI (H:Hd a N ds l) {x:Operand} {u:TypeId} (h:ov l x=some .nilIface):(execOp a.eval ⟨d,.binOp .neq 146 x (.const .nilIface) u,ty,pos,after,g⟩).run Tryz.prog w=.ok (.value (.bool false)) w:=by
 have e:=H.o h
 have e':a.eval (.const .nilIface)=.nilIface:=rfl
 simp only [execOp,e,e',eqGuard];go_simp
theorem eqSI (H:Hd a N ds l) {x y:Operand} {u t:TypeId} {v:Value} (h:ov l x=some (.iface t v)) (h':ov l y=some .nilIface):(execOp a.eval ⟨d,.binOp .eql 146 x y u,ty,pos,after,g⟩).run Tryz.prog w=.ok (.value (.bool false)) w:=by
 have e:=H.o h
 have e':=H.o h'
 simp only [execOp,e,e'];go_simp
theorem inv131R (H:Hd a N ds l) {x:Operand} {v:Value} (h:ov l x=some (.iface 131 v)) (ts:Array TypeId):(execOp a.eval ⟨d,.call { callee:=.invoke x "ReadByte",args:=#[],argTypes:=ts},ty,pos,after,g⟩).run Tryz.prog w=.ok (.enter 200 #[v]) w:=by
 have e:=H.o h
 revert e;generalize a.eval=ρ;intro e
 simp only [execOp];go_simp;go_invoke;go_simp
theorem inv131U (H:Hd a N ds l) {x:Operand} {v:Value} (h:ov l x=some (.iface 131 v)) (ts:Array TypeId):(execOp a.eval ⟨d,.call { callee:=.invoke x "UnreadByte",args:=#[],argTypes:=ts},ty,pos,after,g⟩).run Tryz.prog w=.ok (.enter 201 #[v]) w:=by
 have e:=H.o h
 revert e;generalize a.eval=ρ;intro e
 simp only [execOp];go_simp;go_invoke;go_simp
end
end Ez
end
section
set_option maxRecDepth 8000
def Rd (w:World) (b:Nat) (s:ByteArray) (i:Nat):Prop:=∃k:Int,w.heap[b]?=some (.cells #[.string s,.int .i64 i,.int .i64 k] 152 (0,0))
section
variable {w w':World} {b i:Nat} {s:ByteArray}
theorem Rd.c0 (h:Rd w b s i):w.cell? ⟨b,0,none⟩=some (.string s):=by obtain ⟨k,h⟩:=h;simp [World.cell?,h]
theorem Rd.c1 (h:Rd w b s i):w.cell? ⟨b,1,none⟩=some (.int .i64 i):=by obtain ⟨k,h⟩:=h;simp [World.cell?,h]
theorem Rd.c2 (h:Rd w b s i):∃k:Int,w.cell? ⟨b,2,none⟩=some (.int .i64 k):=by obtain ⟨k,h⟩:=h;exact ⟨k,by simp [World.cell?,h]⟩
theorem Rd.fz (h:Rd w b s i) (j:Nat):w.frozen? ⟨b,j,none⟩=false:=by obtain ⟨k,h⟩:=h;simp [World.frozen?,h]
theorem Rd.set2 (h:Rd w b s i) (k:Int):Rd (w.setCell ⟨b,2,none⟩ (.int .i64 k)) b s i:=by obtain ⟨k',h⟩:=h;exact ⟨k,by rw [Js h];rfl⟩
theorem Rd.set1 (h:Rd w b s i) {j:Int} (n:Nat) (hj:j=(n:Int)):Rd (w.setCell ⟨b,1,none⟩ (.int .i64 j)) b s n:=by obtain ⟨k',h⟩:=h;subst hj;exact ⟨k',by rw [Js h];rfl⟩
theorem Rd.cd (h:Rd w b s i) (hC:Cd w w'):Rd w' b s i:=by obtain ⟨k,h⟩:=h;exact ⟨k,by rw [hC.heap];exact h⟩
theorem Rd.fr {T:Nat->Nat->Prop} (h:Rd w b s i) (hF:Fr T w w') (hT:∀o,¬T b o):Rd w' b s i:=by
 obtain ⟨k,h⟩:=h
 refine ⟨k,(hF.block b ?_ hT).trans h⟩
 exact Bl0 w ⟨b,0,none⟩ (u:=.string s) (by simp [World.cell?,h])
end
theorem newReader (s:ByteArray) (w:World):
 Calls Tryz.prog 114 #[.string s] w fun e w'=>∃b,e=.returned (pz b)/\w.heap.size<=b/\Rd w' b s 0/\Fr NoT w w':=by
 refine Qd (vs:= [.string s]) Tryz.func114 rfl rfl ?_
 intro a H
 replace H:Hd a 6 [] [(0,.string s)]:=H
 refine Sq (Rl [_] (wl H (Ez.asn H rfl) rfl (kW (kS (kR [_,_,_,_] (kM rfl rfl (kL (fun a H=>Ez.bld152 H rfl rfl rfl) rfl (kL (fun a H=>Ez.box152 H rfl rfl rfl rfl) rfl (kA rfl rfl (kP [(2,_)] rfl (kW ?_)))))))))));clear H a;intro a H
 refine Wr ?_
 refine rt1 H rfl rfl ?_
 exact ⟨_,rfl,Nat.le_refl _,⟨-1,heap_alloc_new w _⟩,(Fr.refl NoT w).alloc _⟩
theorem readByte (b i:Nat) (s:ByteArray) (w:World) (hR:Rd w b s i) (hi:i < s.size) (hs:s.size < 1000000):
 Calls Tryz.prog 200 #[pz b] w fun e w'=>e=.returned (.tuple #[.int .u8 ((getElem s i hi).toNat:Int),.nilIface])/\Rd w' b s (i+1)/\Fr (Bl b) w w':=by
 refine Qd (vs:= [pz b]) Tryz.func200 rfl rfl ?_
 intro a H
 replace H:Hd a 36 [] [(0,pz b)]:=H
 refine Sq (Rl [_,_] (wl H (Ez.asn H rfl) rfl (kA rfl rfl (kW (kS ?_)))));clear H a;intro a H
 obtain ⟨k,hc2⟩:=hR.c2
 refine Rl [_,_,_,_] (wl H (Ez.mv H rfl) rfl (kN rfl rfl (kL (fun a H=>Ez.fa152_2 H rfl) rfl ?_)));clear H a;intro a H
 refine wls H (Ez.st3 H rfl rfl rfl hc2 (hR.fz _)) ?_;clear H;intro H
 refine kP [(0,_),(2,_),(3,_)] rfl (kW ?_) a H;clear H a;intro a H
 have hR1:=hR.set2 (-1)
 have hF1:Fr (Bl b) w (w.setCell ⟨b,0+2,none⟩ (.int .i64 (-1))):=Fr.bl _
 generalize hw2:w.setCell ⟨b,0+2,none⟩ (.int .i64 (-1))=w2 at hF1
 rw [show w.setCell ⟨b,2,none⟩ (.int .i64 (-1))=w2 from hw2] at hR1
 refine Sq (Sq (Qr (ls:= [_,_,_,_,_,_,_,_,_,_]) Qb (by kernel_rfl) (wq H (fun w2 hw2=>Ez.mv H rfl) rfl (jN rfl rfl (jL (fun a H w2 hw2=>Ez.fa152_1 H rfl) rfl (jL (fun a H w2 hw2=>Ez.ld2 H rfl (hw2.cell hR1.c1)) rfl (jM rfl rfl (jN rfl rfl (jL (fun a H w2 hw2=>Ez.fa152_0 H rfl) rfl (jL (fun a H w2 hw2=>Ez.ld9 H rfl (hw2.cell hR1.c0)) rfl (jL (fun a H w2 hw2=>Ez.len9 H rfl) rfl (jL (fun a H w2 hw2=>Ez.geq (r:=false) H rfl rfl (by (simp;omega))) rfl ?_))))))))))));clear H a;intro a H
 refine wqe ?_
 intro w1 hw
 have hR1:=hR1.cd hw
 have hF1:=hF1.trans (hw.fr _)
 clear hw
 replace H:Hd a 36 [] [(0,_),(2,_),(3,_),(17,_)]:=H.pick [0,2,3,17]
 refine Cf (H.o rfl) (Wk0 (thn (Sq (Qr (ls:= [_,_,_,_,_,_,_,_,_,_]) Qb (by kernel_rfl) (wq H (fun w2 hw2=>Ez.mv H rfl) rfl (jN rfl rfl (jL (fun a H w2 hw2=>Ez.fa152_0 H rfl) rfl (jL (fun a H w2 hw2=>Ez.ld9 H rfl (hw2.cell hR1.c0)) rfl (jM rfl rfl (jN rfl rfl (jL (fun a H w2 hw2=>Ez.fa152_1 H rfl) rfl (jL (fun a H w2 hw2=>Ez.ld2 H rfl (hw2.cell hR1.c1)) rfl (jL (fun a H w2 hw2=>Ez.idx9 H rfl rfl i rfl hi rfl) rfl (jA rfl rfl ?_))))))))))))));clear H a;intro a H
 refine wqe ?_
 intro w1 hw
 have hR1:=hR1.cd hw
 have hF1:=hF1.trans (hw.fr _)
 clear hw
 obtain ⟨wX,rfl⟩:∃wX,wX=w1:=⟨w1,rfl⟩
 refine kP [(0,_),(2,_),(3,_),(4,_)] rfl (kS (kR [_,_,_,_,_,_,_,_] (kM rfl rfl (kN rfl rfl (kL (fun a H=>Ez.fa152_1 H rfl) rfl (kL (fun a H=>Ez.ld2 H rfl (hR1.c1)) rfl (kL (fun a H=>Ez.addI (r:=((i+1:Nat):Int)) H rfl rfl (by omega) (by omega)) rfl (kN rfl rfl (kL (fun a H=>Ez.fa152_1 H rfl) rfl ?_))))))))) a H;clear H a;intro a H
 refine wls H (Ez.st2 H rfl rfl rfl hR1.c1 (hR1.fz _)) ?_;clear H;intro H
 refine kP [(2,_),(3,_),(4,_)] rfl (kW (kS (kR [_,_,_] (kM rfl rfl (kA rfl rfl (kA rfl rfl (kP [(2,_),(3,_)] rfl (kW ?_)))))))) a H;clear H a;intro a H
 refine Wr ?_
 refine rt2 H rfl rfl rfl ?_
 exact ⟨rfl,hR1.set1 (i+1) rfl,hF1.trans (Fr.bl _)⟩
theorem readEOF (b i:Nat) (s:ByteArray) (v:Value) (w:World) (hR:Rd w b s i) (hi:s.size<=i) (hi2:i < 1000000) (he:w.cell? ⟨0,0,none⟩=some v) (hb:b≠0):
 Calls Tryz.prog 200 #[pz b] w fun e w'=>e=.returned (.tuple #[.int .u8 0,v])/\Rd w' b s i/\Fr (Bl b) w w':=by
 refine Qd (vs:= [pz b]) Tryz.func200 rfl rfl ?_
 intro a H
 replace H:Hd a 36 [] [(0,pz b)]:=H
 refine Sq (Rl [_,_] (wl H (Ez.asn H rfl) rfl (kA rfl rfl (kW (kS ?_)))));clear H a;intro a H
 obtain ⟨k,hc2⟩:=hR.c2
 refine Rl [_,_,_,_] (wl H (Ez.mv H rfl) rfl (kN rfl rfl (kL (fun a H=>Ez.fa152_2 H rfl) rfl ?_)));clear H a;intro a H
 refine wls H (Ez.st3 H rfl rfl rfl hc2 (hR.fz _)) ?_;clear H;intro H
 refine kP [(0,_),(2,_),(3,_)] rfl (kW ?_) a H;clear H a;intro a H
 have hR1:=hR.set2 (-1)
 have hF1:Fr (Bl b) w (w.setCell ⟨b,0+2,none⟩ (.int .i64 (-1))):=Fr.bl _
 generalize hw2:w.setCell ⟨b,0+2,none⟩ (.int .i64 (-1))=w2 at hF1
 rw [show w.setCell ⟨b,2,none⟩ (.int .i64 (-1))=w2 from hw2] at hR1
 refine Sq (Sq ?_)
 have he2:=hF1.someCell he (fun e=>hb (Eq.symm e))
 refine Qr (ls:= [_,_,_,_,_,_,_,_,_,_]) Qb (by kernel_rfl) (wq H (fun w2 hw2=>Ez.mv H rfl) rfl (jN rfl rfl (jL (fun a H w2 hw2=>Ez.fa152_1 H rfl) rfl (jL (fun a H w2 hw2=>Ez.ld2 H rfl (hw2.cell hR1.c1)) rfl (jM rfl rfl (jN rfl rfl (jL (fun a H w2 hw2=>Ez.fa152_0 H rfl) rfl (jL (fun a H w2 hw2=>Ez.ld9 H rfl (hw2.cell hR1.c0)) rfl (jL (fun a H w2 hw2=>Ez.len9 H rfl) rfl (jL (fun a H w2 hw2=>Ez.geq (r:=true) H rfl rfl (by (simp;omega))) rfl ?_))))))))));clear H a;intro a H
 refine wqe ?_
 intro w1 hw
 have hR1:=hR1.cd hw
 have hF1:=hF1.trans (hw.fr _)
 have he2:=hw.cell he2
 clear hw
 replace H:Hd a 36 [] [(0,_),(2,_),(3,_),(17,_)]:=H.pick [0,2,3,17]
 refine Ct (H.o rfl) (Sq (Qr (ls:= [_,_,_]) Qb (by kernel_rfl) (wq H (fun w2 hw2=>Ez.ld146 H rfl (hw2.cell he2)) rfl (jA rfl rfl (jA rfl rfl ?_)))));clear H a;intro a H
 refine wqe ?_
 intro w1 hw
 have hR1:=hR1.cd hw
 have hF1:=hF1.trans (hw.fr _)
 replace H:Hd a 36 [] [(0,_),(2,_),(3,_)]:=H.pick [0,2,3]
 refine Wr (thr ?_)
 refine rt2 H rfl rfl rfl ?_
 exact ⟨rfl,hR1,hF1⟩
theorem unreadByte (b i:Nat) (s:ByteArray) (w:World) (hR:Rd w b s (i+1)) (hi:i < 1000000):
 Calls Tryz.prog 201 #[pz b] w fun e w'=>e=.returned .nilIface/\Rd w' b s i/\Fr (Bl b) w w':=by
 refine Qd (vs:= [pz b]) Tryz.func201 rfl rfl ?_
 intro a H
 replace H:Hd a 19 [] [(0,pz b)]:=H
 refine Sq (Rl [_] (wl H (Ez.asn H rfl) rfl (kW (kS (kS (kR [_,_,_,_,_] (kM rfl rfl (kN rfl rfl (kL (fun a H=>Ez.fa152_1 H rfl) rfl (kL (fun a H=>Ez.ld2 H rfl (hR.c1)) rfl (kL (fun a H=>Ez.leq (r:=false) H rfl rfl (by (simp <;> omega))) rfl (kP [(0,_),(2,_),(7,_)] rfl (kW ?_)))))))))))));clear H a;intro a H
 refine Cf (H.o rfl) (Wk0 (thn (Sq ?_)))
 obtain ⟨k,hc2⟩:=hR.c2
 refine Rl [_,_,_,_] (wl H (Ez.mv H rfl) rfl (kN rfl rfl (kL (fun a H=>Ez.fa152_2 H rfl) rfl ?_)));clear H a;intro a H
 refine wls H (Ez.st3 H rfl rfl rfl hc2 (hR.fz _)) ?_;clear H;intro H
 refine kP [(0,_),(2,_)] rfl (kW ?_) a H;clear H a;intro a H
 have hR1:=hR.set2 (-1)
 have hF1:Fr (Bl b) w (w.setCell ⟨b,0+2,none⟩ (.int .i64 (-1))):=Fr.bl _
 generalize hw2:w.setCell ⟨b,0+2,none⟩ (.int .i64 (-1))=w2 at hF1
 rw [show w.setCell ⟨b,2,none⟩ (.int .i64 (-1))=w2 from hw2] at hR1
 refine Sq (Rl [_,_,_,_,_,_,_,_] (wl H (Ez.mv H rfl) rfl (kN rfl rfl (kL (fun a H=>Ez.fa152_1 H rfl) rfl (kL (fun a H=>Ez.ld2 H rfl (hR1.c1)) rfl (kL (fun a H=>Ez.subI (r:=(i:Int)) H rfl rfl (by omega) (by omega)) rfl (kN rfl rfl (kL (fun a H=>Ez.fa152_1 H rfl) rfl ?_))))))));clear H a;intro a H
 refine wls H (Ez.st2 H rfl rfl rfl hR1.c1 (hR1.fz _)) ?_;clear H;intro H
 refine kP [(2,_)] rfl (kW (kS (kR [_] (kA rfl rfl (kW ?_))))) a H;clear H a;intro a H
 refine Wr ?_
 refine rt1 H rfl rfl ?_
 exact ⟨rfl,hR1.set1 i rfl,hF1.trans (Fr.bl _)⟩
theorem scanSign (b:Nat) (s:ByteArray) (w:World) (hR:Rd w b s 0) (h0:0 < s.size) (hs:s.size < 1000000) (hch:(getElem s 0 h0).toNat≠45/\(getElem s 0 h0).toNat≠43):
 Calls Tryz.prog 143 #[.iface 131 (pz b)] w fun e w'=>e=.returned (.tuple #[.bool false,.nilIface])/\Rd w' b s 0/\Fr (Bl b) w w':=by
 refine Qd (vs:= [.iface 131 (pz b)]) Tryz.func143 rfl rfl ?_
 intro a H
 replace H:Hd a 20 [] [(0,.iface 131 (pz b))]:=H
 refine Sq (Rl [_,_] (wl H (Ez.asn H rfl) rfl (kA rfl rfl (kW (kS (kR [_] (kA rfl rfl (kW (kS (kS (kR [_,_,_,_,_,_,_] (kM rfl rfl ?_))))))))))));clear H a;intro a H
 refine wlc H (Ez.inv131R H rfl _) (readByte b 0 s w hR h0 hs) rfl ?_
 rintro _ w1 ⟨rfl,k1,k2⟩
 refine ⟨_,rfl,?_⟩;clear H a;intro a H
 obtain ⟨wX,rfl⟩:∃wX,wX=w1:=⟨w1,rfl⟩
 refine wl H (Ez.mv H rfl) rfl (kL (fun a H=>Ez.ext0 H rfl) rfl (kL (fun a H=>Ez.ext1 H rfl) rfl (kA rfl rfl (kA rfl rfl (kP [(0,_),(2,_),(3,_),(4,_)] rfl (kW (kS (kR [_,_] (kM rfl rfl (kL (fun a H=>Ez.neNI H rfl) rfl (kP [(0,_),(2,_),(3,_),(4,_),(11,_)] rfl (kW ?_))))))))))));clear H a;intro a H
 refine Cf (H.o rfl) (Wk0 (thn (Sq (Sq (Rl [_] (wl H (Ez.mv H rfl) rfl (kP [(0,_),(2,_),(3,_),(13,_)] rfl (kW ?_))))))));clear H a;intro a H
 refine Wb (Sq (Rl [_,_] (wl H (Ez.eql (r:=false) H rfl rfl (by (simp;omega))) rfl (kA rfl rfl (kP [(0,_),(2,_),(3,_),(13,_),(16,_)] rfl (kW ?_))))));clear H a;intro a H
 refine Cf (H.o rfl) (Sq (Rl [_,_] (wl H (Ez.eql (r:=false) H rfl rfl (by (simp;omega))) rfl (kA rfl rfl (kP [(0,_),(2,_),(3,_),(18,_)] rfl (kW ?_))))));clear H a;intro a H
 refine Cf (H.o rfl) (Rl [_,_] (wl H (Ez.mv H rfl) rfl ?_));clear H a;intro a H
 refine wlc H (Ez.inv131U H rfl _) (unreadByte b 0 s wX k1 (by omega)) rfl ?_
 rintro _ w1 ⟨rfl,k3,k4⟩
 refine ⟨_,rfl,?_⟩;clear H a;intro a H
 replace H:Hd a 20 [] [(2,_),(3,_)]:=H.pick [2,3]
 refine Wn ?_
 refine bn (thn (Wr ?_))
 refine rt2 H rfl rfl rfl ?_
 exact ⟨rfl,k3,k2.trans k4⟩
end
section
set_option maxRecDepth 8000
theorem add_lit0 (b o j:Nat):(⟨b,o,none⟩:Addr).add j=⟨b,o+j,none⟩:=by unfold Addr.add;split <;> simp_all
theorem Wk.app (w:World) (n g:Nat) (X:Nat->Int) (v:Int) (hg:n+1<=g) (hm:g<=9223372036854775807) (hX:∀j,j < n->U64 (X j)) (hv:U64 v):
 Wk (w.drew.alloc (.cells (((List.range n).map fun j=>Value.int .u64 (X j)).toArray++ [Value.int .u64 v].toArray++Builtin.zeroCells (Value.int .u64 0).cells (g - (n+1))) 103)) w.heap.size g (fun j=>if j < n then X j else if j=n then v else 0):=by
 have e:(((List.range n).map fun j=>Value.int .u64 (X j)).toArray++ [Value.int .u64 v].toArray++Builtin.zeroCells (Value.int .u64 0).cells (g - (n+1)))=Array.ofFn fun j:Fin g=>Value.int .u64 ((fun j=>if j < n then X j else if j=n then v else 0:Nat->Int) j):=by
  apply Array.ext
  ·simp [size_zeroCells,Value.cells];omega
  intro i h1 h2
  simp only [Array.size_ofFn] at h2
  simp only [Array.getElem_append,Array.getElem_ofFn]
  by_cases c1:i < n
  ·rw [dif_pos (by simp;omega),dif_pos (by simpa using c1)]
   simp [c1]
  by_cases c2:i=n
  ·subst c2
   rw [dif_pos (by simp),dif_neg (by simp)]
   simp
  rw [dif_neg (by simp;omega)]
  simp only [c1,c2,if_false]
  simp only [Builtin.zeroCells,Array.getElem_map,Array.getElem_range,Value.cells]
  show #[Value.int .u64 0][_ % 1]! =_
  rw [Nat.mod_one];rfl
 rw [e]
 refine ⟨heap_alloc_new w.drew _,fun j hj=>?_,hm⟩
 show U64 (if j < n then X j else if j=n then v else 0)
 split
 ·exact hX j (by assumption)
 split
 ·exact hv
 exact ⟨by decide,by decide⟩
theorem run_apW {w:World} {q:Option Addr} {n c ba:Nat} {X:Nat->Int} {v:Int} {ty:TypeId} (hs:Sl w q n c X) (hn:n < 100000) (hW:Wk w ba 1 (fun _=>v)):
 ∃w' q' c' X',(Builtin.append_ #[80,80] ty #[.slice q n c,.slice (some ⟨ba,0,none⟩) 1 1]).run Tryz.prog w=.ok (.slice q' (n+1) c') w'/\Sl w' q' (n+1) c' X'/\(∀j,j < n->X' j=X j)/\X' n=v/\Own w q q'/\Fr (TQ q) w w':=by
 have hu:Tryz.prog.underlying 80=some (.slice 103):=by kernel_rfl
 obtain ⟨ti,h1,h2,h3,h4⟩:=word_info
 have hv:U64 v:=hW.u 0 (by decide)
 have hnews:∀j u, [Value.int .u64 v][j]?=some u->w.cell? ((⟨ba,0,none⟩:Addr).add j)=some u:=by
  intro j u hj
  cases j with
  | zero=>rw [add_lit0];simp at hj;rw [<-hj];exact hW.cell (by decide)
  | succ j=>simp at hj
 rcases hs with ⟨rfl,rfl,rfl⟩ | ⟨b,rfl,hnc,hc,hB⟩
 ·have r:=run_append_nil (P:=Tryz.prog) w 80 ty 103 ti (.int .u64 0) hu h1 h2 ⟨ba,0,none⟩ 1 1 [.int .u64 v] (by simp [h4]) hnews (by decide) (by decide) (by rw [h3];decide)
  have hcapge:0+1<=grownCap w 1 0 103:=grownCap_ge w _ 0 103
  have hcaple:grownCap w 1 0 103<=maxLen:=grownCap_le_maxLen w _ 0 103 (by unfold maxLen;omega)
  have hk:=Wk.app w 0 (grownCap w 1 0 103) X v hcapge (by unfold maxLen at hcaple;omega) (fun j hj=>by omega) hv
  simp only [List.range_zero,List.map_nil,List.append_toArray,List.nil_append,Nat.zero_add] at hk
  exact ⟨_,_,_,_,r,Sl.of hk (by omega) (by omega),fun j hj=>by omega,by simp,Own.new _ _ (Nat.le_refl _),((Fr.refl _ w).drew).alloc _⟩
 have holds:∀j u,((List.range n).map fun j=>Value.int .u64 (X j))[j]?=some u->w.cell? ((⟨b,0,none⟩:Addr).add j)=some u:=by
  intro j u hj
  have hjn:j < n:=by
   rcases Nat.lt_or_ge j n with h | h
   ·exact h
   rw [List.getElem?_eq_none (by simpa using h)] at hj;cases hj
  rw [add_lit0,Nat.zero_add,hB.cell (by omega)]
  simpa [hjn] using hj
 by_cases hroom:n+1<=c
 ·have r:=run_append_room_cells (P:=Tryz.prog) w 80 ty 103 ti hu h1 b 0 n c ⟨ba,0,none⟩ 1 1 [.int .u64 v] (by simp [h4]) hnews (by simp [Value.oneCell']) hroom
   (fun j hj=>by simp at hj;subst hj;rw [h4];simp only [Nat.mul_one,Nat.add_zero,Nat.zero_add];rw [hB.cell (by omega)];rfl) (fun j hj=>by simp at hj;subst hj;exact hB.fz _)
  rw [h4,Nat.mul_one,Nat.zero_add] at r
  exact ⟨_,_,_,_,r,Sl.of (hB.set (j:=n) (by omega) hv) hroom hc,fun j hj=>Qx (by omega),Qz _ _ _,Own.refl _ _,(Fr.bl (b:=b) (j:=n) (.int .u64 v)).blq⟩
 have r:=run_append_grow (P:=Tryz.prog) w 80 ty 103 ti (.int .u64 0) hu h1 h2 ⟨b,0,none⟩ n c ((List.range n).map fun j=>Value.int .u64 (X j)) (by simp [h4]) holds ⟨ba,0,none⟩ 1 1 [.int .u64 v] (by simp [h4]) hnews (by omega) (by omega)
  (growslice_fits (by omega) (by rw [h3];omega))
 have hcapge:n+1<=grownCap w (n+1) c 103:=grownCap_ge w _ c 103
 have hcaple:grownCap w (n+1) c 103<=maxLen:=grownCap_le_maxLen w _ c 103 (by unfold maxLen;omega)
 have hk:=Wk.app w n (grownCap w (n+1) c 103) X v hcapge (by unfold maxLen at hcaple;omega) (fun j hj=>hB.u j (by omega)) hv
 exact ⟨_,_,_,_,r,Sl.of hk hcapge (by omega),fun j hj=>by simp [hj],by simp,Own.new _ _ (Nat.le_refl _),((Fr.refl _ w).drew).alloc _⟩
theorem Ez.apW {a:Act} {N:Nat} {ds:List Deferred} {l:Env} {w:World} {d:Option Nat} {ty:TypeId} {pos:String} {after:Array Edge} {g:Option (Nat × Bool)} (H:Hd a N ds l) {x y:Operand} {q:Option Addr} {n c ba:Nat} {X:Nat->Int} {v:Int}
 (h:ov l x=some (.slice q n c)) (h':ov l y=some (.slice (some ⟨ba,0,none⟩) 1 1)) (hs:Sl w q n c X) (hn:n < 100000) (hW:Wk w ba 1 (fun _=>v)):
 ∃w' q' c' X',(execOp a.eval ⟨d,.call { callee:=.builtin .append,args:=#[x,y],argTypes:=#[80,80]},ty,pos,after,g⟩).run Tryz.prog w=.ok (.value (.slice q' (n+1) c')) w'/\Sl w' q' (n+1) c' X'/\(∀j,j < n->X' j=X j)/\X' n=v/\Own w q q'/\Fr (TQ q) w w':=by
 obtain ⟨w',q',c',X',r,k1,k2,k3,k4,k5⟩:=run_apW (ty:=ty) hs hn hW
 refine ⟨w',q',c',X',?_,k1,k2,k3,k4,k5⟩
 have e:=H.o h
 have e':=H.o h'
 revert e e';generalize a.eval=ρ;intro e e'
 have hm:(#[x,y]:Array Operand).map ρ=#[.slice q n c,.slice (some ⟨ba,0,none⟩) 1 1]:=by simp [e,e']
 simp only [execOp,resolve,invoke,hm,Sem.run_bind,Sem.run_pure,Result.andThen,builtin,r]
end
section
set_option maxRecDepth 8000
theorem reverse (b n c:Nat) (X:Nat->Int) (w:World) (hW:Wk w b c X) (hn:n<=c) (hn1:1<=n) (hn2:n < 1000):
 Calls Tryz.prog 166 #[.slice (some ⟨b,0,none⟩) n c] w fun e w'=>∃X',e=.returned (.tuple #[])/\Wk w' b c X'/\(∀j,j < n->X' j=X (n - 1 - j))/\Fr (Bl b) w w':=by
 obtain ⟨w0,hw0⟩:∃w0,w0=w:=⟨w,rfl⟩
 rw [<-hw0]
 rw [<-hw0] at hW
 clear hw0 w
 have hW0:=hW
 refine Qd (vs:= [.slice (some ⟨b,0,none⟩) n c]) Tryz.func166 rfl rfl ?_
 intro a H
 replace H:Hd a 28 [] [(0,.slice (some ⟨b,0,none⟩) n c)]:=H
 refine Sq (Rl [_,_,_,_,_] (wl H (Ez.mv H rfl) rfl (kL (fun a H=>Ez.len80 H rfl) rfl (kL (fun a H=>Ez.subI (r:=((n - 1:Nat):Int)) H rfl rfl (by omega) (by omega)) rfl (kA rfl rfl (kA rfl rfl (kP [(0,_),(2,_),(3,_)] rfl (kW ?_))))))));clear H a;intro a H
 refine Wb ?_
 refine Qo (fun mm a w=>∃(i:Nat) (X1:Nat->Int),mm=n - i/\2*i<=n+1/\Hd a 28 [] [(0,.slice (some ⟨b,0,none⟩) n c),(2,.int .i64 i),(3,.int .i64 ((n:Int) - 1 - i))]/\Wk w b c X1/\(∀j,j < n->(j < i\/n<=j+i)->X1 j=X (n - 1 - j))/\(∀j,i<=j->j+i < n->X1 j=X j)/\Fr (Bl b) w0 w) (n) ?_ ?_
 ·replace H:Hd a 28 [] [(0,_),(2,_),(3,_)]:=H.pick [0,2,3]
  refine ⟨0,X,rfl,by omega,?_,hW,fun j h1 h2=>by omega,fun j _ _=>rfl,Fr.refl _ _⟩
  rw [show ((n - 1:Nat):Int)=(n:Int) - 1 - (0:Nat) by omega] at H
  exact H
 clear H a
 intro mm a w hI
 clear hW
 obtain ⟨i,X1,hmm,hi,H,hW,h1,h2,hF⟩:=hI
 refine Sq (Sq (Rl [_,_,_] (wl H (Ez.mv H rfl) rfl (kM rfl rfl (kL (fun a H=>Ez.lss H rfl rfl (rfl)) rfl (kP [(0,_),(2,_),(3,_),(9,_)] rfl (kW ?_)))))));clear H a;intro a H
 refine Cs (H.o rfl) (fun hb=>?_) (fun hb=>?_)
 ·have hlt:2*i+1 < n:=by have:=Dt hb;omega
  refine Wk0 (thn (Sq (Wb ?_)))
  refine Ju [_,_,_,_,_,_,_,_,_,_,_,_,_,_,_,_] 13 [(.p,2),(.p,3),(.c,0),(.c,1),(.c,4),(.c,5),(.c,6),(.c,7),(.c,8),(.c,9),(.c,10),(.c,11),(.c,12),(.f,13),(.f,14),(.f,15)] Qb (fun _ _ _ _ _ h=>h) (by kernel_rfl) ?_
  intro w1 hw
  have hW:=hW.heq hw.heap
  have hF:=hF.trans (hw.fr _)
  clear hw
  obtain ⟨wX,hwX⟩:∃wX,wX=w1:=⟨w1,rfl⟩
  rw [<-hwX]
  rw [<-hwX] at hW hF
  clear hwX
  refine mxp rfl H (fun _=>Ez.mv H rfl) rfl ?_;clear H a;intro a H
  refine mxp rfl H (fun _=>Ez.mv H rfl) rfl ?_;clear H a;intro a H
  refine mxc rfl H (Ez.mv H rfl) rfl ?_;clear H a;intro a H
  refine mxc rfl H (Ez.mv H rfl) rfl ?_;clear H a;intro a H
  refine mxc rfl H (Ez.mv H rfl) rfl ?_;clear H a;intro a H
  refine mxc rfl H (Ez.mv H rfl) rfl ?_;clear H a;intro a H
  refine mxc rfl H (Ez.ix80 H rfl rfl (n - 1 - i) (by omega) (by omega)) rfl ?_;clear H a;intro a H
  refine mxc rfl H (Ez.ld103 H rfl ((by rw [Nat.zero_add];exact hW.cell (by omega)))) rfl ?_;clear H a;intro a H
  refine mxc rfl H (Ez.mv H rfl) rfl ?_;clear H a;intro a H
  refine mxc rfl H (Ez.mv H rfl) rfl ?_;clear H a;intro a H
  refine mxc rfl H (Ez.ix80 H rfl rfl i rfl (by omega)) rfl ?_;clear H a;intro a H
  refine mxc rfl H (Ez.ld103 H rfl ((by rw [Nat.zero_add];exact hW.cell (by omega)))) rfl ?_;clear H a;intro a H
  refine mxc rfl H (Ez.ix80 H rfl rfl i rfl (by omega)) rfl ?_;clear H a;intro a H
  refine mxs rfl H (Ez.st103 H rfl rfl rfl (hW.cell (by omega)) (hW.fz _)) ?_;clear H;intro H
  have hW:=hW.set (j:=0+i) (v:=X1 (n - 1 - i)) (by omega) (hW.u _ (by omega))
  have hF:=hF.trans (Fr.bl (b:=b) (j:=0+i) (.int .u64 (X1 (n - 1 - i))))
  refine mxf rfl H (Ez.ix80 H rfl rfl (n - 1 - i) (by omega) (by omega)) rfl ?_;clear H a;intro a H
  refine mxs rfl H (Ez.st103 H rfl rfl rfl (hW.cell (by omega)) (hW.fz _)) ?_;clear H;intro H
  replace H:Hd a 28 [] [(0,_),(2,_),(3,_)]:=H.pick [0,2,3]
  refine mxe' ?_
  have hx:=h2 i (by omega) (by omega)
  have hy:=h2 (n - 1 - i) (by omega) (by omega)
  have hux:U64 (X1 i):=by have:=hW.u i (by omega)
                          rw [hx]
                          have hh:=hW0.u i (by omega)
                          exact hh
  have hW:=hW.set (j:=0+(n - 1 - i)) (v:=X1 i) (by omega) hux
  have hF:=hF.trans (Fr.bl (b:=b) (j:=0+(n - 1 - i)) (.int .u64 (X1 i)))
  have h1':∀j,j < n->(j < i+1\/n<=j+(i+1))->up (up X1 (0+i) (X1 (n - 1 - i))) (0+(n - 1 - i)) (X1 i) j=X (n - 1 - j):=by
   intro j hj hjj
   rw [Nat.zero_add,Nat.zero_add]
   by_cases e1:j=n - 1 - i
   ·subst e1;rw [Qz,hx];congr 1;omega
   rw [Qx e1]
   by_cases e2:j=i
   ·subst e2;rw [Qz,hy]
   rw [Qx e2];exact h1 j hj (by omega)
  have h2':∀j,i+1<=j->j+(i+1) < n->up (up X1 (0+i) (X1 (n - 1 - i))) (0+(n - 1 - i)) (X1 i) j=X j:=by
   intro j ha hb
   rw [Nat.zero_add,Nat.zero_add,Qx (by omega),Qx (by omega)]
   exact h2 j (by omega) (by omega)
  refine bn (thn (Rl [_,_,_,_,_,_] (wl H (Ez.mv H rfl) rfl (kL (fun a H=>Ez.addI (r:=((i+1:Nat):Int)) H rfl rfl (by omega) (by omega)) rfl (kM rfl rfl (kL (fun a H=>Ez.subI H rfl rfl rfl (by omega)) rfl (kA rfl rfl (kA rfl rfl (kP [(0,_),(2,_),(3,_)] rfl (kW (kP [(0,_),(2,_),(3,_)] rfl ?_)))))))))));clear H a;intro a H
  refine ⟨n - (i+1),by omega,i+1,_,rfl,by omega,?_,hW,h1',h2',hF⟩
  rw [show (n:Int) - 1 - i - 1=(n:Int) - 1 - ((i+1:Nat):Int) by omega] at H
  exact H
 have hge:n<=2*i+1:=by have:=Df hb;omega
 refine We (thx (thx (bxe ?_)))
 refine rtn0 H rfl ?_
 refine ⟨X1,rfl,hW,fun j hj=>?_,hF⟩
 by_cases e:j < i\/n<=j+i
 ·exact h1 j hj e
 rw [h2 j (by omega) (by omega)];congr 1;omega
end
section
set_option maxRecDepth 8000
theorem rt4 {P:Program} {fn:Func} {R:Ending->World->Prop} {a:Act} {w:World} {N:Nat} {l:Env} {t1 t2 t3 t4:Tmp} {v1 v2 v3 v4:Value} (H:Hd a N [] l) (h:fn.results=#[.tmp t1,.tmp t2,.tmp t3,.tmp t4])
 (h1:lk l t1=some v1) (h2:lk l t2=some v2) (h3:lk l t3=some v3) (h4:lk l t4=some v4) (hR:R (.returned (.tuple #[v1,v2,v3,v4])) w):bodyPost P fn R .ret a w:=by
 refine ⟨H.df,_,?_,hR⟩
 rw [<-H.g _ _ h1,<-H.g _ _ h2,<-H.g _ _ h3,<-H.g _ _ h4]
 simp [Go.results,h,Act.eval]
def hxv (D:Nat->Int):Nat->Int
 | 0=>0
 | n+1=>hxv D n*16+D n
theorem hxv_add (D:Nat->Int) (m:Nat):∀n,hxv D (m+n)=hxv D m*16 ^ n+hxv (fun i=>D (m+i)) n
 | 0=>by simp [hxv]
 | n+1=>by
   rw [<-Nat.add_assoc]
   simp only [hxv]
   rw [hxv_add D m n,Int.pow_succ]
   grind
theorem hxv_bound {D:Nat->Int}:∀n,(∀j,j < n->0<=D j/\D j < 16)->0<=hxv D n/\hxv D n < 16 ^ n
 | 0,_=>by simp [hxv]
 | n+1,h=>by
   have h1:=hxv_bound n (fun j hj=>h j (by omega))
   have h2:=h n (by omega)
   simp only [hxv]
   rw [Int.pow_succ]
   omega
def Hx (ch:Int) (d:Int):Prop:=(48<=ch/\ch<=57/\d=ch - 48)\/(97<=ch/\ch<=102/\d=ch - 87)
def chr (s:ByteArray) (j:Nat):Int:=if h:j < s.size then ((getElem s j h).toNat:Int) else 0
theorem chr_eq {s:ByteArray} {j:Nat} (h:j < s.size):((getElem s j h).toNat:Int)=chr s j:=by simp [chr,h]
structure Eof (v:Value):Prop where
 i:∃t u,v=.iface t u
 e:∀(a:Act) (N:Nat) (ds:List Deferred) (l:Env) (w:World) (d:Option Nat) (ty:TypeId) (pos:String) (after:Array Edge) (g:Option (Nat × Bool)) (x y:Operand) (u:TypeId),Hd a N ds l->ov l x=some v->ov l y=some v->
  (execOp a.eval ⟨d,.binOp .eql 146 x y u,ty,pos,after,g⟩).run Tryz.prog w=.ok (.value (.bool true)) w
 ne:∀(a:Act) (N:Nat) (ds:List Deferred) (l:Env) (w:World) (d:Option Nat) (ty:TypeId) (pos:String) (after:Array Edge) (g:Option (Nat × Bool)) (x y:Operand) (u:TypeId),Hd a N ds l->ov l x=some v->ov l y=some v->
  (execOp a.eval ⟨d,.binOp .neq 146 x y u,ty,pos,after,g⟩).run Tryz.prog w=.ok (.value (.bool false)) w
theorem four (X:Nat->Int):nv X 4=X 0+X 1*BB+X 2*(BB*BB)+X 3*(BB*BB*BB):=by
 simp only [nv]
 rw [Int.pow_zero,show BB ^ 1=BB from rfl,show BB ^ 2=BB*BB from rfl,show BB ^ 3=BB*BB*BB from rfl];omega
set_option maxHeartbeats 2000000 in
theorem natScan (b:Nat) (s:ByteArray) (v:Value) (D:Nat->Int) (w:World) (hsz:s.size=64) (hD:∀j,j < 64->Hx (chr s j) (D j)/\0<=D j/\D j < 16) (hR:Rd w b s 0) (he:w.cell? ⟨0,0,none⟩=some v) (hb:b≠0) (hE:Eof v):
 Calls Tryz.prog 144 #[.slice none 0 0,.iface 131 (pz b),.int .i64 16,.bool false] w fun e w'=>∃q' k c' X',e=.returned (.tuple #[.slice q' k c',.int .i64 16,.int .i64 64,.nilIface])/\Sl w' q' k c' X'/\k<=4/\nv X' k=hxv D 64/\Nm X' k/\(∀x j,TQ q' x j->w.heap.size<=x)/\Rd w' b s 64/\Fr (Bl b) w w':=by
 obtain ⟨w0,hw0⟩:∃w0,w0=w:=⟨w,rfl⟩
 rw [<-hw0]
 rw [<-hw0] at hR he
 clear hw0 w
 have hbl:b < w0.heap.size:=Bl0 w0 _ hR.c0
 refine Qd (vs:= [.slice none 0 0,.iface 131 (pz b),.int .i64 16,.bool false]) Tryz.func144 rfl rfl ?_
 intro a H
 replace H:Hd a 274 [] [(0,.slice none 0 0),(1,.iface 131 (pz b)),(2,.int .i64 16),(3,.bool false)]:=H
 refine Sq (Rl [_,_,_,_] (wl H (Ez.asn H rfl) rfl (kA rfl rfl (kA rfl rfl (kA rfl rfl (kW (kS (kR [_,_,_,_,_,_,_,_,_,_,_,_,_,_,_,_,_,_,_,_,_,_,_,_,_,_,_,_,_,_,_,_,_,_] (kM rfl rfl (kL (fun a H=>Ez.eql (r:=false) H rfl rfl (by simp)) rfl (kM rfl rfl (kG (fun a H=>Ez.mv H rfl) rfl rfl rfl rfl rfl (kG (fun a H=>Ez.not H rfl rfl) rfl rfl rfl rfl rfl (kG (fun a H=>Ez.mv H rfl) rfl rfl rfl rfl rfl (kG (fun a H=>Ez.mv H rfl) rfl rfl rfl rfl rfl (kG (fun a H=>Ez.leq (r:=true) H rfl rfl (by simp)) rfl rfl rfl rfl rfl (kG (fun a H=>Ez.pkT H rfl rfl) rfl rfl rfl rfl rfl (kG (fun a H=>Ez.mv H rfl) rfl rfl rfl rfl rfl (kG (fun a H=>Ez.mv H rfl) rfl rfl rfl rfl rfl (kG (fun a H=>Ez.leq (r:=true) H rfl rfl (by simp)) rfl rfl rfl rfl rfl (kG (fun a H=>Ez.pkT H rfl rfl) rfl rfl rfl rfl rfl (kL (fun a H=>Ez.pkF H rfl rfl) rfl (kM rfl rfl (kX rfl rfl rfl rfl rfl (kX rfl rfl rfl rfl rfl ?_)))))))))))))))))))))))));clear H a;intro a H
 refine wlu H rfl rfl rfl rfl (by intro b hb;cases hb) rfl ?_;clear H a;intro a H
 refine wlu H rfl rfl rfl rfl (by intro b hb;cases hb) rfl ?_;clear H a;intro a H
 refine wlu H rfl rfl rfl rfl (by intro b hb;cases hb) rfl ?_;clear H a;intro a H
 refine wlu H rfl rfl rfl rfl (by intro b hb;cases hb) rfl ?_;clear H a;intro a H
 refine wlu H rfl rfl rfl rfl (by intro b hb;cases hb) rfl ?_;clear H a;intro a H
 refine wlu H rfl rfl rfl rfl (by intro b hb;cases hb) rfl ?_;clear H a;intro a H
 refine wlu H rfl rfl rfl rfl (by intro b hb;cases hb) rfl ?_;clear H a;intro a H
 refine wlu H rfl rfl rfl rfl (by intro b hb;cases hb) rfl ?_;clear H a;intro a H
 refine wlu H rfl rfl rfl rfl (by intro b hb;cases hb) rfl ?_;clear H a;intro a H
 refine wlu H rfl rfl rfl rfl (by intro b hb;cases hb) rfl ?_;clear H a;intro a H
 refine wlu H rfl rfl rfl rfl (by intro b hb;cases hb) rfl ?_;clear H a;intro a H
 refine wlu H rfl rfl rfl rfl (by intro b hb;cases hb) rfl ?_;clear H a;intro a H
 refine wlu H rfl rfl rfl rfl (by intro b hb;cases hb) rfl ?_;clear H a;intro a H
 refine wlu H rfl rfl rfl rfl (by intro b hb;cases hb) rfl ?_;clear H a;intro a H
 refine wlx H rfl rfl rfl rfl rfl (kL (fun a H=>Ez.pkT H rfl rfl) rfl (kA rfl rfl (kP [(0,_),(1,_),(2,_),(3,_),(8,_),(9,_),(10,_),(11,_),(12,_)] rfl (kW (kS (kS (kR [_,_] (kM rfl rfl (kL (fun a H=>Ez.not H rfl rfl) rfl (kP [(0,_),(1,_),(2,_),(3,_),(8,_),(9,_),(10,_),(11,_),(58,_)] rfl (kW ?_)))))))))));clear H a;intro a H
 refine Cf (H.o rfl) (Wk0 (thn (Sq (Rl [_] (wl H (Ez.asn H rfl) rfl (kP [(0,_),(1,_),(2,_),(3,_),(8,_),(9,_),(10,_),(11,_),(13,_)] rfl (kW (kS (kR [_] (kA rfl rfl (kW (kS (kR [_,_,_,_,_,_,_] (kM rfl rfl ?_))))))))))))));clear H a;intro a H
 refine wlc H (Ez.inv131R H rfl _) (readByte b 0 s w0 hR (by omega) (by omega)) rfl ?_
 rintro _ w1 ⟨rfl,hR1,hF1⟩
 refine ⟨_,rfl,?_⟩;clear H a;intro a H
 rw [chr_eq (by omega)] at H
 obtain ⟨wX,rfl⟩:∃wX,wX=w1:=⟨w1,rfl⟩
 refine wl H (Ez.mv H rfl) rfl (kL (fun a H=>Ez.ext0 H rfl) rfl (kL (fun a H=>Ez.ext1 H rfl) rfl (kA rfl rfl (kA rfl rfl (kP [(0,_),(1,_),(2,_),(3,_),(8,_),(9,_),(10,_),(11,_),(13,_),(14,_),(15,_)] rfl (kW (kS (kR [_,_,_] (kM rfl rfl (kA rfl rfl (kA rfl rfl (kP [(0,_),(1,_),(2,_),(3,_),(8,_),(9,_),(10,_),(11,_),(13,_),(14,_),(15,_),(16,_)] rfl (kW (kS (kS (kR [_,_] (kM rfl rfl (kL (fun a H=>Ez.eql (r:=false) H rfl rfl (by simp)) rfl (kP [(0,_),(1,_),(2,_),(3,_),(8,_),(9,_),(10,_),(11,_),(13,_),(14,_),(15,_),(16,_),(67,_)] rfl (kW ?_))))))))))))))))))));clear H a;intro a H
 refine Cf (H.o rfl) (Wk0 (thn (Sq (Rl [_,_,_] (wl H (Ez.mv H rfl) rfl (kL (fun a H=>Ez.slH80 H rfl rfl 0 rfl (Nat.zero_le _)) rfl (kA rfl rfl (kP [(0,_),(1,_),(2,_),(3,_),(8,_),(9,_),(10,_),(11,_),(13,_),(14,_),(15,_),(16,_)] rfl (kW (kS (kR [_,_,_] (kM rfl rfl (kL (fun a H=>Ez.cv (r:=(16:Int)) H rfl ty3 ty103 (by (decide))) rfl (kA rfl rfl (kP [(0,_),(1,_),(2,_),(3,_),(8,_),(9,_),(10,_),(11,_),(13,_),(14,_),(15,_),(16,_),(17,_)] rfl (kW (kS (kR [_] (kA rfl rfl (kW (kS (kR [_] (kA rfl rfl (kW (kS (kS (kR [_] ?_)))))))))))))))))))))))))));clear H a;intro a H
 refine wl H (Ez.mv H rfl) rfl (kW ?_);clear H a;intro a H
 refine Wb (Sq (Rl [_,_] (wl H (Ez.eql (r:=false) H rfl rfl (by simp)) rfl (kA rfl rfl (kP [(0,_),(1,_),(2,_),(3,_),(8,_),(9,_),(10,_),(11,_),(13,_),(14,_),(15,_),(16,_),(17,_),(18,_),(19,_),(106,_),(112,_)] rfl (kW ?_))))));clear H a;intro a H
 refine Cf (H.o rfl) (Sq (Rl [_,_] (wl H (Ez.eql (r:=false) H rfl rfl (by simp)) rfl (kA rfl rfl (kP [(0,_),(1,_),(2,_),(3,_),(8,_),(9,_),(10,_),(11,_),(13,_),(14,_),(15,_),(16,_),(17,_),(18,_),(19,_),(106,_),(114,_)] rfl (kW ?_))))));clear H a;intro a H
 refine Cf (H.o rfl) (Sq (Rl [_,_] (wl H (Ez.eql (r:=true) H rfl rfl (by simp)) rfl (kA rfl rfl (kP [(0,_),(1,_),(2,_),(3,_),(8,_),(9,_),(10,_),(11,_),(13,_),(14,_),(15,_),(16,_),(17,_),(18,_),(19,_),(116,_)] rfl (kW ?_))))));clear H a;intro a H
 refine Ct (H.o rfl) (Rl [_] (wl H (Ez.asn H rfl) rfl (kP [(0,_),(1,_),(2,_),(3,_),(8,_),(9,_),(10,_),(11,_),(13,_),(14,_),(15,_),(16,_),(17,_),(18,_),(19,_)] rfl ?_)));clear H a;intro a H
 refine Wn ?_
 refine bn (thn (Sq (Rl [_] (wl H (Ez.asn H rfl) rfl (kW (kS (kR [_] (kA rfl rfl (kW (kS (kR [_] (kA rfl rfl (kW (kS ?_))))))))))))));clear H a;intro a H
 refine Wb ?_
 refine Qo (fun mm a w=>∃(k i:Nat) (ch wd pv:Int) (E:Value) (q:Option Addr) (c:Nat) (X:Nat->Int),mm=64 - (16*k+i)/\k<=4/\i < 16/\16*k+i<=64/\Hd a 274 [] [(0,.slice q k c),(1,.iface 131 (pz b)),(2,.int .i64 16),(3,.bool false),(9,.int .i64 16),(10,.int .i64 ((16*k+i:Nat):Int)),(11,E),(13,.int .i32 pv),(14,.bool false),(15,.int .u8 ch),(16,.int .i64 0),(17,.int .u64 16),(18,.int .u64 0),(19,.int .i64 16),(20,.int .u64 wd),(21,.int .i64 i),(22,.int .i64 (-1))]/\Sl w q k c X/\(∀j,j < k->X j=hxv (fun x=>D (16*j+x)) 16)/\wd=hxv (fun x=>D (16*k+x)) i/\(16*k+i < 64->E=.nilIface/\ch=chr s (16*k+i)/\Rd w b s (16*k+i+1))/\(16*k+i=64->E=v/\Rd w b s 64)/\pv≠95/\(∀x j,TQ q x j->w0.heap.size<=x)/\Fr (Bl b) w0 w) (64) ?_ ?_
 ·replace H:Hd a 274 [] [(0,_),(1,_),(2,_),(3,_),(9,_),(10,_),(11,_),(13,_),(14,_),(15,_),(16,_),(17,_),(18,_),(19,_),(20,_),(21,_),(22,_)]:=H.pick [0,1,2,3,9,10,11,13,14,15,16,17,18,19,20,21,22]
  exact ⟨0,0,_,0,46,_,none,0,fun _=>0,rfl,by omega,by omega,by omega,H,Sl.nil _ _,fun j hj=>by omega,rfl,fun _=>⟨rfl,rfl,hR1⟩,fun hh=>by omega,by decide,fun x j hh=>(Q9 hh).elim,hF1⟩
 clear H a
 intro mm a w hI
 clear hR1 hF1
 obtain ⟨k,i,ch,wd,pv,E,q,c,X,hmm,hk,hi,hki,H,hS,hX,hwd,hlt,heq,hpv,hfr,hF⟩:=hI
 obtain ⟨wL,rfl⟩:∃wL,wL=w:=⟨w,rfl⟩
 refine Sq (Sq ?_)
 rcases (show 16*k+i < 64\/16*k+i=64 by omega) with hm | hm
 ·obtain ⟨rfl,rfl,hR2⟩:=hlt hm
  obtain ⟨hd0,hd1,hd2⟩:=hD (16*k+i) hm
  refine Rl [_,_] (wl H (Ez.mv H rfl) rfl (kL (fun a H=>Ez.eqNI H rfl) rfl (kP [(0,_),(1,_),(2,_),(3,_),(9,_),(10,_),(11,_),(13,_),(14,_),(15,_),(16,_),(17,_),(18,_),(19,_),(20,_),(21,_),(22,_),(119,_)] rfl (kW ?_))));clear H a;intro a H
  refine Ct (H.o rfl) (Wk0 (thn (Wb (Sq (Sq (Rl [_,_,_,_,_] (wl H (Ez.mv H rfl) rfl (kL (fun a H=>Ez.eql (r:=false) H rfl rfl (by (simp;unfold Hx at hd0;omega))) rfl (kM rfl rfl (kX rfl rfl rfl rfl rfl (kL (fun a H=>Ez.pkF H rfl rfl) rfl (kP [(0,_),(1,_),(2,_),(3,_),(9,_),(10,_),(11,_),(13,_),(14,_),(15,_),(16,_),(17,_),(18,_),(19,_),(20,_),(21,_),(22,_),(124,_)] rfl (kW ?_)))))))))))));clear H a;intro a H
  refine Cf (H.o rfl) (Sq (Rl [_,_,_,_,_,_] (wl H (Ez.mv H rfl) rfl (kL (fun a H=>Ez.eql (r:=false) H rfl rfl (by (simp;unfold Hx at hd0;omega))) rfl (kM rfl rfl (kX rfl rfl rfl rfl rfl (kX rfl rfl rfl rfl rfl (kL (fun a H=>Ez.pkF H rfl rfl) rfl (kP [(0,_),(1,_),(2,_),(3,_),(9,_),(10,_),(11,_),(13,_),(14,_),(15,_),(16,_),(17,_),(18,_),(19,_),(20,_),(21,_),(22,_),(133,_)] rfl (kW ?_))))))))));clear H a;intro a H
  refine Cf (H.o rfl) (Sq (Rl [_] (wl H (Ez.asn H rfl) rfl (kP [(0,_),(1,_),(2,_),(3,_),(9,_),(10,_),(11,_),(13,_),(14,_),(15,_),(16,_),(17,_),(18,_),(19,_),(20,_),(21,_),(22,_),(23,_)] rfl (kW ?_)))));clear H a;intro a H
  refine Jf (fun a w=>Hd a 274 [] [(0,.slice q k c),(1,.iface 131 (pz b)),(2,.int .i64 16),(3,.bool false),(9,.int .i64 16),(10,.int .i64 ((16*k+i:Nat):Int)),(11,.nilIface),(14,.bool false),(16,.int .i64 0),(17,.int .u64 16),(18,.int .u64 0),(19,.int .i64 16),(20,.int .u64 wd),(21,.int .i64 i),(22,.int .i64 (-1)),(23,.int .u64 (D (16*k+i)))]/\wL=w) ?_ ?_
  ·refine Wb (Sq ?_)
   rcases hd0 with ⟨c1,c2,c3⟩ | ⟨c1,c2,c3⟩
   ·refine Rl [_,_,_,_,_,_,_] (wl H (Ez.mv H rfl) rfl (kL (fun a H=>Ez.leq (r:=true) H rfl rfl (by (simp;omega))) rfl (kM rfl rfl (kG (fun a H=>Ez.mv H rfl) rfl rfl rfl rfl rfl (kG (fun a H=>Ez.leq (r:=true) H rfl rfl (by (simp;omega))) rfl rfl rfl rfl rfl (kL (fun a H=>Ez.pkT H rfl rfl) rfl (kA rfl rfl (kP [(0,_),(1,_),(2,_),(3,_),(9,_),(10,_),(11,_),(13,_),(14,_),(15,_),(16,_),(17,_),(18,_),(19,_),(20,_),(21,_),(22,_),(23,_),(136,_)] rfl (kW ?_)))))))));clear H a;intro a H
    refine Ct (H.o rfl) (Rl [_,_,_,_] (wl H (Ez.mv H rfl) rfl (kL (fun a H=>Ez.subU8 (r:=(D (16*k+i))) H rfl rfl (by (omega))) rfl (kL (fun a H=>Ez.cv (r:=(D (16*k+i))) H rfl ty5 ty103 (by (rw [Wu];omega))) rfl (kA rfl rfl (kP [(0,_),(1,_),(2,_),(3,_),(9,_),(10,_),(11,_),(13,_),(14,_),(15,_),(16,_),(17,_),(18,_),(19,_),(20,_),(21,_),(22,_),(23,_)] rfl ?_))))));clear H a;intro a H
    refine Wn ?_
    refine bn (thn ?_)
    replace H:Hd a 274 [] [(0,_),(1,_),(2,_),(3,_),(9,_),(10,_),(11,_),(14,_),(16,_),(17,_),(18,_),(19,_),(20,_),(21,_),(22,_),(23,_)]:=H.pick [0,1,2,3,9,10,11,14,16,17,18,19,20,21,22,23]
    exact ⟨H,rfl⟩
   refine Rl [_,_,_,_,_,_,_] (wl H (Ez.mv H rfl) rfl (kL (fun a H=>Ez.leq (r:=true) H rfl rfl (by (simp;omega))) rfl (kM rfl rfl (kG (fun a H=>Ez.mv H rfl) rfl rfl rfl rfl rfl (kG (fun a H=>Ez.leq (r:=false) H rfl rfl (by (simp;omega))) rfl rfl rfl rfl rfl (kL (fun a H=>Ez.pkT H rfl rfl) rfl (kA rfl rfl (kP [(0,_),(1,_),(2,_),(3,_),(9,_),(10,_),(11,_),(13,_),(14,_),(15,_),(16,_),(17,_),(18,_),(19,_),(20,_),(21,_),(22,_),(23,_),(136,_)] rfl (kW ?_)))))))));clear H a;intro a H
   refine Cf (H.o rfl) (Sq (Rl [_,_,_,_,_,_,_] (wl H (Ez.mv H rfl) rfl (kL (fun a H=>Ez.leq (r:=true) H rfl rfl (by (simp;omega))) rfl (kM rfl rfl (kG (fun a H=>Ez.mv H rfl) rfl rfl rfl rfl rfl (kG (fun a H=>Ez.leq (r:=true) H rfl rfl (by (simp;omega))) rfl rfl rfl rfl rfl (kL (fun a H=>Ez.pkT H rfl rfl) rfl (kA rfl rfl (kP [(0,_),(1,_),(2,_),(3,_),(9,_),(10,_),(11,_),(13,_),(14,_),(15,_),(16,_),(17,_),(18,_),(19,_),(20,_),(21,_),(22,_),(23,_),(146,_)] rfl (kW ?_)))))))))));clear H a;intro a H
   refine Ct (H.o rfl) (Rl [_,_,_,_,_] (wl H (Ez.mv H rfl) rfl (kL (fun a H=>Ez.subU8 (r:=(chr s (16*k+i) - 97)) H rfl rfl (by (omega))) rfl (kL (fun a H=>Ez.addU8 (r:=(D (16*k+i))) H rfl rfl (by (omega))) rfl (kL (fun a H=>Ez.cv (r:=(D (16*k+i))) H rfl ty5 ty103 (by (rw [Wu];omega))) rfl (kA rfl rfl (kP [(0,_),(1,_),(2,_),(3,_),(9,_),(10,_),(11,_),(13,_),(14,_),(15,_),(16,_),(17,_),(18,_),(19,_),(20,_),(21,_),(22,_),(23,_)] rfl ?_)))))));clear H a;intro a H
   refine Wn ?_
   refine bn (thn ?_)
   replace H:Hd a 274 [] [(0,_),(1,_),(2,_),(3,_),(9,_),(10,_),(11,_),(14,_),(16,_),(17,_),(18,_),(19,_),(20,_),(21,_),(22,_),(23,_)]:=H.pick [0,1,2,3,9,10,11,14,16,17,18,19,20,21,22,23]
   exact ⟨H,rfl⟩
  clear H a
  intro a w hJ
  obtain ⟨H,rfl⟩:=hJ
  refine Sq (Sq (Rl [_,_,_] (wl H (Ez.mv H rfl) rfl (kM rfl rfl (kL (fun a H=>Ez.geq (r:=false) H rfl rfl (by (simp;omega))) rfl (kP [(0,_),(1,_),(2,_),(3,_),(9,_),(10,_),(11,_),(14,_),(16,_),(17,_),(18,_),(19,_),(20,_),(21,_),(22,_),(23,_),(176,_)] rfl (kW ?_)))))));clear H a;intro a H
  refine Cf (H.o rfl) (Wk0 (thn (Sq (Rl [_] (wl H (Ez.asn H rfl) rfl (kP [(0,_),(1,_),(2,_),(3,_),(9,_),(10,_),(11,_),(13,_),(14,_),(16,_),(17,_),(18,_),(19,_),(20,_),(21,_),(22,_),(23,_)] rfl (kW (kS (kR [_,_,_] (kM rfl rfl (kL (fun a H=>Ez.addI (r:=((16*k+i+1:Nat):Int)) H rfl rfl (by omega) (by omega)) rfl (kA rfl rfl (kP [(0,_),(1,_),(2,_),(3,_),(9,_),(10,_),(11,_),(13,_),(14,_),(16,_),(17,_),(18,_),(19,_),(20,_),(21,_),(22,_),(23,_)] rfl (kW (kS ?_)))))))))))))));clear H a;intro a H
  have hb1:=hxv_bound (D:=fun x=>D (16*k+x)) i (fun j hj=>⟨(hD (16*k+j) (by omega)).2.1,(hD (16*k+j) (by omega)).2.2⟩)
  rw [<-hwd] at hb1
  have hp16':∀i,i < 16->(16:Int) ^ i<=1152921504606846976:=by decide
  have hp16:=hp16' i hi
  have hwd2:wd*16+D (16*k+i)=hxv (fun x=>D (16*k+x)) (i+1):=by rw [hwd];rfl
  refine Rl [_,_,_,_,_,_] (wl H (Ez.mv H rfl) rfl (kM rfl rfl (kL (fun a H=>Ez.mulU (r:=(wd*16)) H rfl rfl (by (omega))) rfl (kM rfl rfl (kL (fun a H=>Ez.addU (r:=(wd*16+D (16*k+i))) H rfl rfl (by (omega))) rfl (kA rfl rfl (kP [(0,_),(1,_),(2,_),(3,_),(9,_),(10,_),(11,_),(13,_),(14,_),(16,_),(17,_),(18,_),(19,_),(20,_),(21,_),(22,_)] rfl (kW (kS (kR [_,_,_] (kM rfl rfl (kL (fun a H=>Ez.addI (r:=((i+1:Nat):Int)) H rfl rfl (by omega) (by omega)) rfl (kA rfl rfl (kP [(0,_),(1,_),(2,_),(3,_),(9,_),(10,_),(11,_),(13,_),(14,_),(16,_),(17,_),(18,_),(19,_),(20,_),(21,_),(22,_)] rfl (kW (kS (kR [_,_,_] (kM rfl rfl (kM rfl rfl (kL (fun a H=>Ez.eql H rfl rfl (rfl)) rfl (kP [(0,_),(1,_),(2,_),(3,_),(9,_),(10,_),(11,_),(13,_),(14,_),(16,_),(17,_),(18,_),(19,_),(20,_),(21,_),(22,_),(190,_)] rfl (kW ?_))))))))))))))))))))));clear H a;intro a H
  refine Cs (H.o rfl) (fun hb26=>?_) (fun hb26=>?_)
  ·have hi16:i=15:=by have:=Dt hb26;omega
   refine Sq (Sq (Rl [_,_] (wl H (Ez.mv H rfl) rfl (kL (fun a H=>Ez.eql (r:=true) H rfl rfl (by simp)) rfl (kP [(0,_),(1,_),(2,_),(3,_),(9,_),(10,_),(11,_),(13,_),(14,_),(16,_),(17,_),(18,_),(19,_),(20,_),(21,_),(22,_),(192,_)] rfl (kW ?_))))));clear H a;intro a H
   refine Ct (H.o rfl) (Rl [_,_,_,_,_] (wl H (Ez.mv H rfl) rfl (kM rfl rfl (kL (fun a H=>Ez.bs80 H rfl) rfl ?_))));clear H a;intro a H
   have hW1:=Wk.one wL (v:=wd*16+D (16*k+i)) ⟨by omega,by omega⟩
   have hFa:Fr NoT wL (wL.alloc (.cells #[.int .u64 (wd*16+D (16*k+i))] 103)):=(Fr.refl NoT wL).alloc _
   have hsz1:wL.heap.size<=(wL.alloc (.cells #[.int .u64 (wd*16+D (16*k+i))] 103)).heap.size:=hFa.size
   obtain ⟨ba,hba⟩:∃ba,ba=wL.heap.size:=⟨_,rfl⟩
   rw [<-hba] at H hW1
   have hS1:=hS.frN hFa
   generalize wL.alloc (.cells #[.int .u64 (wd*16+D (16*k+i))] 103)=wA at hW1 hFa hS1
   obtain ⟨wB,q2,c2,X2,eA,hS2,hXl,hXn,hO2,hFb⟩:=Ez.apW (x:=.tmp 193) (y:=.tmp 195) (d:=some 196) (ty:=80) (pos:=_) (after:=_) (g:=none) H rfl rfl hS1 (by omega) hW1
   refine wl H (eA) rfl ?_;clear eA H a;intro a H
   refine wl H (Ez.asn H rfl) rfl (kP [(0,_),(1,_),(2,_),(3,_),(9,_),(10,_),(11,_),(13,_),(14,_),(16,_),(17,_),(18,_),(19,_),(20,_),(21,_),(22,_)] rfl (kW ?_));clear H a;intro a H
   have hfr2:∀x j,TQ q2 x j->w0.heap.size<=x:=fun x j hh=>by
    rcases hO2 x j hh with h' | h'
    ·exact hfr x j h'
    exact Nat.le_trans hF.size (Nat.le_trans hFa.size h')
   have hFc:Fr (Bl b) w0 wB:=(hF.trans hFa.noT).hi (hFb.mono fun x j hx hh=>hfr x j hh)
   have hRB:=(hR2.fr hFa (fun _ f=>f)).fr hFb (fun o hh=>by have h1:=hfr b o hh;exact absurd hbl (Nat.not_lt.2 h1))
   have hX2:∀j,j < k+1->X2 j=hxv (fun x=>D (16*j+x)) 16:=fun j hj=>by
    by_cases e:j=k
    ·subst e;rw [hXn,hwd2,hi16]
    rw [hXl j (by omega)];exact hX j (by omega)
   refine Sq (Rl [_] (wl H (Ez.asn H rfl) rfl (kW (kR [_] (kA rfl rfl (kW ?_))))));clear H a;intro a H
   rcases (show 16*k+i+1 < 64\/16*k+i+1=64 by omega) with hm2 | hm2
   ·refine Rl [_,_,_,_,_,_,_] (wl H (Ez.mv H rfl) rfl ?_);clear H a;intro a H
    refine wlc H (Ez.inv131R H rfl _) (readByte b (16*k+i+1) s _ (by first | exact hRB | exact hR2) (by omega) (by omega)) rfl ?_
    rintro _ w1 ⟨rfl,hR3,hFd⟩
    refine ⟨_,rfl,?_⟩;clear H a;intro a H
    rw [chr_eq (by omega)] at H
    refine wl H (Ez.mv H rfl) rfl (kL (fun a H=>Ez.ext0 H rfl) rfl (kL (fun a H=>Ez.ext1 H rfl) rfl (kA rfl rfl (kA rfl rfl (kP [(0,_),(1,_),(2,_),(3,_),(9,_),(10,_),(11,_),(13,_),(14,_),(15,_),(16,_),(17,_),(18,_),(19,_),(20,_),(21,_),(22,_)] rfl ?_)))));clear H a;intro a H
    refine Wn ?_
    first
     | (have hF3:=hFc.trans hFd
        have hS3:=hS2.fr hFd (fun x j o hh e=>by have h1:=hfr2 x j hh;have:x=b:=e;rw [this] at h1;exact absurd hbl (Nat.not_lt.2 h1))
        have em:16*k+i+1=16*(k+1)+0:=by omega
        rw [em] at H hR3)
     | (have hF3:=hF.trans hFd
        have hS3:=hS.fr hFd (fun x j o hh e=>by have h1:=hfr x j hh;have:x=b:=e;rw [this] at h1;exact absurd hbl (Nat.not_lt.2 h1))
        have em:16*k+i+1=16*k+(i+1):=by omega
        rw [em] at H hR3)
    refine bn (thn ?_)
    replace H:Hd a 274 [] [(0,_),(1,_),(2,_),(3,_),(9,_),(10,_),(11,_),(13,_),(14,_),(15,_),(16,_),(17,_),(18,_),(19,_),(20,_),(21,_),(22,_)]:=H.pick [0,1,2,3,9,10,11,13,14,15,16,17,18,19,20,21,22]
    first
     | exact ⟨64 - (16*(k+1)+0),by omega,k+1,0,_,0,48,_,q2,c2,X2,rfl,by omega,by omega,by omega,H,hS3,hX2,rfl,fun hh=>⟨rfl,rfl,hR3⟩,fun hh=>by omega,by decide,hfr2,hF3⟩
     | exact ⟨64 - (16*(k+1)+0),by omega,k+1,0,_,0,48,_,q2,c2,X2,rfl,by omega,by omega,by omega,H,hS3,hX2,rfl,fun hh=>by omega,fun hh=>⟨rfl,by rw [<-hh];exact hR3⟩,by decide,hfr2,hF3⟩
     | exact ⟨64 - (16*k+(i+1)),by omega,k,i+1,_,_,48,_,q,c,X,rfl,by omega,by omega,by omega,H,hS3,hX,hwd2,fun hh=>⟨rfl,rfl,hR3⟩,fun hh=>by omega,by decide,hfr,hF3⟩
     | exact ⟨64 - (16*k+(i+1)),by omega,k,i+1,_,_,48,_,q,c,X,rfl,by omega,by omega,by omega,H,hS3,hX,hwd2,fun hh=>by omega,fun hh=>⟨rfl,by rw [<-hh];exact hR3⟩,by decide,hfr,hF3⟩
   refine Rl [_,_,_,_,_,_,_] (wl H (Ez.mv H rfl) rfl ?_);clear H a;intro a H
   refine wlc H (Ez.inv131R H rfl _) (readEOF b (16*k+i+1) s v _ (by first | exact hRB | exact hR2) (by omega) (by omega) (by first | exact (hFc.someCell he (fun e=>hb (Eq.symm e))) | exact (hF.someCell he (fun e=>hb (Eq.symm e)))) hb) rfl ?_
   rintro _ w1 ⟨rfl,hR3,hFd⟩
   refine ⟨_,rfl,?_⟩;clear H a;intro a H
   refine wl H (Ez.mv H rfl) rfl (kL (fun a H=>Ez.ext0 H rfl) rfl (kL (fun a H=>Ez.ext1 H rfl) rfl (kA rfl rfl (kA rfl rfl (kP [(0,_),(1,_),(2,_),(3,_),(9,_),(10,_),(11,_),(13,_),(14,_),(15,_),(16,_),(17,_),(18,_),(19,_),(20,_),(21,_),(22,_)] rfl ?_)))));clear H a;intro a H
   refine Wn ?_
   first
    | (have hF3:=hFc.trans hFd
       have hS3:=hS2.fr hFd (fun x j o hh e=>by have h1:=hfr2 x j hh;have:x=b:=e;rw [this] at h1;exact absurd hbl (Nat.not_lt.2 h1))
       have em:16*k+i+1=16*(k+1)+0:=by omega
       rw [em] at H hR3)
    | (have hF3:=hF.trans hFd
       have hS3:=hS.fr hFd (fun x j o hh e=>by have h1:=hfr x j hh;have:x=b:=e;rw [this] at h1;exact absurd hbl (Nat.not_lt.2 h1))
       have em:16*k+i+1=16*k+(i+1):=by omega
       rw [em] at H hR3)
   refine bn (thn ?_)
   replace H:Hd a 274 [] [(0,_),(1,_),(2,_),(3,_),(9,_),(10,_),(11,_),(13,_),(14,_),(15,_),(16,_),(17,_),(18,_),(19,_),(20,_),(21,_),(22,_)]:=H.pick [0,1,2,3,9,10,11,13,14,15,16,17,18,19,20,21,22]
   first
    | exact ⟨64 - (16*(k+1)+0),by omega,k+1,0,_,0,48,_,q2,c2,X2,rfl,by omega,by omega,by omega,H,hS3,hX2,rfl,fun hh=>⟨rfl,rfl,hR3⟩,fun hh=>by omega,by decide,hfr2,hF3⟩
    | exact ⟨64 - (16*(k+1)+0),by omega,k+1,0,_,0,48,_,q2,c2,X2,rfl,by omega,by omega,by omega,H,hS3,hX2,rfl,fun hh=>by omega,fun hh=>⟨rfl,by rw [<-hh];exact hR3⟩,by decide,hfr2,hF3⟩
    | exact ⟨64 - (16*k+(i+1)),by omega,k,i+1,_,_,48,_,q,c,X,rfl,by omega,by omega,by omega,H,hS3,hX,hwd2,fun hh=>⟨rfl,rfl,hR3⟩,fun hh=>by omega,by decide,hfr,hF3⟩
    | exact ⟨64 - (16*k+(i+1)),by omega,k,i+1,_,_,48,_,q,c,X,rfl,by omega,by omega,by omega,H,hS3,hX,hwd2,fun hh=>by omega,fun hh=>⟨rfl,by rw [<-hh];exact hR3⟩,by decide,hfr,hF3⟩
  have hi16:i+1 < 16:=by have:=Df hb26;omega
  refine Wk0 (thn ?_)
  rcases (show 16*k+i+1 < 64\/16*k+i+1=64 by omega) with hm2 | hm2
  ·refine Rl [_,_,_,_,_,_,_] (wl H (Ez.mv H rfl) rfl ?_);clear H a;intro a H
   refine wlc H (Ez.inv131R H rfl _) (readByte b (16*k+i+1) s _ (by first | exact hRB | exact hR2) (by omega) (by omega)) rfl ?_
   rintro _ w1 ⟨rfl,hR3,hFd⟩
   refine ⟨_,rfl,?_⟩;clear H a;intro a H
   rw [chr_eq (by omega)] at H
   refine wl H (Ez.mv H rfl) rfl (kL (fun a H=>Ez.ext0 H rfl) rfl (kL (fun a H=>Ez.ext1 H rfl) rfl (kA rfl rfl (kA rfl rfl (kP [(0,_),(1,_),(2,_),(3,_),(9,_),(10,_),(11,_),(13,_),(14,_),(15,_),(16,_),(17,_),(18,_),(19,_),(20,_),(21,_),(22,_)] rfl ?_)))));clear H a;intro a H
   refine Wn ?_
   first
    | (have hF3:=hFc.trans hFd
       have hS3:=hS2.fr hFd (fun x j o hh e=>by have h1:=hfr2 x j hh;have:x=b:=e;rw [this] at h1;exact absurd hbl (Nat.not_lt.2 h1))
       have em:16*k+i+1=16*(k+1)+0:=by omega
       rw [em] at H hR3)
    | (have hF3:=hF.trans hFd
       have hS3:=hS.fr hFd (fun x j o hh e=>by have h1:=hfr x j hh;have:x=b:=e;rw [this] at h1;exact absurd hbl (Nat.not_lt.2 h1))
       have em:16*k+i+1=16*k+(i+1):=by omega
       rw [em] at H hR3)
   refine bn (thn ?_)
   replace H:Hd a 274 [] [(0,_),(1,_),(2,_),(3,_),(9,_),(10,_),(11,_),(13,_),(14,_),(15,_),(16,_),(17,_),(18,_),(19,_),(20,_),(21,_),(22,_)]:=H.pick [0,1,2,3,9,10,11,13,14,15,16,17,18,19,20,21,22]
   first
    | exact ⟨64 - (16*(k+1)+0),by omega,k+1,0,_,0,48,_,q2,c2,X2,rfl,by omega,by omega,by omega,H,hS3,hX2,rfl,fun hh=>⟨rfl,rfl,hR3⟩,fun hh=>by omega,by decide,hfr2,hF3⟩
    | exact ⟨64 - (16*(k+1)+0),by omega,k+1,0,_,0,48,_,q2,c2,X2,rfl,by omega,by omega,by omega,H,hS3,hX2,rfl,fun hh=>by omega,fun hh=>⟨rfl,by rw [<-hh];exact hR3⟩,by decide,hfr2,hF3⟩
    | exact ⟨64 - (16*k+(i+1)),by omega,k,i+1,_,_,48,_,q,c,X,rfl,by omega,by omega,by omega,H,hS3,hX,hwd2,fun hh=>⟨rfl,rfl,hR3⟩,fun hh=>by omega,by decide,hfr,hF3⟩
    | exact ⟨64 - (16*k+(i+1)),by omega,k,i+1,_,_,48,_,q,c,X,rfl,by omega,by omega,by omega,H,hS3,hX,hwd2,fun hh=>by omega,fun hh=>⟨rfl,by rw [<-hh];exact hR3⟩,by decide,hfr,hF3⟩
  refine Rl [_,_,_,_,_,_,_] (wl H (Ez.mv H rfl) rfl ?_);clear H a;intro a H
  refine wlc H (Ez.inv131R H rfl _) (readEOF b (16*k+i+1) s v _ (by first | exact hRB | exact hR2) (by omega) (by omega) (by first | exact (hFc.someCell he (fun e=>hb (Eq.symm e))) | exact (hF.someCell he (fun e=>hb (Eq.symm e)))) hb) rfl ?_
  rintro _ w1 ⟨rfl,hR3,hFd⟩
  refine ⟨_,rfl,?_⟩;clear H a;intro a H
  refine wl H (Ez.mv H rfl) rfl (kL (fun a H=>Ez.ext0 H rfl) rfl (kL (fun a H=>Ez.ext1 H rfl) rfl (kA rfl rfl (kA rfl rfl (kP [(0,_),(1,_),(2,_),(3,_),(9,_),(10,_),(11,_),(13,_),(14,_),(15,_),(16,_),(17,_),(18,_),(19,_),(20,_),(21,_),(22,_)] rfl ?_)))));clear H a;intro a H
  refine Wn ?_
  first
   | (have hF3:=hFc.trans hFd
      have hS3:=hS2.fr hFd (fun x j o hh e=>by have h1:=hfr2 x j hh;have:x=b:=e;rw [this] at h1;exact absurd hbl (Nat.not_lt.2 h1))
      have em:16*k+i+1=16*(k+1)+0:=by omega
      rw [em] at H hR3)
   | (have hF3:=hF.trans hFd
      have hS3:=hS.fr hFd (fun x j o hh e=>by have h1:=hfr x j hh;have:x=b:=e;rw [this] at h1;exact absurd hbl (Nat.not_lt.2 h1))
      have em:16*k+i+1=16*k+(i+1):=by omega
      rw [em] at H hR3)
  refine bn (thn ?_)
  replace H:Hd a 274 [] [(0,_),(1,_),(2,_),(3,_),(9,_),(10,_),(11,_),(13,_),(14,_),(15,_),(16,_),(17,_),(18,_),(19,_),(20,_),(21,_),(22,_)]:=H.pick [0,1,2,3,9,10,11,13,14,15,16,17,18,19,20,21,22]
  first
   | exact ⟨64 - (16*(k+1)+0),by omega,k+1,0,_,0,48,_,q2,c2,X2,rfl,by omega,by omega,by omega,H,hS3,hX2,rfl,fun hh=>⟨rfl,rfl,hR3⟩,fun hh=>by omega,by decide,hfr2,hF3⟩
   | exact ⟨64 - (16*(k+1)+0),by omega,k+1,0,_,0,48,_,q2,c2,X2,rfl,by omega,by omega,by omega,H,hS3,hX2,rfl,fun hh=>by omega,fun hh=>⟨rfl,by rw [<-hh];exact hR3⟩,by decide,hfr2,hF3⟩
   | exact ⟨64 - (16*k+(i+1)),by omega,k,i+1,_,_,48,_,q,c,X,rfl,by omega,by omega,by omega,H,hS3,hX,hwd2,fun hh=>⟨rfl,rfl,hR3⟩,fun hh=>by omega,by decide,hfr,hF3⟩
   | exact ⟨64 - (16*k+(i+1)),by omega,k,i+1,_,_,48,_,q,c,X,rfl,by omega,by omega,by omega,H,hS3,hX,hwd2,fun hh=>by omega,fun hh=>⟨rfl,by rw [<-hh];exact hR3⟩,by decide,hfr,hF3⟩
 obtain ⟨rfl,hRe⟩:=heq hm
 have hk4:k=4:=by omega
 have hi0:i=0:=by omega
 subst hk4
 subst hi0
 obtain ⟨et,eu,hev⟩:=hE.i
 refine Rl [_,_] (wl H (Ez.mv H rfl) rfl (kL (fun a H=>Ez.eqSI H (by rw [<-hev];rfl) rfl) rfl (kP [(0,_),(1,_),(2,_),(3,_),(9,_),(10,_),(11,_),(13,_),(14,_),(15,_),(16,_),(17,_),(18,_),(19,_),(20,_),(21,_),(22,_),(119,_)] rfl (kW ?_))));clear H a;intro a H
 refine Cf (H.o rfl) (We (thx (thx (bxe (thn (Sq (Sq (Rl [_,_,_] (wl H (Ez.mv H rfl) rfl (kL (fun a H=>Ez.ld146 H rfl (hF.someCell he (fun e=>hb (Eq.symm e)))) rfl (kL (fun a H=>hE.e _ _ _ _ _ _ _ _ _ _ _ _ _ H rfl rfl) rfl (kP [(0,_),(9,_),(10,_),(11,_),(13,_),(14,_),(16,_),(17,_),(18,_),(19,_),(20,_),(21,_),(22,_),(209,_)] rfl (kW ?_)))))))))))));clear H a;intro a H
 refine Ct (H.o rfl) (Rl [_] (wl H (Ez.asn H rfl) rfl (kP [(0,_),(9,_),(10,_),(11,_),(13,_),(14,_),(16,_),(17,_),(18,_),(19,_),(20,_),(21,_),(22,_)] rfl (kW (kS (kS (kR [_,_,_,_,_,_,_,_,_] (kM rfl rfl (kL (fun a H=>Ez.eqNI H rfl) rfl (kM rfl rfl (kG (fun a H=>Ez.mv H rfl) rfl rfl rfl rfl rfl (kG (fun a H=>Ez.mv H rfl) rfl rfl rfl rfl rfl (kG (fun a H=>Ez.mv H rfl) rfl rfl rfl rfl rfl (kG (fun a H=>Ez.eql (r:=false) H rfl rfl (by (simp;exact hpv))) rfl rfl rfl rfl rfl (kG (fun a H=>Ez.pkF H rfl rfl) rfl rfl rfl rfl rfl (kL (fun a H=>Ez.pkT H rfl rfl) rfl (kP [(0,_),(9,_),(10,_),(11,_),(16,_),(17,_),(18,_),(19,_),(20,_),(21,_),(22,_),(218,_)] rfl (kW ?_))))))))))))))))));clear H a;intro a H
 refine Cf (H.o rfl) (Wk0 (thn (Sq (Sq (Rl [_,_] (wl H (Ez.mv H rfl) rfl (kL (fun a H=>Ez.eql (r:=false) H rfl rfl (by simp)) rfl (kP [(0,_),(9,_),(10,_),(11,_),(16,_),(17,_),(18,_),(19,_),(20,_),(21,_),(22,_),(221,_)] rfl (kW ?_)))))))));clear H a;intro a H
 refine Cf (H.o rfl) (Wk0 (thn (Sq (Sq (Rl [_,_] (wl H (Ez.mv H rfl) rfl (kL (fun a H=>Ez.eql (r:=true) H rfl rfl (by simp)) rfl (kP [(0,_),(9,_),(10,_),(11,_),(17,_),(19,_),(20,_),(21,_),(22,_),(229,_)] rfl (kW ?_)))))))));clear H a;intro a H
 refine Ct (H.o rfl) (Sq (Sq (Rl [_,_] (wl H (Ez.mv H rfl) rfl (kL (fun a H=>Ez.gtr (r:=false) H rfl rfl (by (simp))) rfl (kP [(0,_),(9,_),(10,_),(11,_),(17,_),(19,_),(20,_),(21,_),(22,_),(231,_)] rfl (kW ?_)))))));clear H a;intro a H
 refine Cf (H.o rfl) (Wk0 (thn (Sq ?_)))
 obtain ⟨bz,rfl,_,hWz⟩:=hS.blk (by have:=hS.le;omega)
 have hle:=hS.le
 refine Rl [_,_] (wl H (Ez.mv H rfl) rfl ?_);clear H a;intro a H
 refine wk H cf166 (reverse bz 4 c X wL hWz hle (by omega) (by omega)) rfl rfl ?_
 rintro _ w1 ⟨X3,rfl,hW3,hX3,hF3⟩
 refine ⟨_,rfl,?_⟩;clear H a;intro a H
 refine kP [(0,_),(9,_),(10,_),(11,_),(19,_),(21,_),(22,_)] rfl (kW (kS (kR [_,_,_] (kM rfl rfl ?_)))) a H;clear H a;intro a H
 refine wk H cf84 (Kc _ 4 c X3 w1 (Sl.of hW3 hle (by omega)) (by omega)) rfl rfl ?_
 rintro _ w1 ⟨j,rfl,k1,k2,k3,k4,rfl⟩
 refine ⟨_,rfl,?_⟩;clear H a;intro a H
 refine wl H (Ez.asn H rfl) rfl (kP [(0,_),(9,_),(10,_),(11,_),(19,_),(21,_),(22,_)] rfl (kW (kS (kR [_,_] (kM rfl rfl (kL (fun a H=>Ez.gtr (r:=false) H rfl rfl (by simp)) rfl (kP [(0,_),(9,_),(10,_),(11,_),(19,_),(21,_),(22,_),(247,_)] rfl (kW ?_))))))));clear H a;intro a H
 refine Cf (H.o rfl) (Wk0 (thn (Sq (Rl [_,_] (wl H (Ez.mv H rfl) rfl (kA rfl rfl (kP [(8,_),(9,_),(10,_),(11,_),(22,_)] rfl (kW (kS (kS (kR [_,_] (kM rfl rfl (kL (fun a H=>Ez.geq (r:=false) H rfl rfl (by (simp))) rfl (kP [(8,_),(9,_),(10,_),(11,_),(22,_),(270,_)] rfl (kW ?_)))))))))))))));clear H a;intro a H
 refine Cf (H.o rfl) (Wk0 (thn (Wr ?_)))
 refine rt4 H rfl rfl rfl rfl rfl ?_
 refine ⟨_,j,c,X3,rfl,k2,k1,?_,k4,hfr,hRe.fr hF3 (fun o e=>by have h1:=hfr bz 0 (Qt.2 rfl);have e:b=bz:=e;omega),hF.hi (hF3.mono fun x o _ e=>hfr x 0 (Qt.2 e))⟩
 have g0:X3 0=X 3:=hX3 0 (by omega)
 have g1:X3 1=X 2:=hX3 1 (by omega)
 have g2:X3 2=X 1:=hX3 2 (by omega)
 have g3:X3 3=X 0:=hX3 3 (by omega)
 rw [k3,four,g0,g1,g2,g3,hX 0 (by omega),hX 1 (by omega),hX 2 (by omega),hX 3 (by omega)]
 have e1:hxv D 64=hxv D 48*BB+hxv (fun x=>D (16*3+x)) 16:=hxv_add D 48 16
 have e2:hxv D 48=hxv D 32*BB+hxv (fun x=>D (16*2+x)) 16:=hxv_add D 32 16
 have e3:hxv D 32=hxv D 16*BB+hxv (fun x=>D (16*1+x)) 16:=hxv_add D 16 16
 have e0:hxv (fun x=>D (16*0+x)) 16=hxv D 16:=by congr 1;funext x;congr 1;omega
 rw [e1,e2,e3,e0]
 grind
end
end Go.Proofs.YtijgloklmiokhaaGreatDoor
