/-
For every slice of steps laws.FnScalarRun returns true: over the steps that spec.ScalarSteps takes, impl.ScalarRun and spec.ScalarRun hand back the same four scalars; the argument reads as before.
Conditions: the listed package-level variables (io.EOF, bigall's two errors and four thresholds) hold at the call what the program's text lays (the card ties them; pruned copy, the door's looks 'later').
-/
import Derived.Test.YtijgloklmiokhaaGreatDoorR5
set_option linter.unusedSimpArgs false
set_option linter.unusedVariables false
namespace Go.Proofs.YtijgloklmiokhaaGreatDoor
open Go.RowKit
section
set_option maxRecDepth 8000
theorem u256SubMod (A B M:Nat->Int) (w:World) (hWA:W4 A) (hWB:W4 B) (hWM:W4 M) (hAM:nv A 4 < nv M 4) (hBM:nv B 4 < nv M 4):
 Calls Tryz.prog 28 #[.agg (wd4 A).toArray,.agg (wd4 B).toArray,.agg (wd4 M).toArray] w fun e w'=>∃X,e=.returned (.agg (wd4 X).toArray)/\W4 X/\nv X 4=(nv A 4 - nv B 4) % nv M 4/\Fr NoT w w':=by
 obtain ⟨w0,hw0⟩:∃w0,w0=w:=⟨w,rfl⟩
 rw [<-hw0]
 clear hw0 w
 refine Qd (vs:= [.agg (wd4 A).toArray,.agg (wd4 B).toArray,.agg (wd4 M).toArray]) Tryz.func28 rfl rfl ?_
 intro a H
 replace H:Hd a 19 [] [(0,.agg (wd4 A).toArray),(1,.agg (wd4 B).toArray),(2,.agg (wd4 M).toArray)]:=H
 refine Sq (Rl [_,_,_,_] (wl H (Ez.boxR H rfl) rfl (kL (fun a H=>Ez.boxR H rfl) rfl (kL (fun a H=>Ez.boxR H rfl) rfl (kL (fun a H=>Ez.al30) rfl (kP [(3,_),(4,_),(5,_),(6,_)] rfl (kW ?_)))))));clear H a;intro a H
 have hF:=Fr.refl NoT w0
 have hsz0:=hF.size
 have hA:=Rg.new w0 (wd4 A) 30
 have hFn:=(Fr.refl NoT w0).alloc (.cells (wd4 A).toArray 30)
 have hF:=hF.alloc (.cells (wd4 A).toArray 30)
 obtain ⟨k1,hk1⟩:∃g,g=w0.heap.size:=⟨_,rfl⟩
 rw [<-hk1] at H hA
 have hk1l:w0.heap.size<=k1:=by first | omega | (rw [hk1];exact hsz0)
 have hsz0:=hF.size
 generalize w0.alloc (.cells (wd4 A).toArray 30)=wA0 at*
 have hB:=Rg.new wA0 (wd4 B) 30
 have hFn:=(Fr.refl NoT wA0).alloc (.cells (wd4 B).toArray 30)
 have hF:=hF.alloc (.cells (wd4 B).toArray 30)
 have hl_A_k2:=hA.lt (j:=0) (Nat.succ_pos 3)
 have hA:=hA.fr0 hFn
 obtain ⟨k2,hk2⟩:∃g,g=wA0.heap.size:=⟨_,rfl⟩
 rw [<-hk2] at H hB
 have hk2l:w0.heap.size<=k2:=by first | omega | (rw [hk2];exact hsz0)
 have hsz0:=hF.size
 generalize wA0.alloc (.cells (wd4 B).toArray 30)=wA1 at*
 have hM:=Rg.new wA1 (wd4 M) 30
 have hFn:=(Fr.refl NoT wA1).alloc (.cells (wd4 M).toArray 30)
 have hF:=hF.alloc (.cells (wd4 M).toArray 30)
 have hl_A_k3:=hA.lt (j:=0) (Nat.succ_pos 3)
 have hA:=hA.fr0 hFn
 have hl_B_k3:=hB.lt (j:=0) (Nat.succ_pos 3)
 have hB:=hB.fr0 hFn
 obtain ⟨k3,hk3⟩:∃g,g=wA1.heap.size:=⟨_,rfl⟩
 rw [<-hk3] at H hM
 have hk3l:w0.heap.size<=k3:=by first | omega | (rw [hk3];exact hsz0)
 have hsz0:=hF.size
 generalize wA1.alloc (.cells (wd4 M).toArray 30)=wA2 at*
 have hR:=Rg.new wA2 (wd4 Z0) 30
 have hFn:=(Fr.refl NoT wA2).alloc (.cells (wd4 Z0).toArray 30)
 have hF:=hF.alloc (.cells (wd4 Z0).toArray 30)
 have hl_A_kr:=hA.lt (j:=0) (Nat.succ_pos 3)
 have hA:=hA.fr0 hFn
 have hl_B_kr:=hB.lt (j:=0) (Nat.succ_pos 3)
 have hB:=hB.fr0 hFn
 have hl_M_kr:=hM.lt (j:=0) (Nat.succ_pos 3)
 have hM:=hM.fr0 hFn
 obtain ⟨kr,hkr⟩:∃g,g=wA2.heap.size:=⟨_,rfl⟩
 rw [<-hkr] at H hR
 have hkrl:w0.heap.size<=kr:=by first | omega | (rw [hkr];exact hsz0)
 have hsz0:=hF.size
 generalize wA2.alloc (.cells (wd4 Z0).toArray 30)=wR at*
 have hra:=Qv hWA
 have hrb:=Qv hWB
 have hrm:=Qv hWM
 refine Sq (Sq (Rl [_,_,_] (wl H (Ez.ld30 H rfl (hA)) rfl (kL (fun a H=>Ez.ld30 H rfl (hB)) rfl ?_))));clear H a;intro a H
 refine wk H cf44 (u256Less A B wR hWA hWB) rfl rfl ?_
 rintro _ w1 ⟨rfl,hF1⟩
 refine ⟨_,rfl,?_⟩;clear H a;intro a H
 have hA:=hA.fr0 hF1
 have hB:=hB.fr0 hF1
 have hM:=hM.fr0 hF1
 have hR:=hR.fr0 hF1
 have hF:=hF.trans hF1
 obtain ⟨wS,hwS⟩:∃z,z=w1:=⟨w1,rfl⟩
 rw [<-hwS] at hA hB hM hR hF ⊢
 clear hwS
 refine kP [(3,_),(4,_),(5,_),(6,_),(9,_)] rfl (kW ?_) a H;clear H a;intro a H
 refine Cs (H.o rfl) (fun hb0=>?_) (fun hb0=>?_)
 ·have hlt:=Dt hb0
  refine Rl [_,_,_,_,_,_,_] (wl H (Ez.ld30 H rfl (hA)) rfl (kL (fun a H=>Ez.ld30 H rfl (hM)) rfl ?_));clear H a;intro a H
  refine wk H cf48 (u256Sum A M wS hWA hWM) rfl rfl ?_
  rintro _ w1 ⟨X,c,rfl,hWX,hc,hv,hF1⟩
  refine ⟨_,rfl,?_⟩;clear H a;intro a H
  have hA:=hA.fr0 hF1
  have hB:=hB.fr0 hF1
  have hR:=hR.fr0 hF1
  have hF:=hF.trans hF1
  obtain ⟨wT,hwT⟩:∃z,z=w1:=⟨w1,rfl⟩
  rw [<-hwT] at hA hB hR hF ⊢
  clear hwT
  refine wl H (Ez.mv H rfl) rfl (kL (fun a H=>Ez.ext0 H rfl) rfl (kL (fun a H=>Ez.ext1 H rfl) rfl ?_));clear H a;intro a H
  refine wls H (Ez.st30 H rfl rfl hA rfl) ?_;clear H;intro H
  refine kP [(3,_),(4,_),(6,_)] rfl (kW ?_) a H;clear H a;intro a H
  obtain ⟨hZ,hfs⟩:=hA.set (vs:=wd4 X) rfl
  have hB:=hB.fr hfs (fun j _ _ f=>by have f:=f.1;omega)
  have hR:=hR.fr hfs (fun j _ _ f=>by have f:=f.1;omega)
  have hF:=hF.hi (hfs.up fun i j ht=>by have ht:=ht.1;omega)
  clear hfs
  generalize wT.setCells k1 0 (wd4 X)=wU at*
  have hWZ:=hWX
  have hz:(nv X 4 - nv B 4) % 115792089237316195423570985008687907853269984665640564039457584007913129639936=(nv A 4 - nv B 4) % nv M 4:=by
   unfold M256 at hv
   have e:nv X 4 - nv B 4=(nv A 4+nv M 4 - nv B 4) - 115792089237316195423570985008687907853269984665640564039457584007913129639936*c:=by omega
   rw [e,Int.sub_mul_emod_self_left,Int.emod_eq_of_lt (by omega) (by omega)]
   have e2:nv A 4 - nv B 4=(nv A 4+nv M 4 - nv B 4) - nv M 4:=by omega
   rw [e2,Int.sub_emod_right,Int.emod_eq_of_lt (by omega) (by omega)]
  refine Sq (Rl [_,_,_,_] (wl H (Ez.ld30 H rfl (hZ)) rfl (kL (fun a H=>Ez.ld30 H rfl (hB)) rfl ?_)));clear H a;intro a H
  refine wk H cf45 (u256Sub _ B _ hWZ hWB) rfl rfl ?_
  rintro _ w1 ⟨Y,rfl,hWY,hvY,hF2⟩
  refine ⟨_,rfl,?_⟩;clear H a;intro a H
  have hR:=hR.fr0 hF2
  have hF:=hF.trans hF2
  refine wls H (Ez.st30 H rfl rfl hR rfl) ?_;clear H;intro H
  refine kP [(6,_)] rfl (kW ?_) a H;clear H a;intro a H
  refine Wr ?_
  obtain ⟨hR3,hfs⟩:=hR.set (vs:=wd4 Y) rfl
  have hF3:=hF.hi (hfs.up fun i j ht=>by have ht:=ht.1;omega)
  exact rt30 H rfl rfl hR3 ⟨_,rfl,hWY,by rw [hvY,hz],hF3⟩
 have hge:=Df hb0
 have hZ:=hA
 have hWZ:=hWA
 have hz:(nv A 4 - nv B 4) % 115792089237316195423570985008687907853269984665640564039457584007913129639936=(nv A 4 - nv B 4) % nv M 4:=by rw [Int.emod_eq_of_lt (by omega) (by omega),Int.emod_eq_of_lt (by omega) (by omega)]
 refine Wk0 (thn (Sq (Rl [_,_,_,_] (wl H (Ez.ld30 H rfl (hZ)) rfl (kL (fun a H=>Ez.ld30 H rfl (hB)) rfl ?_)))));clear H a;intro a H
 refine wk H cf45 (u256Sub _ B _ hWZ hWB) rfl rfl ?_
 rintro _ w1 ⟨Y,rfl,hWY,hvY,hF2⟩
 refine ⟨_,rfl,?_⟩;clear H a;intro a H
 have hR:=hR.fr0 hF2
 have hF:=hF.trans hF2
 refine wls H (Ez.st30 H rfl rfl hR rfl) ?_;clear H;intro H
 refine kP [(6,_)] rfl (kW ?_) a H;clear H a;intro a H
 refine Wr ?_
 obtain ⟨hR3,hfs⟩:=hR.set (vs:=wd4 Y) rfl
 have hF3:=hF.hi (hfs.up fun i j ht=>by have ht:=ht.1;omega)
 exact rt30 H rfl rfl hR3 ⟨_,rfl,hWY,by rw [hvY,hz],hF3⟩
theorem mm_dbl {a D m o:Int} (h:o=(a*D) % m):(o+o) % m=(a*(2*D)) % m:=by
 rw [h,<-Int.add_emod,show a*(2*D)=a*D+a*D by grind]
theorem mm_add {a D m o:Int} (ha:a % m=a) (h:o=(a*D) % m):(o+a) % m=(a*(D+1)) % m:=by
 rw [h,show a*(D+1)=a*D+a by grind,Int.add_emod (a*D) a m,ha,Int.emod_add_emod,Int.add_emod,ha]
theorem u256MulMod (A B M:Nat->Int) (w:World) (hWA:W4 A) (hWB:W4 B) (hWM:W4 M) (hAM:nv A 4 < nv M 4):
 Calls Tryz.prog 27 #[.agg (wd4 A).toArray,.agg (wd4 B).toArray,.agg (wd4 M).toArray] w fun e w'=>∃X,e=.returned (.agg (wd4 X).toArray)/\W4 X/\nv X 4=(nv A 4*nv B 4) % nv M 4/\Fr NoT w w':=by
 obtain ⟨w0,hw0⟩:∃w0,w0=w:=⟨w,rfl⟩
 rw [<-hw0]
 clear hw0 w
 refine Qd (vs:= [.agg (wd4 A).toArray,.agg (wd4 B).toArray,.agg (wd4 M).toArray]) Tryz.func27 rfl rfl ?_
 intro a H
 replace H:Hd a 31 [] [(0,.agg (wd4 A).toArray),(1,.agg (wd4 B).toArray),(2,.agg (wd4 M).toArray)]:=H
 refine Sq (Rl [_,_,_,_] (wl H (Ez.boxR H rfl) rfl (kL (fun a H=>Ez.boxR H rfl) rfl (kL (fun a H=>Ez.boxR H rfl) rfl (kL (fun a H=>Ez.al30) rfl (kP [(3,_),(4,_),(5,_),(6,_)] rfl (kW ?_)))))));clear H a;intro a H
 have hF:=Fr.refl NoT w0
 have hsz0:=hF.size
 have hA:=Rg.new w0 (wd4 A) 30
 have hFn:=(Fr.refl NoT w0).alloc (.cells (wd4 A).toArray 30)
 have hF:=hF.alloc (.cells (wd4 A).toArray 30)
 obtain ⟨k1,hk1⟩:∃g,g=w0.heap.size:=⟨_,rfl⟩
 rw [<-hk1] at H hA
 have hk1l:w0.heap.size<=k1:=by first | omega | (rw [hk1];exact hsz0)
 have hsz0:=hF.size
 generalize w0.alloc (.cells (wd4 A).toArray 30)=wA0 at*
 have hB:=Rg.new wA0 (wd4 B) 30
 have hFn:=(Fr.refl NoT wA0).alloc (.cells (wd4 B).toArray 30)
 have hF:=hF.alloc (.cells (wd4 B).toArray 30)
 have hl_A_k2:=hA.lt (j:=0) (Nat.succ_pos 3)
 have hA:=hA.fr0 hFn
 obtain ⟨k2,hk2⟩:∃g,g=wA0.heap.size:=⟨_,rfl⟩
 rw [<-hk2] at H hB
 have hk2l:w0.heap.size<=k2:=by first | omega | (rw [hk2];exact hsz0)
 have hsz0:=hF.size
 generalize wA0.alloc (.cells (wd4 B).toArray 30)=wA1 at*
 have hM:=Rg.new wA1 (wd4 M) 30
 have hFn:=(Fr.refl NoT wA1).alloc (.cells (wd4 M).toArray 30)
 have hF:=hF.alloc (.cells (wd4 M).toArray 30)
 have hl_A_k3:=hA.lt (j:=0) (Nat.succ_pos 3)
 have hA:=hA.fr0 hFn
 have hl_B_k3:=hB.lt (j:=0) (Nat.succ_pos 3)
 have hB:=hB.fr0 hFn
 obtain ⟨k3,hk3⟩:∃g,g=wA1.heap.size:=⟨_,rfl⟩
 rw [<-hk3] at H hM
 have hk3l:w0.heap.size<=k3:=by first | omega | (rw [hk3];exact hsz0)
 have hsz0:=hF.size
 generalize wA1.alloc (.cells (wd4 M).toArray 30)=wA2 at*
 have hR:=Rg.new wA2 (wd4 Z0) 30
 have hFn:=(Fr.refl NoT wA2).alloc (.cells (wd4 Z0).toArray 30)
 have hF:=hF.alloc (.cells (wd4 Z0).toArray 30)
 have hl_A_kr:=hA.lt (j:=0) (Nat.succ_pos 3)
 have hA:=hA.fr0 hFn
 have hl_B_kr:=hB.lt (j:=0) (Nat.succ_pos 3)
 have hB:=hB.fr0 hFn
 have hl_M_kr:=hM.lt (j:=0) (Nat.succ_pos 3)
 have hM:=hM.fr0 hFn
 obtain ⟨kr,hkr⟩:∃g,g=wA2.heap.size:=⟨_,rfl⟩
 rw [<-hkr] at H hR
 have hkrl:w0.heap.size<=kr:=by first | omega | (rw [hkr];exact hsz0)
 have hsz0:=hF.size
 generalize wA2.alloc (.cells (wd4 Z0).toArray 30)=wR at*
 have hra:=Qv hWA
 have hrb:=Qv hWB
 have hrm:=Qv hWM
 refine Sq (Rl [_] (wl H (Ez.al30) rfl (kW ?_)));clear H a;intro a H
 have hX:=Rg.new wR (wd4 Z0) 30
 have hFn:=(Fr.refl NoT wR).alloc (.cells (wd4 Z0).toArray 30)
 have hF:=hF.alloc (.cells (wd4 Z0).toArray 30)
 have hl1:=hA.lt (j:=0) (Nat.succ_pos 3)
 have hl2:=hB.lt (j:=0) (Nat.succ_pos 3)
 have hl3:=hM.lt (j:=0) (Nat.succ_pos 3)
 have hl4:=hR.lt (j:=0) (by decide)
 have hA:=hA.fr0 hFn
 have hB:=hB.fr0 hFn
 have hM:=hM.fr0 hFn
 have hR:=hR.fr0 hFn
 obtain ⟨k4,hk4⟩:∃g,g=wR.heap.size:=⟨_,rfl⟩
 rw [<-hk4] at H hX
 have hk4l:w0.heap.size<=k4:=by first | omega | (rw [hk4];exact hsz0)
 have hsz0:=hF.size
 generalize wR.alloc (.cells (wd4 Z0).toArray 30)=wC at*
 refine Sq (Sq (Rl [_] (wl H (Ez.asn H rfl) rfl (kW ?_))));clear H a;intro a H
 refine Wb ?_
 refine Qo (fun mm a w=>∃(k:Nat) (X:Nat->Int),mm=k/\k<=256/\Hd a 31 [] [(3,pz k1),(4,pz k2),(5,pz k3),(6,pz kr),(7,pz k4),(8,.int .i64 ((k:Int) - 1))]/\W4 X/\nv X 4=(nv A 4*(nv B 4 / 2 ^ k)) % nv M 4/\Rg w k1 0 (wd4 A)/\Rg w k2 0 (wd4 B)/\Rg w k3 0 (wd4 M)/\Rg w kr 0 (wd4 Z0)/\Rg w k4 0 (wd4 X)/\Fr NoT w0 w) (256) ?_ ?_
 ·replace H:Hd a 31 [] [(3,_),(4,_),(5,_),(6,_),(7,_),(8,_)]:=H.pick [3,4,5,6,7,8]
  refine ⟨256,Z0,rfl,Nat.le_refl _,H,Z0_W4,?_,hA,hB,hM,hR,hX,hF⟩
  have e:nv B 4 / 2 ^ 256=0:=Int.ediv_eq_zero_of_lt hrb.1 (by have h:(2:Int) ^ 256=115792089237316195423570985008687907853269984665640564039457584007913129639936:=(by decide);omega)
  rw [Z0_nv,e,Int.mul_zero,Int.zero_emod]
 clear H a
 intro mm a w hI
 clear hA hB hM hR hX hF hFn hsz0
 obtain ⟨k,X,hmm,hk,H,hWX,hv,hA,hB,hM,hR,hX,hF⟩:=hI
 refine Sq (Sq (Rl [_,_] (wl H (Ez.mv H rfl) rfl (kL (fun a H=>Ez.geq H rfl rfl (rfl)) rfl (kP [(3,_),(4,_),(5,_),(6,_),(7,_),(8,_),(10,_)] rfl (kW ?_))))));clear H a;intro a H
 refine Cs (H.o rfl) (fun hb0=>?_) (fun hb0=>?_)
 ·have hk0:1<=k:=by have:=Dt hb0;omega
  refine Wk0 (thn (Sq (Wb (Sq (Rl [_,_,_,_,_] (wl H (Ez.ld30 H rfl (hX)) rfl (kL (fun a H=>Ez.ld30 H rfl (hX)) rfl (kL (fun a H=>Ez.ld30 H rfl (hM)) rfl ?_))))))));clear H a;intro a H
  refine wk H cf26 (u256AddMod X X M w hWX hWX hWM (by rw [hv];exact El _ (by omega)) (by rw [hv];exact El _ (by omega))) rfl rfl ?_
  rintro _ w1 ⟨X1,rfl,hWX1,hv1,hF1⟩
  refine ⟨_,rfl,?_⟩;clear H a;intro a H
  have hA:=hA.fr0 hF1
  have hB:=hB.fr0 hF1
  have hM:=hM.fr0 hF1
  have hR:=hR.fr0 hF1
  have hX:=hX.fr0 hF1
  have hF:=hF.trans hF1
  obtain ⟨wS,hwS⟩:∃z,z=w1:=⟨w1,rfl⟩
  rw [<-hwS] at hA hB hM hR hX hF ⊢
  clear hwS
  refine wls H (Ez.st30 H rfl rfl hX rfl) ?_;clear H;intro H
  refine kP [(3,_),(4,_),(5,_),(6,_),(7,_),(8,_)] rfl (kW ?_) a H;clear H a;intro a H
  obtain ⟨hX,hfs⟩:=hX.set (vs:=wd4 X1) rfl
  have hA:=hA.fr hfs (fun j _ _ f=>by have f:=f.1;omega)
  have hB:=hB.fr hfs (fun j _ _ f=>by have f:=f.1;omega)
  have hM:=hM.fr hfs (fun j _ _ f=>by have f:=f.1;omega)
  have hR:=hR.fr hfs (fun j _ _ f=>by have f:=f.1;omega)
  have hF:=hF.hi (hfs.up fun i j ht=>by have ht:=ht.1;omega)
  clear hfs hF1
  generalize wS.setCells k4 0 (wd4 X1)=wT at*
  have hv1:=hv1.trans (mm_dbl hv)
  have hst:=div_step (nv B 4) (k - 1)
  rw [show k - 1+1=k by omega] at hst
  have hbit:=nv4_bit hWB (i:=k - 1) (by omega)
  have hBq:=hWB ((k - 1) / 64) (by omega)
  have hBd:U64 (B ((k - 1) / 64) / 2 ^ ((k - 1) % 64)):=by
   have hp:(0:Int) < 2 ^ ((k - 1) % 64):=Int.pow_pos (by decide)
   exact ⟨Int.ediv_nonneg hBq.1 (Int.le_of_lt hp),Int.lt_of_le_of_lt (Int.ediv_le_self _ hBq.1) hBq.2⟩
  refine Sq (Rl [_,_,_,_,_,_,_,_,_] (wl H (Ez.mv H rfl) rfl (kL (fun a H=>Ez.quo H rfl rfl (by omega) (by omega) (by rw [IntKind.wrap_i64];omega) (r:=(((k - 1) / 64:Nat):Int)) (by omega)) rfl (kL (fun a H=>Ez.ix30 H rfl rfl ((k - 1) / 64) rfl (by omega)) rfl (kL (fun a H=>Ez.ld28 H rfl (hB.cell (Q0 (by omega)))) rfl (kM rfl rfl (kL (fun a H=>Ez.rem H rfl rfl (by omega) (by omega) (r:=(((k - 1) % 64:Nat):Int)) (by omega)) rfl (kL (fun a H=>Ez.shrU H rfl rfl ((k - 1) % 64) rfl (by show _<=64;omega) rfl) rfl (kL (fun a H=>Ez.and H rfl rfl (and_one hBd)) rfl (kL (fun a H=>Ez.eql H rfl rfl (rfl)) rfl (kP [(3,_),(4,_),(5,_),(6,_),(7,_),(8,_),(25,_)] rfl (kW ?_))))))))))));clear H a;intro a H
  refine Cs (H.o rfl) (fun hb1=>?_) (fun hb1=>?_)
  ·have hb1:nv B 4 / 2 ^ (k - 1) % 2=1:=by rw [<-hbit];exact Dt hb1
   refine Rl [_,_,_,_,_] (wl H (Ez.ld30 H rfl (hX)) rfl (kL (fun a H=>Ez.ld30 H rfl (hA)) rfl (kL (fun a H=>Ez.ld30 H rfl (hM)) rfl ?_)));clear H a;intro a H
   refine wk H cf26 (u256AddMod X1 A M wT hWX1 hWA hWM (by rw [hv1];exact El _ (by omega)) hAM) rfl rfl ?_
   rintro _ w1 ⟨X2,rfl,hWX3,hv2,hF1⟩
   refine ⟨_,rfl,?_⟩;clear H a;intro a H
   have hA:=hA.fr0 hF1
   have hB:=hB.fr0 hF1
   have hM:=hM.fr0 hF1
   have hR:=hR.fr0 hF1
   have hX:=hX.fr0 hF1
   have hF:=hF.trans hF1
   obtain ⟨wU,hwU⟩:∃z,z=w1:=⟨w1,rfl⟩
   rw [<-hwU] at hA hB hM hR hX hF ⊢
   clear hwU
   refine wls H (Ez.st30 H rfl rfl hX rfl) ?_;clear H;intro H
   replace H:Hd a 31 [] [(3,_),(4,_),(5,_),(6,_),(7,_),(8,_)]:=H.pick [3,4,5,6,7,8]
   refine Wn ?_
   obtain ⟨hX,hfs⟩:=hX.set (vs:=wd4 X2) rfl
   have hA:=hA.fr hfs (fun j _ _ f=>by have f:=f.1;omega)
   have hB:=hB.fr hfs (fun j _ _ f=>by have f:=f.1;omega)
   have hM:=hM.fr hfs (fun j _ _ f=>by have f:=f.1;omega)
   have hR:=hR.fr hfs (fun j _ _ f=>by have f:=f.1;omega)
   have hF:=hF.hi (hfs.up fun i j ht=>by have ht:=ht.1;omega)
   clear hfs hF1
   have hv3:nv X2 4=(nv A 4*(nv B 4 / 2 ^ (k - 1))) % nv M 4:=by
    rw [hv2,mm_add (Int.emod_eq_of_lt hra.1 hAM) hv1,hst,hb1]
   refine bn (thn (Rl [_,_,_] (wl H (Ez.mv H rfl) rfl (kL (fun a H=>Ez.subI (r:=(((k - 1:Nat):Int) - 1)) H rfl rfl (by omega) (by omega)) rfl (kA rfl rfl (kP [(3,_),(4,_),(5,_),(6,_),(7,_),(8,_)] rfl (kW (kP [(3,_),(4,_),(5,_),(6,_),(7,_),(8,_)] rfl ?_))))))));clear H a;intro a H
   exact ⟨k - 1,by omega,k - 1,_,rfl,by omega,H,hWX3,hv3,hA,hB,hM,hR,hX,hF⟩
  have hb1:nv B 4 / 2 ^ (k - 1) % 2=0:=by have h:=Df hb1;rw [hbit] at h;omega
  have hWX3:=hWX1
  have hv3:nv X1 4=(nv A 4*(nv B 4 / 2 ^ (k - 1))) % nv M 4:=by rw [hv1,hst,hb1,Int.add_zero]
  refine Wk0 (bn (thn (Rl [_,_,_] (wl H (Ez.mv H rfl) rfl (kL (fun a H=>Ez.subI (r:=(((k - 1:Nat):Int) - 1)) H rfl rfl (by omega) (by omega)) rfl (kA rfl rfl (kP [(3,_),(4,_),(5,_),(6,_),(7,_),(8,_)] rfl (kW (kP [(3,_),(4,_),(5,_),(6,_),(7,_),(8,_)] rfl ?_)))))))));clear H a;intro a H
  exact ⟨k - 1,by omega,k - 1,_,rfl,by omega,H,hWX3,hv3,hA,hB,hM,hR,hX,hF⟩
 have hk0:k=0:=by have:=Df hb0;omega
 subst hk0
 refine We (thx (thx (bxe (thn (Sq (Rl [_,_] (wl H (Ez.ld30 H rfl (hX)) rfl ?_)))))));clear H a;intro a H
 refine wls H (Ez.st30 H rfl rfl hR rfl) ?_;clear H;intro H
 refine kP [(6,_)] rfl (kW ?_) a H;clear H a;intro a H
 refine Wr ?_
 obtain ⟨hR3,hfs⟩:=hR.set (vs:=wd4 X) rfl
 have hF3:=hF.hi (hfs.up fun i j ht=>by have ht:=ht.1;omega)
 refine rt30 H rfl rfl hR3 ⟨_,rfl,hWX,?_,hF3⟩
 rw [hv,Int.pow_zero,Int.ediv_one]
theorem u256IsOdd (X:Nat->Int) (w:World) (hX:W4 X):
 Calls Tryz.prog 49 #[.agg (wd4 X).toArray] w fun e w'=>e=.returned (.bool (decide (nv X 4 % 2=1)))/\Fr NoT w w':=by
 obtain ⟨w0,hw0⟩:∃w0,w0=w:=⟨w,rfl⟩
 rw [<-hw0]
 clear hw0 w
 refine Qd (vs:= [.agg (wd4 X).toArray]) Tryz.func49 rfl rfl ?_
 intro a H
 replace H:Hd a 7 [] [(0,.agg (wd4 X).toArray)]:=H
 refine Sq (Rl [_,_] (wl H (Ez.boxR H rfl) rfl (kA rfl rfl (kP [(1,_),(2,_)] rfl (kW ?_)))));clear H a;intro a H
 have hF:=Fr.refl NoT w0
 have hsz0:=hF.size
 have hB:=Rg.new w0 (wd4 X) 30
 have hFn:=(Fr.refl NoT w0).alloc (.cells (wd4 X).toArray 30)
 have hF:=hF.alloc (.cells (wd4 X).toArray 30)
 obtain ⟨k1,hk1⟩:∃g,g=w0.heap.size:=⟨_,rfl⟩
 rw [<-hk1] at H hB
 have hk1l:w0.heap.size<=k1:=by first | omega | (rw [hk1];exact hsz0)
 have hsz0:=hF.size
 generalize w0.alloc (.cells (wd4 X).toArray 30)=wA at*
 have hx0:=hX 0 (by decide)
 unfold U64 at hx0
 refine Sq (Rl [_,_,_,_,_] (wl H (Ez.ix30 H rfl rfl 0 rfl (by decide)) rfl (kL (fun a H=>Ez.ld28 H rfl (hB.cell (Q0 (by decide)))) rfl (kL (fun a H=>Ez.rem H rfl rfl hx0.1 (by decide) rfl) rfl (kL (fun a H=>Ez.eql H rfl rfl (rfl)) rfl (kA rfl rfl (kP [(2,_)] rfl (kW ?_))))))));clear H a;intro a H
 refine Wr ?_
 refine rt1 H rfl rfl ?_
 refine ⟨?_,hF⟩
 have e:nv X 4 % 2=X 0 % 2:=by rw [nv4];omega
 rw [e]
def nxt (A:Nat->Int) (c:Int) (k:Nat):Int:=if k < 3 then A (k+1) else c
theorem half_end {A X:Nat->Int} {c:Int} (hA:W4 A) (h:∀j,j < 4->X j=A j / 2+nxt A c j % 2*9223372036854775808) (hc:c=0\/c=1):W4 X/\nv X 4=(nv A 4+c*M256) / 2:=by
 have h0:=h 0 (by decide);have h1:=h 1 (by decide);have h2:=h 2 (by decide);have h3:=h 3 (by decide)
 simp only [nxt] at h0 h1 h2 h3
 have a0:=hA 0 (by decide);have a1:=hA 1 (by decide);have a2:=hA 2 (by decide);have a3:=hA 3 (by decide)
 unfold U64 at*
 refine ⟨fun j hj=>?_,?_⟩
 ·rcases (show j=0\/j=1\/j=2\/j=3 by omega) with rfl | rfl | rfl | rfl
  ·rw [h0];simp;unfold U64;omega
  ·rw [h1];simp;unfold U64;omega
  ·rw [h2];simp;unfold U64;omega
  rw [h3];simp;unfold U64;omega
 rw [nv4,nv4,h0,h1,h2,h3]
 unfold M256
 simp
 omega
theorem u256Half (A:Nat->Int) (c:Int) (w:World) (hWA:W4 A) (hc:c=0\/c=1):
 Calls Tryz.prog 50 #[.agg (wd4 A).toArray,.int .u64 c] w fun e w'=>∃X,e=.returned (.agg (wd4 X).toArray)/\W4 X/\nv X 4=(nv A 4+c*M256) / 2/\Fr NoT w w':=by
 obtain ⟨w0,hw0⟩:∃w0,w0=w:=⟨w,rfl⟩
 rw [<-hw0]
 clear hw0 w
 refine Qd (vs:= [.agg (wd4 A).toArray,.int .u64 c]) Tryz.func50 rfl rfl ?_
 intro a H
 replace H:Hd a 29 [] [(0,.agg (wd4 A).toArray),(1,.int .u64 c)]:=H
 refine Sq (Rl [_,_] (wl H (Ez.boxR H rfl) rfl (kL (fun a H=>Ez.al30) rfl (kP [(1,_),(2,_),(4,_)] rfl (kW ?_)))));clear H a;intro a H
 have hF:=Fr.refl NoT w0
 have hsz0:=hF.size
 have hA:=Rg.new w0 (wd4 A) 30
 have hFn:=(Fr.refl NoT w0).alloc (.cells (wd4 A).toArray 30)
 have hF:=hF.alloc (.cells (wd4 A).toArray 30)
 obtain ⟨k1,hk1⟩:∃g,g=w0.heap.size:=⟨_,rfl⟩
 rw [<-hk1] at H hA
 have hk1l:w0.heap.size<=k1:=by first | omega | (rw [hk1];exact hsz0)
 have hsz0:=hF.size
 generalize w0.alloc (.cells (wd4 A).toArray 30)=wA0 at*
 have hR:=Rg.new wA0 (wd4 Z0) 30
 have hFn:=(Fr.refl NoT wA0).alloc (.cells (wd4 Z0).toArray 30)
 have hF:=hF.alloc (.cells (wd4 Z0).toArray 30)
 have hl_A_kr:=hA.lt (j:=0) (Nat.succ_pos 3)
 have hA:=hA.fr0 hFn
 obtain ⟨kr,hkr⟩:∃g,g=wA0.heap.size:=⟨_,rfl⟩
 rw [<-hkr] at H hR
 have hkrl:w0.heap.size<=kr:=by first | omega | (rw [hkr];exact hsz0)
 have hsz0:=hF.size
 generalize wA0.alloc (.cells (wd4 Z0).toArray 30)=wR at*
 have hcu:U64 c:=by unfold U64;omega
 refine Sq (Rl [_] (wl H (Ez.al30) rfl (kW ?_)));clear H a;intro a H
 have hX:=Rg.new wR (wd4 Z0) 30
 have hFn:=(Fr.refl NoT wR).alloc (.cells (wd4 Z0).toArray 30)
 have hF:=hF.alloc (.cells (wd4 Z0).toArray 30)
 have hl1:=hA.lt (j:=0) (Nat.succ_pos 3)
 have hl4:=hR.lt (j:=0) (by decide)
 have hA:=hA.fr0 hFn
 have hR:=hR.fr0 hFn
 obtain ⟨k4,hk4⟩:∃g,g=wR.heap.size:=⟨_,rfl⟩
 rw [<-hk4] at H hX
 have hk4l:w0.heap.size<=k4:=by first | omega | (rw [hk4];exact hsz0)
 have hsz0:=hF.size
 generalize wR.alloc (.cells (wd4 Z0).toArray 30)=wC at*
 refine Sq (Sq (Rl [_] (wl H (Ez.mv H rfl) rfl (kW ?_))));clear H a;intro a H
 refine Wb ?_
 refine Qo (fun mm a w=>∃(k:Nat) (X:Nat->Int),mm=4 - k/\k<=4/\Hd a 29 [] [(1,.int .u64 c),(2,pz k1),(4,pz kr),(5,pz k4),(8,.int .i64 k)]/\(∀j,j < k->X j=A j / 2+nxt A c j % 2*9223372036854775808)/\Rg w k1 0 (wd4 A)/\Rg w kr 0 (wd4 Z0)/\Rg w k4 0 (wd4 X)/\Fr NoT w0 w) (4) ?_ ?_
 ·replace H:Hd a 29 [] [(1,_),(2,_),(4,_),(5,_),(8,_)]:=H.pick [1,2,4,5,8]
  exact ⟨0,Z0,rfl,Nat.zero_le _,H,fun j hj=>by omega,hA,hR,hX,hF⟩
 clear H a
 intro mm a w hI
 clear hA hR hX hF hFn hsz0
 obtain ⟨k,X,hmm,hk,H,hv,hA,hR,hX,hF⟩:=hI
 refine Sq (Rl [_] (wl H (Ez.lss H rfl rfl (rfl)) rfl (kW (kS ?_))));clear H a;intro a H
 refine Cs (H.o rfl) (fun hb0=>?_) (fun hb0=>?_)
 ·have hk4:k < 4:=by have:=Dt hb0;omega
  refine Wk0 (thn (Sq (Wb (Sq (Rl [_,_] (wl H (Ez.mv H rfl) rfl (kA rfl rfl (kP [(1,_),(2,_),(4,_),(5,_),(6,_),(8,_)] rfl (kW (kS (kR [_,_] (kM rfl rfl (kA rfl rfl (kP [(1,_),(2,_),(4,_),(5,_),(6,_),(7,_),(8,_)] rfl (kW (kS (kS (kR [_,_] (kM rfl rfl (kL (fun a H=>Ez.lss H rfl rfl (rfl)) rfl (kP [(1,_),(2,_),(4,_),(5,_),(6,_),(7,_),(8,_),(13,_)] rfl (kW ?_))))))))))))))))))))));clear H a;intro a H
  refine Cs (H.o rfl) (fun hb1=>?_) (fun hb1=>?_)
  ·have hk3:k < 3:=by have:=Dt hb1;omega
   have hyu:=hWA (k+1) (by omega)
   have hyx:A (k+1)=nxt A c k:=by unfold nxt;rw [if_pos hk3]
   refine Rl [_,_,_,_,_] (wl H (Ez.mv H rfl) rfl (kL (fun a H=>Ez.addI (r:=((k+1:Nat):Int)) H rfl rfl (by omega) (by omega)) rfl (kL (fun a H=>Ez.ix30 H rfl rfl (k+1) rfl (by omega)) rfl (kL (fun a H=>Ez.ld28 H rfl (hA.cell (Q0 (by omega)))) rfl (kA rfl rfl (kP [(1,_),(2,_),(4,_),(5,_),(6,_),(7,_),(8,_)] rfl (kW (kR [_,_,_,_,_,_,_,_,_,_] (kM rfl rfl (kM rfl rfl (kL (fun a H=>Ez.ix30 H rfl rfl k rfl hk4) rfl (kL (fun a H=>Ez.ld28 H rfl (hA.cell (Q0 hk4))) rfl (kL (fun a H=>Ez.shrU H rfl rfl 1 rfl (by decide) (rfl)) rfl (kM rfl rfl (kL (fun a H=>Ez.shlU H rfl rfl 63 rfl (by decide) (rfl)) rfl (kL (fun a H=>Ez.or (r:=A k / 2+nxt A c k % 2*9223372036854775808) H rfl rfl (by rw [<-hyx];exact or_half (hWA k hk4) hyu)) rfl (kL (fun a H=>Ez.ix30 H rfl rfl k rfl hk4) rfl ?_)))))))))))))))));clear H a;intro a H
   refine wls H (Ez.st28 H rfl rfl rfl (hX.cell (Q0 hk4)) (hX.fz _ hk4)) ?_;clear H;intro H
   replace H:Hd a 29 [] [(1,_),(2,_),(4,_),(5,_),(8,_)]:=H.pick [1,2,4,5,8]
   refine Wn ?_
   have hfs:Fr (Bl k4) w (w.setCell ⟨k4,0+k,none⟩ (.int .u64 (A k / 2+nxt A c k % 2*9223372036854775808))):=(Fr.refl (Bl k4) w).setCell (fun _=>rfl) _
   have hF2:=hF.hi (hfs.up fun i j ht=>by have ht:i=k4:=ht;omega)
   have hA2:=hA.fr hfs (fun j _ _ f=>by have f:k1=k4:=f;omega)
   have hR2:=hR.fr hfs (fun j _ _ f=>by have f:kr=k4:=f;omega)
   have hX2:=hX.one (v:=.int .u64 0) hk4 (.int .u64 (A k / 2+nxt A c k % 2*9223372036854775808))
   rw [wd4_set hk4] at hX2
   have hv3:∀j,j < k+1->up X k (A k / 2+nxt A c k % 2*9223372036854775808) j=A j / 2+nxt A c j % 2*9223372036854775808:=fun j hj=>by
    by_cases e:j=k
    ·subst e;rw [Qz]
    rw [Qx e];exact hv j (by omega)
   refine bn (thn (Rl [_,_] (wl H (Ez.addI (r:=((k+1:Nat):Int)) H rfl rfl (by omega) (by omega)) rfl (kM rfl rfl (kP [(1,_),(2,_),(4,_),(5,_),(8,_)] rfl (kW (kP [(1,_),(2,_),(4,_),(5,_),(8,_)] rfl ?_)))))));clear H a;intro a H
   exact ⟨4 - (k+1),by omega,k+1,_,rfl,by omega,H,hv3,hA2,hR2,hX2,hF2⟩
  have hk3:¬k < 3:=by have:=Df hb1;omega
  have hyu:=hcu
  have hyx:c=nxt A c k:=by unfold nxt;rw [if_neg hk3]
  refine Wk0 (thn (Rl [_,_,_,_,_,_,_,_,_,_] (wl H (Ez.mv H rfl) rfl (kM rfl rfl (kL (fun a H=>Ez.ix30 H rfl rfl k rfl hk4) rfl (kL (fun a H=>Ez.ld28 H rfl (hA.cell (Q0 hk4))) rfl (kL (fun a H=>Ez.shrU H rfl rfl 1 rfl (by decide) (rfl)) rfl (kM rfl rfl (kL (fun a H=>Ez.shlU H rfl rfl 63 rfl (by decide) (rfl)) rfl (kL (fun a H=>Ez.or (r:=A k / 2+nxt A c k % 2*9223372036854775808) H rfl rfl (by rw [<-hyx];exact or_half (hWA k hk4) hyu)) rfl (kL (fun a H=>Ez.ix30 H rfl rfl k rfl hk4) rfl ?_)))))))))));clear H a;intro a H
  refine wls H (Ez.st28 H rfl rfl rfl (hX.cell (Q0 hk4)) (hX.fz _ hk4)) ?_;clear H;intro H
  replace H:Hd a 29 [] [(1,_),(2,_),(4,_),(5,_),(8,_)]:=H.pick [1,2,4,5,8]
  refine Wn ?_
  have hfs:Fr (Bl k4) w (w.setCell ⟨k4,0+k,none⟩ (.int .u64 (A k / 2+nxt A c k % 2*9223372036854775808))):=(Fr.refl (Bl k4) w).setCell (fun _=>rfl) _
  have hF2:=hF.hi (hfs.up fun i j ht=>by have ht:i=k4:=ht;omega)
  have hA2:=hA.fr hfs (fun j _ _ f=>by have f:k1=k4:=f;omega)
  have hR2:=hR.fr hfs (fun j _ _ f=>by have f:kr=k4:=f;omega)
  have hX2:=hX.one (v:=.int .u64 0) hk4 (.int .u64 (A k / 2+nxt A c k % 2*9223372036854775808))
  rw [wd4_set hk4] at hX2
  have hv3:∀j,j < k+1->up X k (A k / 2+nxt A c k % 2*9223372036854775808) j=A j / 2+nxt A c j % 2*9223372036854775808:=fun j hj=>by
   by_cases e:j=k
   ·subst e;rw [Qz]
   rw [Qx e];exact hv j (by omega)
  refine bn (thn (Rl [_,_] (wl H (Ez.addI (r:=((k+1:Nat):Int)) H rfl rfl (by omega) (by omega)) rfl (kM rfl rfl (kP [(1,_),(2,_),(4,_),(5,_),(8,_)] rfl (kW (kP [(1,_),(2,_),(4,_),(5,_),(8,_)] rfl ?_)))))));clear H a;intro a H
  exact ⟨4 - (k+1),by omega,k+1,_,rfl,by omega,H,hv3,hA2,hR2,hX2,hF2⟩
 have hk4:k=4:=by have:=Df hb0;omega
 subst hk4
 refine We (thx (thx (bxe (thn (Sq (Rl [_,_] (wl H (Ez.ld30 H rfl (hX)) rfl ?_)))))));clear H a;intro a H
 refine wls H (Ez.st30 H rfl rfl hR rfl) ?_;clear H;intro H
 refine kP [(4,_)] rfl (kW ?_) a H;clear H a;intro a H
 refine Wr ?_
 obtain ⟨hR3,hfs⟩:=hR.set (vs:=wd4 X) rfl
 have hF3:=hF.hi (hfs.up fun i j ht=>by have ht:=ht.1;omega)
 obtain ⟨hWX,hvX⟩:=half_end hWA hv hc
 exact rt30 H rfl rfl hR3 ⟨_,rfl,hWX,hvX,hF3⟩
theorem u256HalfMod (A M:Nat->Int) (w:World) (hWA:W4 A) (hWM:W4 M):
 Calls Tryz.prog 51 #[.agg (wd4 A).toArray,.agg (wd4 M).toArray] w fun e w'=>∃X,e=.returned (.agg (wd4 X).toArray)/\W4 X/\nv X 4=(if nv A 4 % 2=1 then nv A 4+nv M 4 else nv A 4) / 2/\Fr NoT w w':=by
 obtain ⟨w0,hw0⟩:∃w0,w0=w:=⟨w,rfl⟩
 rw [<-hw0]
 clear hw0 w
 refine Qd (vs:= [.agg (wd4 A).toArray,.agg (wd4 M).toArray]) Tryz.func51 rfl rfl ?_
 intro a H
 replace H:Hd a 17 [] [(0,.agg (wd4 A).toArray),(1,.agg (wd4 M).toArray)]:=H
 refine Sq (Rl [_,_,_] (wl H (Ez.boxR H rfl) rfl (kL (fun a H=>Ez.boxR H rfl) rfl (kL (fun a H=>Ez.al30) rfl (kP [(2,_),(3,_),(4,_)] rfl (kW ?_))))));clear H a;intro a H
 have hF:=Fr.refl NoT w0
 have hsz0:=hF.size
 have hA:=Rg.new w0 (wd4 A) 30
 have hFn:=(Fr.refl NoT w0).alloc (.cells (wd4 A).toArray 30)
 have hF:=hF.alloc (.cells (wd4 A).toArray 30)
 obtain ⟨k1,hk1⟩:∃g,g=w0.heap.size:=⟨_,rfl⟩
 rw [<-hk1] at H hA
 have hk1l:w0.heap.size<=k1:=by first | omega | (rw [hk1];exact hsz0)
 have hsz0:=hF.size
 generalize w0.alloc (.cells (wd4 A).toArray 30)=wA0 at*
 have hM:=Rg.new wA0 (wd4 M) 30
 have hFn:=(Fr.refl NoT wA0).alloc (.cells (wd4 M).toArray 30)
 have hF:=hF.alloc (.cells (wd4 M).toArray 30)
 have hl_A_k3:=hA.lt (j:=0) (Nat.succ_pos 3)
 have hA:=hA.fr0 hFn
 obtain ⟨k3,hk3⟩:∃g,g=wA0.heap.size:=⟨_,rfl⟩
 rw [<-hk3] at H hM
 have hk3l:w0.heap.size<=k3:=by first | omega | (rw [hk3];exact hsz0)
 have hsz0:=hF.size
 generalize wA0.alloc (.cells (wd4 M).toArray 30)=wA1 at*
 have hR:=Rg.new wA1 (wd4 Z0) 30
 have hFn:=(Fr.refl NoT wA1).alloc (.cells (wd4 Z0).toArray 30)
 have hF:=hF.alloc (.cells (wd4 Z0).toArray 30)
 have hl_A_kr:=hA.lt (j:=0) (Nat.succ_pos 3)
 have hA:=hA.fr0 hFn
 have hl_M_kr:=hM.lt (j:=0) (Nat.succ_pos 3)
 have hM:=hM.fr0 hFn
 obtain ⟨kr,hkr⟩:∃g,g=wA1.heap.size:=⟨_,rfl⟩
 rw [<-hkr] at H hR
 have hkrl:w0.heap.size<=kr:=by first | omega | (rw [hkr];exact hsz0)
 have hsz0:=hF.size
 generalize wA1.alloc (.cells (wd4 Z0).toArray 30)=wR at*
 refine Sq (Rl [_] (wl H (Ez.asn H rfl) rfl (kW (kS (kS (kR [_,_] (kL (fun a H=>Ez.ld30 H rfl (hA)) rfl ?_)))))));clear H a;intro a H
 refine wk H cf49 (u256IsOdd A wR hWA) rfl rfl ?_
 rintro _ w1 ⟨rfl,hF1⟩
 refine ⟨_,rfl,?_⟩;clear H a;intro a H
 have hA:=hA.fr0 hF1
 have hM:=hM.fr0 hF1
 have hR:=hR.fr0 hF1
 have hF:=hF.trans hF1
 obtain ⟨wS,hwS⟩:∃z,z=w1:=⟨w1,rfl⟩
 rw [<-hwS] at hA hM hR hF ⊢
 clear hwS
 refine kP [(2,_),(3,_),(4,_),(5,_),(7,_)] rfl (kW ?_) a H;clear H a;intro a H
 refine Cs (H.o rfl) (fun hb0=>?_) (fun hb0=>?_)
 ·have hodd:=Dt hb0
  refine Rl [_,_,_,_,_,_,_,_] (wl H (Ez.ld30 H rfl (hA)) rfl (kL (fun a H=>Ez.ld30 H rfl (hM)) rfl ?_));clear H a;intro a H
  refine wk H cf48 (u256Sum A M wS hWA hWM) rfl rfl ?_
  rintro _ w1 ⟨X,c,rfl,hWZ,hc,hv,hF1⟩
  refine ⟨_,rfl,?_⟩;clear H a;intro a H
  have hA:=hA.fr0 hF1
  have hR:=hR.fr0 hF1
  have hF:=hF.trans hF1
  obtain ⟨wT,hwT⟩:∃z,z=w1:=⟨w1,rfl⟩
  rw [<-hwT] at hA hR hF ⊢
  clear hwT
  refine wl H (Ez.mv H rfl) rfl (kL (fun a H=>Ez.ext0 H rfl) rfl (kL (fun a H=>Ez.ext1 H rfl) rfl ?_));clear H a;intro a H
  refine wls H (Ez.st30 H rfl rfl hA rfl) ?_;clear H;intro H
  refine wl H (Ez.asn H rfl) rfl (kP [(2,_),(4,_),(5,_)] rfl (kW ?_));clear H a;intro a H
  obtain ⟨hA,hfs⟩:=hA.set (vs:=wd4 X) rfl
  have hR:=hR.fr hfs (fun j _ _ f=>by have f:=f.1;omega)
  have hF:=hF.hi (hfs.up fun i j ht=>by have ht:=ht.1;omega)
  clear hfs
  generalize wT.setCells k1 0 (wd4 X)=wU at*
  have hz:nv X 4+c*M256=(if nv A 4 % 2=1 then nv A 4+nv M 4 else nv A 4):=by rw [if_pos hodd];exact hv
  refine Sq (Rl [_,_,_,_] (wl H (Ez.ld30 H rfl (hA)) rfl (kM rfl rfl ?_)));clear H a;intro a H
  refine wk H cf50 (u256Half _ _ _ hWZ hc) rfl rfl ?_
  rintro _ w1 ⟨Y,rfl,hWY,hvY,hF2⟩
  refine ⟨_,rfl,?_⟩;clear H a;intro a H
  have hR:=hR.fr0 hF2
  have hF:=hF.trans hF2
  refine wls H (Ez.st30 H rfl rfl hR rfl) ?_;clear H;intro H
  refine kP [(4,_)] rfl (kW ?_) a H;clear H a;intro a H
  refine Wr ?_
  obtain ⟨hR3,hfs⟩:=hR.set (vs:=wd4 Y) rfl
  have hF3:=hF.hi (hfs.up fun i j ht=>by have ht:=ht.1;omega)
  exact rt30 H rfl rfl hR3 ⟨_,rfl,hWY,by rw [hvY,hz],hF3⟩
 have heven:=Df hb0
 have hWZ:=hWA
 have hc:(0:Int)=0\/(0:Int)=1:=.inl rfl
 have hz:nv A 4+0*M256=(if nv A 4 % 2=1 then nv A 4+nv M 4 else nv A 4):=by rw [if_neg heven];omega
 refine Wk0 (thn (Sq (Rl [_,_,_,_] (wl H (Ez.ld30 H rfl (hA)) rfl (kM rfl rfl ?_)))));clear H a;intro a H
 refine wk H cf50 (u256Half _ _ _ hWZ hc) rfl rfl ?_
 rintro _ w1 ⟨Y,rfl,hWY,hvY,hF2⟩
 refine ⟨_,rfl,?_⟩;clear H a;intro a H
 have hR:=hR.fr0 hF2
 have hF:=hF.trans hF2
 refine wls H (Ez.st30 H rfl rfl hR rfl) ?_;clear H;intro H
 refine kP [(4,_)] rfl (kW ?_) a H;clear H a;intro a H
 refine Wr ?_
 obtain ⟨hR3,hfs⟩:=hR.set (vs:=wd4 Y) rfl
 have hF3:=hF.hi (hfs.up fun i j ht=>by have ht:=ht.1;omega)
 exact rt30 H rfl rfl hR3 ⟨_,rfl,hWY,by rw [hvY,hz],hF3⟩
theorem redBytes (Y M:Nat->Int) (w:World) (hY:B8 Y 32) (hWM:W4 M):
 Calls Tryz.prog 25 #[.agg (by8 Y 32).toArray,.agg (wd4 M).toArray] w fun e w'=>∃X,e=.returned (.agg (wd4 X).toArray)/\W4 X/\nv X 4=(if be Y 32 < nv M 4 then be Y 32 else be Y 32 - nv M 4)/\Fr NoT w w':=by
 obtain ⟨w0,hw0⟩:∃w0,w0=w:=⟨w,rfl⟩
 rw [<-hw0]
 clear hw0 w
 refine Qd (vs:= [.agg (by8 Y 32).toArray,.agg (wd4 M).toArray]) Tryz.func25 rfl rfl ?_
 intro a H
 replace H:Hd a 9 [] [(0,.agg (by8 Y 32).toArray),(1,.agg (wd4 M).toArray)]:=H
 refine Sq (Rl [_,_,_] (wl H (Ez.boxR H rfl) rfl (kL (fun a H=>Ez.boxR H rfl) rfl (kL (fun a H=>Ez.al30) rfl (kP [(2,_),(3,_),(4,_)] rfl (kW ?_))))));clear H a;intro a H
 have hF:=Fr.refl NoT w0
 have hsz0:=hF.size
 have hB:=Rg.new w0 (by8 Y 32) 24
 have hFn:=(Fr.refl NoT w0).alloc (.cells (by8 Y 32).toArray 24)
 have hF:=hF.alloc (.cells (by8 Y 32).toArray 24)
 obtain ⟨k1,hk1⟩:∃g,g=w0.heap.size:=⟨_,rfl⟩
 rw [<-hk1] at H hB
 have hk1l:w0.heap.size<=k1:=by first | omega | (rw [hk1];exact hsz0)
 have hsz0:=hF.size
 generalize w0.alloc (.cells (by8 Y 32).toArray 24)=wA at*
 have hM:=Rg.new wA (wd4 M) 30
 have hFn:=(Fr.refl NoT wA).alloc (.cells (wd4 M).toArray 30)
 have hF:=hF.alloc (.cells (wd4 M).toArray 30)
 have hB:=hB.fr0 hFn
 obtain ⟨k2,hk2⟩:∃g,g=wA.heap.size:=⟨_,rfl⟩
 rw [<-hk2] at H hM
 have hk2l:w0.heap.size<=k2:=by first | omega | (rw [hk2];exact hsz0)
 have hsz0:=hF.size
 generalize wA.alloc (.cells (wd4 M).toArray 30)=wB at*
 have hR:=Rg.new wB (wd4 Z0) 30
 have hFn:=(Fr.refl NoT wB).alloc (.cells (wd4 Z0).toArray 30)
 have hF:=hF.alloc (.cells (wd4 Z0).toArray 30)
 have hB:=hB.fr0 hFn
 have hM:=hM.fr0 hFn
 obtain ⟨k3,hk3⟩:∃g,g=wB.heap.size:=⟨_,rfl⟩
 rw [<-hk3] at H hR
 have hk3l:w0.heap.size<=k3:=by first | omega | (rw [hk3];exact hsz0)
 have hsz0:=hF.size
 generalize wB.alloc (.cells (wd4 Z0).toArray 30)=wC at*
 refine Sq ?_
 refine Kl (fun w=>Rg w k1 0 (by8 Y 32)/\Rg w k2 0 (wd4 M)) [4] [_,_,_,_,_] [(true,0),(true,2),(false,1),(false,3),(false,4)] Qb (fun _ _ _ _ _ h=>h) (by kernel_rfl) ?_
 intro w1 hw
 have hB:=hB.cd hw
 have hM:=hM.cd hw
 have hR:=hR.cd hw
 have hF:=hF.trans (hw.fr NoT)
 obtain ⟨wD,hwD⟩:∃z,z=w1:=⟨w1,rfl⟩
 rw [<-hwD] at hB hM hR hF ⊢
 clear hwD hw
 refine ⟨⟨hB,hM⟩,?_⟩
 refine mkp rfl H (fun w2 hS=>Ez.ld24 H rfl (hS.1)) rfl ?_;clear H a;intro a H
 refine mkp rfl H (fun w2 hS=>Ez.ld30 H rfl (hS.2)) rfl ?_;clear H a;intro a H
 refine mkk rfl H cf11 (u256Of Y wD hY) rfl rfl ?_
 rintro _ w1 ⟨A,rfl,hWA,hvA,hF1⟩
 refine ⟨_,rfl,⟨hB.fr0 hF1,hM.fr0 hF1⟩,?_⟩;clear H a;intro a H
 have hB:=hB.fr0 hF1
 have hM:=hM.fr0 hF1
 have hR:=hR.fr0 hF1
 have hF:=hF.trans hF1
 obtain ⟨wE,hwE⟩:∃z,z=w1:=⟨w1,rfl⟩
 rw [<-hwE] at hB hM hR hF ⊢
 clear hwE
 refine mkk rfl H cf17 (u256Red A M wE hWA hWM) rfl rfl ?_
 rintro _ w1 ⟨X,rfl,hWX,hvX,hF2⟩
 refine ⟨_,rfl,⟨hB.fr0 hF2,hM.fr0 hF2⟩,?_⟩;clear H a;intro a H
 have hR:=hR.fr0 hF2
 have hF:=hF.trans hF2
 refine mks rfl H (Ez.st30 H rfl rfl hR rfl) rfl ?_;clear H;intro H
 replace H:Hd a 9 [] [(4,_)]:=H.pick [4]
 refine mke ?_
 refine Wr ?_
 obtain ⟨hR3,hfs⟩:=hR.set (vs:=wd4 X) rfl
 have hF3:=hF.hi (hfs.up fun i j ht=>by have ht:=ht.1;omega)
 exact rt30 H rfl rfl hR3 ⟨_,rfl,hWX,by rw [hvX,hvA],hF3⟩
end
section
set_option maxRecDepth 8000
def Kf (As:List Nat) (listed:Array Bool):Array Bool:=As.foldl (fun l i=>l.setIfInBounds i true) listed
theorem setAll_erase {i:Nat}:∀{As:List Nat} {listed:Array Bool},i ∈ As->Kf (As.erase i) (listed.setIfInBounds i true)=Kf As listed
 | [],_,h=>by simp at h
 | j::r,listed,h=>by
   by_cases e:j=i
   ·subst e;rw [List.erase_cons_head];rfl
   have h2:i ∈ r:=by
    rcases List.mem_cons.1 h with h | h
    ·exact absurd h.symm e
    exact h
   rw [List.erase_cons_tail (by simpa using e)]
   show Kf (r.erase i) ((listed.setIfInBounds i true).setIfInBounds j true)=Kf r (listed.setIfInBounds j true)
   rw [Array.setIfInBounds_comm _ _ (Ne.symm e),setAll_erase h2]
def allocB (md:Region.Mode) (ops:Array Oper):Nat->List Nat->Array Bool->Bool
 | 0,As,listed=>As.isEmpty
 | f+1,As,listed=>decide (Region.ready md ops listed=As) && As.all fun i=>allocB md ops f (As.erase i) (listed.setIfInBounds i true)
def aEnv (dd b:Nat->Nat) (As:List Nat) (l:Env):Env:=As.map (fun i=>(dd i,Value.pointer (some ⟨b i,0,none⟩)))++l
theorem lk_aEnv {dd b:Nat->Nat} {l:Env} {k:Nat} {v:Value}:∀{As:List Nat},lk (aEnv dd b As l) k=some v->(∃i ∈ As,dd i=k/\v=.pointer (some ⟨b i,0,none⟩))\/((∀i ∈ As,dd i≠k)/\lk l k=some v)
 | [],h=>.inr ⟨by simp,h⟩
 | i::r,h=>by
   have h':lk ((dd i,Value.pointer (some ⟨b i,0,none⟩))::aEnv dd b r l) k=some v:=h
   unfold lk at h'
   cases hb:Nat.beq (dd i) k with
   | true=>
     rw [hb] at h'
     exact .inl ⟨i,List.mem_cons_self,Nat.eq_of_beq_eq_true hb,(Option.some.inj h').symm⟩
   | false=>
     rw [hb] at h'
     have hne:=Nat.ne_of_beq_eq_false hb
     rcases lk_aEnv (As:=r) h' with ⟨j,hj,h1,h2⟩ | ⟨h1,h2⟩
     ·exact .inl ⟨j,List.mem_cons_of_mem _ hj,h1,h2⟩
     exact .inr ⟨fun j hj=>by rcases List.mem_cons.1 hj with rfl | hj;exact hne;exact h1 j hj,h2⟩
theorem lk_aEnv_in {dd b:Nat->Nat} {l:Env} (hd:∀i j,dd i=dd j->i=j):∀{As:List Nat} {i:Nat},i ∈ As->lk (aEnv dd b As l) (dd i)=some (.pointer (some ⟨b i,0,none⟩))
 | [],_,h=>by simp at h
 | j::r,i,h=>by
   show lk ((dd j,Value.pointer (some ⟨b j,0,none⟩))::aEnv dd b r l) (dd i)=_
   unfold lk
   cases hb:Nat.beq (dd j) (dd i) with
   | true=>
     have:=hd _ _ (Nat.eq_of_beq_eq_true hb)
     subst this;rfl
   | false=>
     have hne:=Nat.ne_of_beq_eq_false hb
     rcases List.mem_cons.1 h with e | e
     ·exact absurd (e▸rfl) hne
     exact lk_aEnv_in hd e
theorem lk_aEnv_out {dd b:Nat->Nat} {l:Env} {k:Nat}:∀{As:List Nat},(∀i ∈ As,dd i≠k)->lk (aEnv dd b As l) k=lk l k
 | [],_=>rfl
 | j::r,h=>by
   have hb:Nat.beq (dd j) k=false:=by
    cases hb:Nat.beq (dd j) k with
    | false=>rfl
    | true=>exact absurd (Nat.eq_of_beq_eq_true hb) (h j List.mem_cons_self)
   show (bif Nat.beq (dd j) k then _ else lk (aEnv dd b r l) k)=lk l k
   rw [hb]
   exact lk_aEnv_out (As:=r) fun i hi=>h i (List.mem_cons_of_mem _ hi)
section
variable {Q:Exit->Act->World->Prop} {md:Region.Mode} {os:List Oper} {S:World->Prop} {T:List Nat} {N:Nat} {ds:List Deferred}
theorem allocs_any (hS:∀w w',Fr NoT w w'->S w->S w') (dd:Nat->Nat) (hd:∀i j,dd i=dd j->i=j) (f:Nat):∀(n:Nat) (As:List Nat) (listed:Array Bool) (a:Act) (w:World) (l:Env),As.length=n->As.Nodup->allocB md os.toArray n As listed=true->Hd a N ds l->S w->
 (∀i ∈ As,∃ty pos after,nth os i=some ⟨some (dd i),.alloc 30,ty,pos,after,none⟩/\Nat.blt (dd i) N=true)->Clo md os.toArray listed->
 (∀(a':Act) (w':World) (b:Nat->Nat),Fr NoT w w'->(∀i ∈ As,w.heap.size<=b i/\Rg w' (b i) 0 (wd4 Z0))->(∀i ∈ As,∀j ∈ As,i≠j->b i≠b j)->Hd a' N ds (aEnv dd b As l)->Clo md os.toArray (Kf As listed)->S w'->wpAnyK Tryz.prog md os.toArray Q S T f (Kf As listed) a' w')->
 wpAnyK Tryz.prog md os.toArray Q S T (n+f) listed a w
 | 0,As,listed,a,w,l,hn,hnd,hB,H,hSw,hop,hc,hC=>by
   have hA:As= []:=List.length_eq_zero_iff.1 hn
   subst hA
   rw [Nat.zero_add]
   exact hC a w (fun _=>0) (Fr.refl _ _) (by simp) (by simp) H hc hSw
 | n+1,As,listed,a,w,l,hn,hnd,hB,H,hSw,hop,hc,hC=>by
   simp only [allocB,Bool.and_eq_true,decide_eq_true_eq] at hB
   obtain ⟨hr,hall⟩:=hB
   rw [show n+1+f=(n+f)+1 by omega]
   refine ⟨fun h=>?_,fun i hi=>?_⟩
   ·rw [hr] at h;rw [h] at hn;simp at hn
   have hi0:=hi
   rw [hr] at hi
   obtain ⟨ty,pos,after,ho,hlt⟩:=hop i hi
   unfold wpOp
   rw [Jl,ho]
   simp only [Region.wanted,if_true]
   refine .inl ?_
   unfold Oper.wp
   rw [Ez.al30]
   have hF:Fr NoT w (w.alloc (.cells (wd4 Z0).toArray 30)):=(Fr.refl NoT w).alloc _
   have hRn:=Rg.new w (wd4 Z0) 30
   have hS':=hS _ _ hF hSw
   refine ⟨fun _=>hS',?_⟩
   refine allocs_any hS dd hd f n (As.erase i) _ _ _ _ (by rw [List.length_erase_of_mem hi];omega) (hnd.erase i) (List.all_eq_true.1 hall i hi) (H.put _ hlt) hS' (fun j hj=>hop j (List.mem_of_mem_erase hj)) (hc.set hi0) ?_
   intro a' w' b hF' hb hne H' hc' hSw'
   have hsz:w.heap.size < (w.alloc (.cells (wd4 Z0).toArray 30)).heap.size:=hRn.lt (j:=0) (by decide)
   rw [setAll_erase hi] at hc' ⊢
   have hmem:∀j ∈ As,j≠i->j ∈ As.erase i:=fun j hj e=>(List.mem_erase_of_ne e).2 hj
   refine hC a' w' (fun j=>if j=i then w.heap.size else b j) (hF.trans hF') (fun j hj=>?_) (fun j hj k hk hjk=>?_) ⟨H'.sz,H'.df,fun k v hk=>?_⟩ hc' hSw'
   ·by_cases e:j=i
    ·rw [if_pos e];exact ⟨Nat.le_refl _,hRn.fr0 hF'⟩
    rw [if_neg e];have:=hb j (hmem j hj e);exact ⟨by omega,this.2⟩
   ·by_cases e:j=i
    ·rw [if_pos e,if_neg (by rw [<-e];exact Ne.symm hjk)]
     have:=hb k (hmem k hk (by rw [<-e];exact Ne.symm hjk));omega
    by_cases e2:k=i
    ·rw [if_neg e,if_pos e2]
     have:=hb j (hmem j hj e);omega
    rw [if_neg e,if_neg e2];exact hne j (hmem j hj e) k (hmem k hk e2) hjk
   refine H'.g k v ?_
   rcases lk_aEnv hk with ⟨j,hj,h1,h2⟩ | ⟨h1,h2⟩
   ·subst h1;subst h2
    by_cases e:j=i
    ·subst e
     rw [if_pos rfl,lk_aEnv_out (fun m hm e2=>by
      have:=hd _ _ e2;subst this
      exact ((List.Nodup.mem_erase_iff hnd).1 hm).1 rfl)]
     unfold lk;rw [Nat.beq_refl];rfl
    rw [if_neg e];exact lk_aEnv_in hd (hmem j hj e)
   rw [lk_aEnv_out fun m hm=>h1 m (List.mem_of_mem_erase hm)]
   unfold lk
   have hb:Nat.beq (dd i) k=false:=by
    cases hb:Nat.beq (dd i) k with
    | false=>rfl
    | true=>exact absurd (Nat.eq_of_beq_eq_true hb) (h1 i hi)
   rw [hb];exact h2
end
def FlA (P:Program) (l:List Oper) (S:World->Prop) (C:Act->Prop):List Nat->Act->Prop
 | [],a=>C a
 | i::r,a=>∃o v,nth l i=some o/\o.dst.isSome=true/\YieldsIf P l.toArray S o v a/\FlA P l S C r (a.put o.dst v)
def flB (md:Region.Mode) (ops:Array Oper) (T:List Nat):List Nat->Array Bool->Bool
 | [],_=>true
 | i::r,listed=>Region.free md ops listed i && (Region.ready md ops listed).contains i && (T.all fun s=>ancB md ops i 3 s) && flB md ops T r (listed.setIfInBounds i true)
section
variable {P:Program} {Q:Exit->Act->World->Prop} {md:Region.Mode} {l:List Oper} {S:World->Prop} {T:List Nat} {C:Act->Prop} {w:World}
theorem fl_all (hs:Region.noSelect l.toArray=true) (hQ:∀c d v a w,Q (.panic c) (Act.put a (some d) v) w->Q (.panic c) a w) (hSw:S w) (f:Nat):∀(ks:List Nat) (listed:Array Bool) (a:Act),Clo md l.toArray listed->flB md l.toArray T ks listed=true->FlA P l S C ks a->
 (∀a',Clo md l.toArray (Kf ks listed)->C a'->wpAnyK P md l.toArray Q S T f (Kf ks listed) a' w)->wpAnyK P md l.toArray Q S T (ks.length+f) listed a w
 | [],listed,a,hc,hB,h,hC=>by
   rw [List.length_nil,Nat.zero_add];exact hC a hc h
 | i::r,listed,a,hc,hB,h,hC=>by
   obtain ⟨o,v,h0,hd,hy,h⟩:=h
   simp only [flB,Bool.and_eq_true] at hB
   obtain ⟨⟨⟨hf,hr⟩,hA⟩,hB⟩:=hB
   obtain ⟨d,hd⟩:=Option.isSome_iff_exists.1 hd
   have ho:l.toArray[i]?=some o:=by rw [Jl];exact h0
   have hr':i ∈ Region.ready md l.toArray listed:=by simpa using hr
   rw [show (i::r).length+f=(r.length+f)+1 by simp;omega]
   refine takeK ho hs (by rw [hd];exact fun c a w=>hQ c d v a w) (fun listed' hc' hu j hj=>?_) _ listed a w hc (Region.free_spec ho hf) hr' hy hSw (fl_all hs hQ hSw f r _ _ (hc.set hr') hB h hC)
   cases ht:tin j T with
   | false=>rfl
   | true=>
     have:=anc_ready hc' 3 j (List.all_eq_true.1 hA j (tin_mem ht)) hj
     rw [hu] at this;cases this
end
theorem regionA {Q:Exit->Act->World->Prop} {N:Nat} {ds:List Deferred} {id:Nat} {a:Act} {w:World} (S:World->Prop) (T:List Nat) (l:List Oper) (ks1 As:List Nat) (dd:Nat->Nat) (ks2:List (Bool × Nat)) (hd:∀i j,dd i=dd j->i=j) (hS:∀w w',Fr NoT w w'->S w->S w') (hm:Tryz.prog.follows .mixedOrders=true) (hQ:∀c d v a w,Q (.panic c) (Act.put a (some d) v) w->Q (.panic c) a w)
 (hB:(Region.noSelect l.toArray && decide (ks1.length+(As.length+ks2.length)=l.toArray.size) && flB .any l.toArray T ks1 (Array.replicate l.toArray.size false) && allocB .any l.toArray As.length As (Kf ks1 (Array.replicate l.toArray.size false)) && mixKB .any l.toArray T ks2 (Kf As (Kf ks1 (Array.replicate l.toArray.size false))) && decide As.Nodup)=true)
 (hop:∀i ∈ As,∃ty pos after,nth l i=some ⟨some (dd i),.alloc 30,ty,pos,after,none⟩/\Nat.blt (dd i) N=true)
 (h:∀w1,Cd w w1->S w1/\FlA Tryz.prog l S (fun a=>∃l1,Hd a N ds l1/\∀(a':Act) (w':World) (b:Nat->Nat),Fr NoT w1 w'->(∀i ∈ As,w1.heap.size<=b i/\Rg w' (b i) 0 (wd4 Z0))->(∀i ∈ As,∀j ∈ As,i≠j->b i≠b j)->Hd a' N ds (aEnv dd b As l1)->S w'->MixK Tryz.prog l Q S T ks2 a' w') ks1 a):(Code.region id l.toArray true).wp Tryz.prog Q a w:=by
 simp only [Bool.and_eq_true,decide_eq_true_eq] at hB
 obtain ⟨⟨⟨⟨⟨b1,b2⟩,b3⟩,b4⟩,b5⟩,b6⟩:=hB
 refine wp_region_any hm ?_
 rw [<-b2]
 obtain ⟨h1,h2⟩:=h { w with drawn:=w.drawn+1} ⟨1,rfl⟩
 have:=wpAny_of_K _ _ _ _ (fl_all (P:=Tryz.prog) (Q:=Q) (w:={ w with drawn:=w.drawn+1}) b1 hQ h1 (As.length+ks2.length) ks1 _ a (clo_start _) b3 h2 (fun a' hc' hC=>by
  obtain ⟨l1,H1,hC⟩:=hC
  refine allocs_any hS dd hd _ As.length As _ _ _ _ rfl b6 b4 H1 h1 hop hc' ?_
  intro a'' w'' b f1 f2 f3 f4 f5 f6
  exact mixK_all b1 hQ ks2 _ _ _ f5 (.inl f6) b5 (hC a'' w'' b f1 f2 f3 f4 f6)))
 rw [<-b2] at this
 exact this
section
variable {P:Program} {os:List Oper} {Q:Exit->Act->World->Prop} {S:World->Prop} {T:List Nat} {C:Act->Prop} {a:Act} {w w':World} {rest:List (Bool × Nat)} {ks:List Nat} {op:Op} {d i:Nat} {ty:TypeId} {pos:String} {after:Array Edge} {N:Nat} {ds:List Deferred} {l:Env} {v:Value}
theorem map' (ho:nth os i=some ⟨some d,op,ty,pos,after,none⟩) (H:Hd a N ds l) (hr:∀w,S w->(execOp a.eval ⟨some d,op,ty,pos,after,none⟩).run P w=.ok (.value v) w) (hd:Nat.blt d N=true)
 (h:∀a',Hd a' N ds ((d,v)::l)->FlA P os S C ks a'):FlA P os S C (i::ks) a:=
 ⟨_,v,ho,rfl,.inl ⟨by simp [Region.wanted],fun w hS=>hr w hS⟩,h _ (H.put v hd)⟩
theorem mkS (ho:nth os i=some ⟨none,op,ty,pos,after,none⟩) (H:Hd a N ds l) (hr:(execOp a.eval ⟨none,op,ty,pos,after,none⟩).run P w=.ok .skip w') (hS:S w')
 (h:Hd a N ds l->MixK P os Q S T rest a w'):MixK P os Q S T ((false,i)::rest) a w:=by
 show wpOp P os.toArray Q i _ a w
 unfold wpOp
 rw [Jl,ho]
 simp only [Region.wanted,if_true]
 exact .inl (by unfold Oper.wp;rw [hr];exact ⟨fun _=>hS,h H⟩)
end
end
section
set_option maxRecDepth 8000
namespace Ez
section
variable {a:Act} {N:Nat} {ds:List Deferred} {l:Env} {w:World} {d:Option Nat} {ty:TypeId} {pos:String} {after:Array Edge} {g:Option (Nat × Bool)}
theorem ne30 (w:World) (X Y:Nat->Int):(binOp .neq 30 (.agg (wd4 X).toArray) (.agg (wd4 Y).toArray)).run Tryz.prog w=.ok (.bool (!decide (X 0=Y 0/\X 1=Y 1/\X 2=Y 2/\X 3=Y 3))) w:=by
 have h:=eq30 w X Y
 rw [run_eql_struct] at h
 rw [run_neq_struct]
 cases hq:(Op.equalIn 10000 30 (.agg (wd4 X).toArray) (.agg (wd4 Y).toArray)).run Tryz.prog w with
 | ok b w'=>
   rw [hq] at h
   simp only [Result.andThen_ok,Result.ok.injEq,Value.bool.injEq] at h ⊢
   exact ⟨by rw [h.1],h.2⟩
 | halt x w'=>rw [hq] at h;simp [Result.andThen] at h
theorem neq30 (H:Hd a N ds l) {x y:Operand} {X Y:Nat->Int} {u:TypeId} {r:Bool} (h:ov l x=some (.agg (wd4 X).toArray)) (h':ov l y=some (.agg (wd4 Y).toArray)) (hX:W4 X) (hY:W4 Y) (hr:(!decide (nv X 4=nv Y 4))=r):
 (execOp a.eval ⟨d,.binOp .neq 30 x y u,ty,pos,after,g⟩).run Tryz.prog w=.ok (.value (.bool r)) w:=by
 have e:=H.o h
 have e':=H.o h'
 subst hr
 have q:(execOp a.eval ⟨d,.binOp .neq 30 x y u,ty,pos,after,g⟩)=(do let _ <-eqGuard .neq 30 x y (.agg (wd4 X).toArray) (.agg (wd4 Y).toArray);let v <-binOp .neq 30 (.agg (wd4 X).toArray) (.agg (wd4 Y).toArray);pure (.value v)):=by simp only [execOp,e,e',bind_assoc]
 have hg:=run_eqGuard_agg (P:=Tryz.prog) w .neq 30 x y (wd4 X).toArray (wd4 Y).toArray (by kernel_rfl)
 rw [q]
 simp only [Sem.run_bind,hg,ne30,Result.andThen_ok,Sem.run_pure]
 have e:decide (nv X 4=nv Y 4)=decide (X 0=Y 0/\X 1=Y 1/\X 2=Y 2/\X 3=Y 3):=decide_eq_decide.2 (nv4_eq hX hY)
 rw [e]
end
end Ez
structure IvD (k2 k5 kr u v x y:Nat):Prop where
 u2:u≠k2
 u5:u≠k5
 ur:u≠kr
 v2:v≠k2
 v5:v≠k5
 vr:v≠kr
 x2:x≠k2
 x5:x≠k5
 xr:x≠kr
 y2:y≠k2
 y5:y≠k5
 yr:y≠kr
 uv:u≠v
 ux:u≠x
 uy:u≠y
 vx:v≠x
 vy:v≠y
 xy:x≠y
structure IvS (w:World) (k2 k5 kr u v x y:Nat) (M U V X Y:Nat->Int):Prop where
 m:Rg w k2 0 (wd4 M)
 o:Rg w k5 0 (wd4 ONE)
 r:Rg w kr 0 (wd4 Z0)
 u:Rg w u 0 (wd4 U)
 v:Rg w v 0 (wd4 V)
 x:Rg w x 0 (wd4 X)
 y:Rg w y 0 (wd4 Y)
section
variable {w w':World} {k2 k5 kr u v x y:Nat} {M U V X Y Z:Nat->Int}
theorem IvS.fr0 (h:IvS w k2 k5 kr u v x y M U V X Y) (hF:Fr NoT w w'):IvS w' k2 k5 kr u v x y M U V X Y:=⟨h.m.fr0 hF,h.o.fr0 hF,h.r.fr0 hF,h.u.fr0 hF,h.v.fr0 hF,h.x.fr0 hF,h.y.fr0 hF⟩
theorem Rg.off {b c:Nat} {vs us:List Value} (h:Rg w b 0 vs) (hne:c≠b):Rg (w.setCells c 0 us) b 0 vs:=h.fr (Jp c us 0 w) (fun _ _ _ f=>hne f.1.symm)
theorem IvS.setU (h:IvS w k2 k5 kr u v x y M U V X Y) (n:IvD k2 k5 kr u v x y):IvS (w.setCells u 0 (wd4 Z)) k2 k5 kr u v x y M Z V X Y:=
 ⟨h.m.off n.u2,h.o.off n.u5,h.r.off n.ur,(h.u.set (vs:=wd4 Z) rfl).1,h.v.off n.uv,h.x.off n.ux,h.y.off n.uy⟩
theorem IvS.setV (h:IvS w k2 k5 kr u v x y M U V X Y) (n:IvD k2 k5 kr u v x y):IvS (w.setCells v 0 (wd4 Z)) k2 k5 kr u v x y M U Z X Y:=
 ⟨h.m.off n.v2,h.o.off n.v5,h.r.off n.vr,h.u.off n.uv.symm,(h.v.set (vs:=wd4 Z) rfl).1,h.x.off n.vx,h.y.off n.vy⟩
theorem IvS.setX (h:IvS w k2 k5 kr u v x y M U V X Y) (n:IvD k2 k5 kr u v x y):IvS (w.setCells x 0 (wd4 Z)) k2 k5 kr u v x y M U V Z Y:=
 ⟨h.m.off n.x2,h.o.off n.x5,h.r.off n.xr,h.u.off n.ux.symm,h.v.off n.vx.symm,(h.x.set (vs:=wd4 Z) rfl).1,h.y.off n.xy⟩
theorem IvS.setY (h:IvS w k2 k5 kr u v x y M U V X Y) (n:IvD k2 k5 kr u v x y):IvS (w.setCells y 0 (wd4 Z)) k2 k5 kr u v x y M U V X Z:=
 ⟨h.m.off n.y2,h.o.off n.y5,h.r.off n.yr,h.u.off n.uy.symm,h.v.off n.vy.symm,h.x.off n.xy.symm,(h.y.set (vs:=wd4 Z) rfl).1⟩
end
structure IvN (a:Int) (U V X Y:Nat->Int):Prop where
 wu:W4 U
 wv:W4 V
 wx:W4 X
 wy:W4 Y
 xl:nv X 4 < NN
 yl:nv Y 4 < NN
 ax:NN∣a*nv X 4 - nv U 4
 ay:NN∣a*nv Y 4 - nv V 4
 cp:∀d:Int,1 < d->d∣nv U 4->d∣nv V 4->False
 v1:1<=nv V 4
theorem half_dvd {t:Int} (h:NN∣2*t):NN∣t:=by
 have e:t=NN*t - 57896044618658097711785492504343953926418782139537452191302581570759080747168*(2*t):=by unfold NN;omega
 rw [e]
 exact Int.dvd_sub (Int.dvd_mul_right _ _) (Dm h)
theorem half_x {a u x x':Int} (hd:NN∣a*x - u) (hu:u % 2=0) (hx:2*x'=(if x % 2=1 then x+NN else x)):NN∣a*x' - u / 2:=by
 apply half_dvd
 have e:2*(a*x' - u / 2)=(a*x - u)+NN*(if x % 2=1 then a else 0):=by
  have hu2:2*(u / 2)=u:=by omega
  have h1:2*(a*x' - u / 2)=a*(2*x') - 2*(u / 2):=by grind
  rw [h1,hx,hu2]
  split <;> grind
 rw [e]
 exact Int.dvd_add hd (Int.dvd_mul_right _ _)
theorem halfmod_val {x:Int} (h0:0<=x) (h1:x < NN):2*((if x % 2=1 then x+NN else x) / 2)=(if x % 2=1 then x+NN else x)/\0<=(if x % 2=1 then x+NN else x) / 2/\(if x % 2=1 then x+NN else x) / 2 < NN:=by
 unfold NN at*;split <;> omega
theorem sub_x {a u v x y:Int} (hx:NN∣a*x - u) (hy:NN∣a*y - v):NN∣a*((x - y) % NN) - (u - v):=by
 have e:=Int.emod_add_mul_ediv (x - y) NN
 have e2:a*((x - y) % NN) - (u - v)=(a*x - u) - (a*y - v) - NN*(a*((x - y) / NN)):=by grind
 rw [e2]
 exact Int.dvd_sub (Int.dvd_sub hx hy) (Int.dvd_mul_right _ _)
theorem IvN.inv {a:Int} {X:Nat->Int} (hX:W4 X) (hl:nv X 4 < NN) (h:NN∣a*nv X 4 - 1) (ha:a≠0):nv X 4=invN a:=by
 refine (invN_eq ⟨(Qv hX).1,hl,fun h=>absurd h ha,fun _=>?_⟩).symm
 have e:1 - nv X 4*a=-(a*nv X 4 - 1):=by grind
 rw [e];exact Int.dvd_neg.2 h
theorem IvN.swap {a:Int} {U V X Y:Nat->Int} (h:IvN a U V X Y) (h1:1<=nv U 4):IvN a V U Y X:=
 ⟨h.wv,h.wu,h.wy,h.wx,h.yl,h.xl,h.ay,h.ax,fun d h1 h2 h3=>h.cp d h1 h3 h2,h1⟩
theorem IvN.half {a:Int} {U V X Y U' X' M:Nat->Int} (h:IvN a U V X Y) (hM:nv M 4=NN) (h1:1<=nv U 4) (he:¬nv U 4 % 2=1) (hU:W4 U') (hX:W4 X') (hu:nv U' 4=(nv U 4+0*M256) / 2) (hx:nv X' 4=(if nv X 4 % 2=1 then nv X 4+nv M 4 else nv X 4) / 2):IvN a U' V X' Y/\1<=nv U' 4/\nv U' 4 < nv U 4:=by
 rw [hM] at hx
 obtain ⟨e1,e2,e3⟩:=halfmod_val (Qv h.wx).1 h.xl
 rw [<-hx] at e1 e2 e3
 have hu:nv U' 4=nv U 4 / 2:=by rw [hu];omega
 refine ⟨⟨hU,h.wv,hX,h.wy,e3,h.yl,?_,h.ay,fun d d1 d2 d3=>h.cp d d1 ?_ d3,h.v1⟩,by omega,by omega⟩
 ·rw [hu];exact half_x h.ax (by omega) e1
 rw [show nv U 4=2*nv U' 4 by omega];exact Dm d2
theorem IvN.sub {a:Int} {U V X Y U' X' M:Nat->Int} (h:IvN a U V X Y) (hM:nv M 4=NN) (hl:nv V 4<=nv U 4) (hU:W4 U') (hX:W4 X') (hu:nv U' 4=(nv U 4 - nv V 4) % 115792089237316195423570985008687907853269984665640564039457584007913129639936) (hx:nv X' 4=(nv X 4 - nv Y 4) % nv M 4):IvN a U' V X' Y/\nv U' 4=nv U 4 - nv V 4:=by
 have r1:=Qv h.wu
 have r2:=Qv h.wv
 have hu:nv U' 4=nv U 4 - nv V 4:=by rw [hu];exact Int.emod_eq_of_lt (by omega) (by omega)
 rw [hM] at hx
 refine ⟨⟨hU,h.wv,hX,h.wy,?_,h.yl,?_,h.ay,fun d d1 d2 d3=>h.cp d d1 ?_ d3,h.v1⟩,hu⟩
 ·rw [hx];exact El _ (by decide)
 ·rw [hx,hu];exact sub_x h.ax h.ay
 rw [show nv U 4=nv U' 4+nv V 4 by omega];exact Int.dvd_add d2 d3
theorem IvN.start {A M:Nat->Int} (hA:W4 A) (hM:W4 M) (hN:nv M 4=NN) (hl:nv A 4 < NN) (h0:nv A 4≠0):IvN (nv A 4) A M ONE Z0:=by
 have hr:=Qv hA
 refine ⟨hA,hM,ONE_W4,Z0_W4,by rw [ONE_nv];decide,by rw [Z0_nv];decide,by rw [ONE_nv,Int.mul_one,Int.sub_self];exact Int.dvd_zero _,by rw [Z0_nv,Int.mul_zero,hN];exact ⟨-1,by omega⟩,fun d d1 d2 d3=>?_,by rw [hN];decide⟩
 rw [hN] at d3
 exact h0 (NN_dvd d1 d3 d2 hr.1 hl)
theorem Fr.put {w0 w:World} {c:Nat} {us:List Value} (hF:Fr NoT w0 w) (h:w0.heap.size<=c):Fr NoT w0 (w.setCells c 0 us):=
 hF.hi ((Jp c us 0 w).up fun i j ht=>by have ht:=ht.1;omega)
end
section
set_option maxRecDepth 8000
theorem u256InvMod (A M:Nat->Int) (w:World) (hWA:W4 A) (hWM:W4 M) (hMN:nv M 4=NN) (hAM:nv A 4 < NN):
 Calls Tryz.prog 29 #[.agg (wd4 A).toArray,.agg (wd4 M).toArray] w fun e w'=>∃X,e=.returned (.agg (wd4 X).toArray)/\W4 X/\nv X 4=invN (nv A 4)/\Fr NoT w w':=by
 obtain ⟨w0,hw0⟩:∃w0,w0=w:=⟨w,rfl⟩
 rw [<-hw0]
 clear hw0 w
 refine Qd (vs:= [.agg (wd4 A).toArray,.agg (wd4 M).toArray]) Tryz.func29 rfl rfl ?_
 intro a H
 replace H:Hd a 64 [] [(0,.agg (wd4 A).toArray),(1,.agg (wd4 M).toArray)]:=H
 refine Sq (Rl [_,_,_] (wl H (Ez.boxR H rfl) rfl (kL (fun a H=>Ez.boxR H rfl) rfl (kL (fun a H=>Ez.al30) rfl (kP [(2,_),(3,_),(4,_)] rfl (kW ?_))))));clear H a;intro a H
 have hF:=Fr.refl NoT w0
 have hsz0:=hF.size
 have hA:=Rg.new w0 (wd4 A) 30
 have hFn:=(Fr.refl NoT w0).alloc (.cells (wd4 A).toArray 30)
 have hF:=hF.alloc (.cells (wd4 A).toArray 30)
 obtain ⟨k1,hk1⟩:∃g,g=w0.heap.size:=⟨_,rfl⟩
 rw [<-hk1] at H hA
 have hk1l:w0.heap.size<=k1:=by first | omega | (rw [hk1];exact hsz0)
 have hsz0:=hF.size
 generalize w0.alloc (.cells (wd4 A).toArray 30)=wA0 at*
 have hM:=Rg.new wA0 (wd4 M) 30
 have hFn:=(Fr.refl NoT wA0).alloc (.cells (wd4 M).toArray 30)
 have hF:=hF.alloc (.cells (wd4 M).toArray 30)
 have hl_A_k2:=hA.lt (j:=0) (Nat.succ_pos 3)
 have hA:=hA.fr0 hFn
 obtain ⟨k2,hk2⟩:∃g,g=wA0.heap.size:=⟨_,rfl⟩
 rw [<-hk2] at H hM
 have hk2l:w0.heap.size<=k2:=by first | omega | (rw [hk2];exact hsz0)
 have hsz0:=hF.size
 generalize wA0.alloc (.cells (wd4 M).toArray 30)=wA1 at*
 have hR:=Rg.new wA1 (wd4 Z0) 30
 have hFn:=(Fr.refl NoT wA1).alloc (.cells (wd4 Z0).toArray 30)
 have hF:=hF.alloc (.cells (wd4 Z0).toArray 30)
 have hl_A_kr:=hA.lt (j:=0) (Nat.succ_pos 3)
 have hA:=hA.fr0 hFn
 have hl_M_kr:=hM.lt (j:=0) (Nat.succ_pos 3)
 have hM:=hM.fr0 hFn
 obtain ⟨kr,hkr⟩:∃g,g=wA1.heap.size:=⟨_,rfl⟩
 rw [<-hkr] at H hR
 have hkrl:w0.heap.size<=kr:=by first | omega | (rw [hkr];exact hsz0)
 have hsz0:=hF.size
 generalize wA1.alloc (.cells (wd4 Z0).toArray 30)=wR at*
 have hra:=Qv hWA
 refine Sq (Sq (Rl [_,_] (wl H (Ez.ld30 H rfl (hA)) rfl ?_)));clear H a;intro a H
 refine wk H cf9 (u256IsZero A wR hWA) rfl rfl ?_
 rintro _ w1 ⟨rfl,hF1⟩
 refine ⟨_,rfl,?_⟩;clear H a;intro a H
 have hA:=hA.fr0 hF1
 have hM:=hM.fr0 hF1
 have hR:=hR.fr0 hF1
 have hF:=hF.trans hF1
 obtain ⟨wS,hwS⟩:∃z,z=w1:=⟨w1,rfl⟩
 rw [<-hwS] at hA hM hR hF ⊢
 clear hwS
 refine kP [(2,_),(3,_),(4,_),(11,_)] rfl (kW ?_) a H;clear H a;intro a H
 refine Cs (H.o rfl) (fun hb0=>?_) (fun hb0=>?_)
 ·have h0:=Dt hb0
  refine Sq (Rl [_,_] (wl H (Ez.ld30 H rfl (hA)) rfl ?_));clear H a;intro a H
  refine wls H (Ez.st30 H rfl rfl hR rfl) ?_;clear H;intro H
  refine kP [(2,_),(3,_),(4,_)] rfl (kW ?_) a H;clear H a;intro a H
  refine Wr (thr ?_)
  obtain ⟨hR3,hfs⟩:=hR.set (vs:=wd4 A) rfl
  have hF3:=hF.hi (hfs.up fun i j ht=>by have ht:=ht.1;omega)
  exact rt30 H rfl rfl hR3 ⟨_,rfl,hWA,by rw [h0];exact ((invN_spec (Int.le_refl 0) (by decide)).2.2.1 rfl).symm,hF3⟩
 have h0:nv A 4≠0:=Df hb0
 refine Wk0 (thn (Sq (Rl [_,_,_] (wl H (Ez.bld1) rfl (kL (fun a H=>Ez.al30) rfl ?_)))));clear H a;intro a H
 have hO0:=Rg.new wS (wd4 Z0) 30
 have hFn:=(Fr.refl NoT wS).alloc (.cells (wd4 Z0).toArray 30)
 refine wls H (Ez.st30 H rfl rfl hO0 rfl) ?_;clear H;intro H
 refine kP [(2,_),(3,_),(4,_),(5,_)] rfl (kW ?_) a H;clear H a;intro a H
 have hl1:=hA.lt (j:=0) (Nat.succ_pos 3)
 have hl2:=hM.lt (j:=0) (Nat.succ_pos 3)
 have hlr:=hR.lt (j:=0) (by decide)
 have hA:=hA.fr0 hFn
 have hM:=hM.fr0 hFn
 have hR:=hR.fr0 hFn
 have hszS:=hF.size
 have hF:=hF.trans hFn
 obtain ⟨hO,hfs⟩:=hO0.set (vs:=wd4 ONE) rfl
 obtain ⟨k5,hk5⟩:∃z,z=wS.heap.size:=⟨_,rfl⟩
 rw [<-hk5] at H hO hfs hszS hl1 hl2 hlr ⊢
 have hA:=hA.off (us:=wd4 ONE) (show k5≠k1 by omega)
 have hM:=hM.off (us:=wd4 ONE) (show k5≠k2 by omega)
 have hR:=hR.off (us:=wd4 ONE) (show k5≠kr by omega)
 have hF:=hF.put hszS (us:=wd4 ONE)
 clear hfs hO0 hFn hF1
 generalize (wS.alloc (.cells (wd4 Z0).toArray 30)).setCells k5 0 (wd4 ONE)=wT at*
 refine Sq ?_
 refine regionA (N:=64) (ds:= []) (fun w=>Rg w k1 0 (wd4 A)/\Rg w k2 0 (wd4 M)/\Rg w k5 0 (wd4 ONE)) [] [_,_,_,_,_,_,_,_,_,_,_,_] [0,1,2,3] [4,5,6,7] (fun i=>i+2) [(false,8),(false,9),(false,10),(false,11)] (fun i j h=>Nat.add_right_cancel h) (fun w w1 hF h=>⟨h.1.fr0 hF,h.2.1.fr0 hF,h.2.2.fr0 hF⟩) Qb (fun _ _ _ _ _ h=>h) (by kernel_rfl) (by intro i hi;simp only [List.mem_cons,List.not_mem_nil,or_false] at hi;rcases hi with rfl | rfl | rfl | rfl <;> exact ⟨_,_,_,rfl,rfl⟩) ?_
 intro w1 hw
 have hA:=hA.fr0 (hw.fr NoT)
 have hM:=hM.fr0 (hw.fr NoT)
 have hR:=hR.fr0 (hw.fr NoT)
 have hO:=hO.fr0 (hw.fr NoT)
 have hF:=hF.trans (hw.fr NoT)
 obtain ⟨wV,hwV⟩:∃z,z=w1:=⟨w1,rfl⟩
 rw [<-hwV] at hA hM hR hO hF ⊢
 clear hwV hw
 have hR0:=hR
 have hszV:=hF.size
 refine ⟨⟨hA,hM,hO⟩,?_⟩
 refine map' rfl H (fun w2 hS=>Ez.ld30 H rfl (hS.1)) rfl ?_;clear H a;intro a H
 refine map' rfl H (fun w2 hS=>Ez.ld30 H rfl (hS.2.1)) rfl ?_;clear H a;intro a H
 refine map' rfl H (fun w2 hS=>Ez.ld30 H rfl (hS.2.2)) rfl ?_;clear H a;intro a H
 refine map' rfl H (fun w2 hS=>Ez.bldZ) rfl ?_;clear H a;intro a H
 refine ⟨_,H,?_⟩;clear H a;intro a w1 b hFb hb hbn H hSb
 replace H:Hd a 64 [] [(6,_),(7,_),(8,_),(9,_),(17,_),(16,_),(15,_),(14,_),(5,_),(4,_),(3,_),(2,_)]:=H.pick [6,7,8,9,17,16,15,14,5,4,3,2]
 have hR:=hR.fr0 hFb
 have hF:=hF.trans hFb
 have hlO:=hO.lt (j:=0) (Nat.succ_pos 3)
 obtain ⟨hul,hU⟩:=hb 4 (by decide)
 obtain ⟨hvl,hV⟩:=hb 5 (by decide)
 obtain ⟨hxl,hX⟩:=hb 6 (by decide)
 obtain ⟨hyl,hY⟩:=hb 7 (by decide)
 have huv:=hbn 4 (by decide) 5 (by decide) (by decide)
 have hux:=hbn 4 (by decide) 6 (by decide) (by decide)
 have huy:=hbn 4 (by decide) 7 (by decide) (by decide)
 have hvx:=hbn 5 (by decide) 6 (by decide) (by decide)
 have hvy:=hbn 5 (by decide) 7 (by decide) (by decide)
 have hxy:=hbn 6 (by decide) 7 (by decide) (by decide)
 clear hb hbn
 obtain ⟨u,hu⟩:∃z,z=b 4:=⟨_,rfl⟩
 obtain ⟨v,hv⟩:∃z,z=b 5:=⟨_,rfl⟩
 obtain ⟨x,hx⟩:∃z,z=b 6:=⟨_,rfl⟩
 obtain ⟨y,hy⟩:∃z,z=b 7:=⟨_,rfl⟩
 rw [<-hu] at huv hux huy hul hU
 rw [<-hv] at huv hvx hvy hvl hV
 rw [<-hx] at hux hvx hxy hxl hX
 rw [<-hy] at huy hvy hxy hyl hY
 rw [<-hu,<-hv,<-hx,<-hy] at H
 clear hu hv hx hy b
 have hl1:=hA.lt (j:=0) (Nat.succ_pos 3)
 have hl2:=hM.lt (j:=0) (Nat.succ_pos 3)
 have hl3:=hR0.lt (j:=0) (Nat.succ_pos 3)
 obtain ⟨hA,hM,hO⟩:=hSb
 have hD:IvD k2 k5 kr u v x y:=⟨by omega,by omega,by omega,by omega,by omega,by omega,by omega,by omega,by omega,by omega,by omega,by omega,huv,hux,huy,hvx,hvy,hxy⟩
 have hI:IvS w1 k2 k5 kr u v x y M Z0 Z0 Z0 Z0:=⟨hM,hO,hR,hU,hV,hX,hY⟩
 have hul:w0.heap.size<=u:=by omega
 have hvl:w0.heap.size<=v:=by omega
 have hxl:w0.heap.size<=x:=by omega
 have hyl:w0.heap.size<=y:=by omega
 refine mkS rfl H (Ez.st30 H rfl rfl hI.u rfl) (⟨hA.off (show u≠k1 by omega),(hI.setU hD).m,(hI.setU hD).o⟩) ?_;clear H;intro H
 have hA:=hA.off (us:=wd4 A) (show u≠k1 by omega)
 have hI:=hI.setU (Z:=A) hD
 have hF:=hF.put hul (us:=wd4 A)
 refine mkS rfl H (Ez.st30 H rfl rfl hI.v rfl) (⟨hA.off (show v≠k1 by omega),(hI.setV hD).m,(hI.setV hD).o⟩) ?_;clear H;intro H
 have hA:=hA.off (us:=wd4 M) (show v≠k1 by omega)
 have hI:=hI.setV (Z:=M) hD
 have hF:=hF.put hvl (us:=wd4 M)
 refine mkS rfl H (Ez.st30 H rfl rfl hI.x rfl) (⟨hA.off (show x≠k1 by omega),(hI.setX hD).m,(hI.setX hD).o⟩) ?_;clear H;intro H
 have hA:=hA.off (us:=wd4 ONE) (show x≠k1 by omega)
 have hI:=hI.setX (Z:=ONE) hD
 have hF:=hF.put hxl (us:=wd4 ONE)
 refine mkS rfl H (Ez.st30 H rfl rfl hI.y rfl) (⟨hA.off (show y≠k1 by omega),(hI.setY hD).m,(hI.setY hD).o⟩) ?_;clear H;intro H
 have hI:=hI.setY (Z:=Z0) hD
 have hF:=hF.put hyl (us:=wd4 Z0)
 replace H:Hd a 64 [] [(3,_),(4,_),(5,_),(6,_),(7,_),(8,_),(9,_)]:=H.pick [3,4,5,6,7,8,9]
 refine mke ?_
 have hN:=IvN.start hWA hWM hMN hAM h0
 clear hA hM hR hO hU hV hX hY hR0 hFb hszV hszS hlr hl1 hl2 hl3 hlO hsz0
 generalize (World.setCells _ y 0 (wd4 Z0))=wX at*
 refine Sq (Wb ?_)
 refine Qo (fun mm a w=>∃(U V X Y:Nat->Int),mm=(nv U 4+nv V 4).toNat/\Hd a 64 [] [(3,pz k2),(4,pz kr),(5,pz k5),(6,pz u),(7,pz v),(8,pz x),(9,pz y)]/\IvS w k2 k5 kr u v x y M U V X Y/\IvN (nv A 4) U V X Y/\Fr NoT w0 w) ((nv A 4+nv M 4).toNat) ?_ ?_
 ·replace H:Hd a 64 [] [(3,_),(4,_),(5,_),(6,_),(7,_),(8,_),(9,_)]:=H.pick [3,4,5,6,7,8,9]
  exact ⟨A,M,ONE,Z0,rfl,H,hI,hN,hF⟩
 clear H a
 intro mm a w hL
 clear hI hN hF
 obtain ⟨U,V,X,Y,hmm,H,hI,hN,hF⟩:=hL
 subst hmm
 refine Sq (Sq ?_)
 by_cases hu1:nv U 4=1
 ·refine Rl [_,_,_,_,_,_,_,_] (wl H (Ez.ld30 H rfl (hI.u)) rfl (kL (fun a H=>Ez.ld30 H rfl (hI.o)) rfl (kL (fun a H=>Ez.neq30 H rfl rfl hN.wu ONE_W4 (r:=false) (by rw [ONE_nv];simp [hu1])) rfl (kM rfl rfl (kX rfl rfl rfl rfl rfl (kX rfl rfl rfl rfl rfl (kX rfl rfl rfl rfl rfl (kL (fun a H=>Ez.pkF H rfl rfl) rfl (kP [(3,_),(4,_),(5,_),(6,_),(7,_),(8,_),(9,_),(25,_)] rfl (kW ?_))))))))));clear H a;intro a H
  refine Cf (H.o rfl) (We (thx (thx (bxe (thn (Sq (Sq (Rl [_,_,_] (wl H (Ez.ld30 H rfl (hI.u)) rfl (kL (fun a H=>Ez.ld30 H rfl (hI.o)) rfl (kL (fun a H=>Ez.eql30 H rfl rfl hN.wu ONE_W4 (r:=true) (by rw [ONE_nv];simp [hu1])) rfl (kP [(4,_),(8,_),(9,_),(61,_)] rfl (kW ?_)))))))))))));clear H a;intro a H
  refine Ct (H.o rfl) (Sq (Rl [_,_] (wl H (Ez.ld30 H rfl (hI.x)) rfl ?_)));clear H a;intro a H
  refine wls H (Ez.st30 H rfl rfl hI.r rfl) ?_;clear H;intro H
  refine kP [(4,_),(9,_)] rfl (kW ?_) a H;clear H a;intro a H
  refine Wr (thr ?_)
  obtain ⟨hR3,hfs⟩:=hI.r.set (vs:=wd4 X) rfl
  have hF3:=hF.put hkrl (us:=wd4 X)
  exact rt30 H rfl rfl hR3 ⟨_,rfl,hN.wx,IvN.inv hN.wx hN.xl (by have:=hN.ax;rwa [hu1] at this) h0,hF3⟩
 refine Rl [_,_,_,_,_,_,_,_] (wl H (Ez.ld30 H rfl (hI.u)) rfl (kL (fun a H=>Ez.ld30 H rfl (hI.o)) rfl (kL (fun a H=>Ez.neq30 H rfl rfl hN.wu ONE_W4 (r:=true) (by rw [ONE_nv];simp [hu1])) rfl (kM rfl rfl (kG (fun a H=>Ez.ld30 H rfl (hI.v)) rfl rfl rfl rfl rfl (kG (fun a H=>Ez.ld30 H rfl (hI.o)) rfl rfl rfl rfl rfl (kG (fun a H=>Ez.neq30 H rfl rfl hN.wv ONE_W4 rfl) rfl rfl rfl rfl rfl (kL (fun a H=>Ez.pkT H rfl rfl) rfl (kP [(3,_),(4,_),(5,_),(6,_),(7,_),(8,_),(9,_),(25,_)] rfl (kW ?_))))))))));clear H a;intro a H
 refine Cs (H.o rfl) (fun hb1=>?_) (fun hb1=>?_)
 ·have hv1:nv V 4≠1:=by rw [ONE_nv] at hb1;simpa using hb1
  have hu0:1<=nv U 4:=by
   have r1:=Qv hN.wu
   have r2:=hN.v1
   rcases Int.lt_or_le (nv U 4) 1 with h | h
   ·exact (hN.cp (nv V 4) (by omega) (by rw [show nv U 4=0 by omega];exact Int.dvd_zero _) (Int.dvd_refl _)).elim
   exact h
  refine Wk0 (thn (Wb (Sq (Wb ?_))))
  refine Qo (fun mm a w=>∃(U' X':Nat->Int),mm=(nv U' 4).toNat/\Hd a 64 [] [(3,pz k2),(4,pz kr),(5,pz k5),(6,pz u),(7,pz v),(8,pz x),(9,pz y)]/\IvS w k2 k5 kr u v x y M U' V X' Y/\IvN (nv A 4) U' V X' Y/\1<=nv U' 4/\nv U' 4<=nv U 4/\Fr NoT w0 w) ((nv U 4).toNat) ?_ ?_
  ·replace H:Hd a 64 [] [(3,_),(4,_),(5,_),(6,_),(7,_),(8,_),(9,_)]:=H.pick [3,4,5,6,7,8,9]
   exact ⟨U,X,rfl,H,hI,hN,hu0,Int.le_refl _,hF⟩
  clear H a
  intro mm a w hL
  clear hI hN hF hu0 hu1
  obtain ⟨U2,X2,hmm,H,hI,hN,hu0,hul2,hF⟩:=hL
  subst hmm
  refine Sq (Sq (Rl [_,_,_] (wl H (Ez.ld30 H rfl (hI.u)) rfl ?_)));clear H a;intro a H
  refine wk H cf49 (u256IsOdd U2 w hN.wu) rfl rfl ?_
  rintro _ w1 ⟨rfl,hF1⟩
  refine ⟨_,rfl,?_⟩;clear H a;intro a H
  have hI:=hI.fr0 hF1
  have hF:=hF.trans hF1
  obtain ⟨wQ,hwQ⟩:∃z,z=w1:=⟨w1,rfl⟩
  rw [<-hwQ] at hI hF ⊢
  clear hwQ
  refine wl H (Ez.not H rfl rfl) rfl (kP [(3,_),(4,_),(5,_),(6,_),(7,_),(8,_),(9,_),(28,_)] rfl (kW ?_));clear H a;intro a H
  refine Cs (H.o rfl) (fun hb2=>?_) (fun hb2=>?_)
  ·have hev:¬nv U2 4 % 2=1:=by simpa using hb2
   refine Wk0 (thn (Wb ?_))
   refine Kl (fun w=>IvS w k2 k5 kr u v x y M U2 V X2 Y) [5,6] [_,_,_,_,_,_,_] [(true,0),(true,2),(true,3),(false,1),(false,4),(false,5),(false,6)] Qb (fun _ _ _ _ _ h=>h) (by kernel_rfl) ?_
   intro w1 hw
   have hI:=hI.fr0 (hw.fr NoT)
   have hF:=hF.trans (hw.fr NoT)
   obtain ⟨wA,hwA⟩:∃z,z=w1:=⟨w1,rfl⟩
   rw [<-hwA] at hI hF ⊢
   clear hwA hw
   refine ⟨hI,?_⟩
   refine mkp rfl H (fun w2 hS=>Ez.ld30 H rfl (hS.u)) rfl ?_;clear H a;intro a H
   refine mkp rfl H (fun w2 hS=>Ez.ld30 H rfl (hS.x)) rfl ?_;clear H a;intro a H
   refine mkp rfl H (fun w2 hS=>Ez.ld30 H rfl (hS.m)) rfl ?_;clear H a;intro a H
   refine mkk rfl H cf50 (u256Half U2 0 wA hN.wu (.inl rfl)) rfl rfl ?_
   rintro _ w1 ⟨U1,rfl,hWU1,hvU1,hF1⟩
   refine ⟨_,rfl,hI.fr0 hF1,?_⟩;clear H a;intro a H
   have hI:=hI.fr0 hF1
   have hF:=hF.trans hF1
   obtain ⟨wB,hwB⟩:∃z,z=w1:=⟨w1,rfl⟩
   rw [<-hwB] at hI hF ⊢
   clear hwB
   refine mkk rfl H cf51 (u256HalfMod X2 M wB hN.wx hWM) rfl rfl ?_
   rintro _ w1 ⟨X1,rfl,hWX1,hvX1,hF1⟩
   refine ⟨_,rfl,hI.fr0 hF1,?_⟩;clear H a;intro a H
   have hI:=hI.fr0 hF1
   have hF:=hF.trans hF1
   obtain ⟨wC,hwC⟩:∃z,z=w1:=⟨w1,rfl⟩
   rw [<-hwC] at hI hF ⊢
   clear hwC
   refine mks rfl H (Ez.st30 H rfl rfl hI.u rfl) rfl ?_;clear H;intro H
   have hI:=hI.setU (Z:=U1) hD
   have hF:=hF.put hul (us:=wd4 U1)
   refine mks rfl H (Ez.st30 H rfl rfl hI.x rfl) rfl ?_;clear H;intro H
   replace H:Hd a 64 [] [(3,_),(4,_),(5,_),(6,_),(7,_),(8,_),(9,_)]:=H.pick [3,4,5,6,7,8,9]
   refine mke' ?_
   have hI:=hI.setX (Z:=X1) hD
   have hF:=hF.put hxl (us:=wd4 X1)
   refine bn (thn ?_)
   replace H:Hd a 64 [] [(3,_),(4,_),(5,_),(6,_),(7,_),(8,_),(9,_)]:=H.pick [3,4,5,6,7,8,9]
   obtain ⟨hN,hu0,hlt⟩:=hN.half hMN hu0 hev hWU1 hWX1 hvU1 hvX1
   exact ⟨_,by omega,_,_,rfl,H,hI,hN,hu0,by omega,hF⟩
  have hodd:nv U2 4 % 2=1:=by simpa using hb2
  refine We (thx (thx (bxe (thn (Sq (Wb ?_))))))
  refine Qo (fun mm a w=>∃(V' Y':Nat->Int),mm=(nv V' 4).toNat/\Hd a 64 [] [(3,pz k2),(4,pz kr),(5,pz k5),(6,pz u),(7,pz v),(8,pz x),(9,pz y)]/\IvS w k2 k5 kr u v x y M U2 V' X2 Y'/\IvN (nv A 4) U2 V' X2 Y'/\nv V' 4<=nv V 4/\Fr NoT w0 w) ((nv V 4).toNat) ?_ ?_
  ·replace H:Hd a 64 [] [(3,_),(4,_),(5,_),(6,_),(7,_),(8,_),(9,_)]:=H.pick [3,4,5,6,7,8,9]
   exact ⟨V,Y,rfl,H,hI,hN,Int.le_refl _,hF⟩
  clear H a
  intro mm a w hL
  clear hI hN hF
  obtain ⟨V2,Y2,hmm,H,hI,hN,hvl2,hF⟩:=hL
  subst hmm
  refine Sq (Sq (Rl [_,_,_] (wl H (Ez.ld30 H rfl (hI.v)) rfl ?_)));clear H a;intro a H
  refine wk H cf49 (u256IsOdd V2 w hN.wv) rfl rfl ?_
  rintro _ w1 ⟨rfl,hF1⟩
  refine ⟨_,rfl,?_⟩;clear H a;intro a H
  have hI:=hI.fr0 hF1
  have hF:=hF.trans hF1
  obtain ⟨wQ,hwQ⟩:∃z,z=w1:=⟨w1,rfl⟩
  rw [<-hwQ] at hI hF ⊢
  clear hwQ
  refine wl H (Ez.not H rfl rfl) rfl (kP [(3,_),(4,_),(5,_),(6,_),(7,_),(8,_),(9,_),(36,_)] rfl (kW ?_));clear H a;intro a H
  refine Cs (H.o rfl) (fun hb3=>?_) (fun hb3=>?_)
  ·have hev:¬nv V2 4 % 2=1:=by simpa using hb3
   refine Wk0 (thn (Wb ?_))
   refine Kl (fun w=>IvS w k2 k5 kr u v x y M U2 V2 X2 Y2) [5,6] [_,_,_,_,_,_,_] [(true,0),(true,2),(true,3),(false,1),(false,4),(false,5),(false,6)] Qb (fun _ _ _ _ _ h=>h) (by kernel_rfl) ?_
   intro w1 hw
   have hI:=hI.fr0 (hw.fr NoT)
   have hF:=hF.trans (hw.fr NoT)
   obtain ⟨wA,hwA⟩:∃z,z=w1:=⟨w1,rfl⟩
   rw [<-hwA] at hI hF ⊢
   clear hwA hw
   refine ⟨hI,?_⟩
   refine mkp rfl H (fun w2 hS=>Ez.ld30 H rfl (hS.v)) rfl ?_;clear H a;intro a H
   refine mkp rfl H (fun w2 hS=>Ez.ld30 H rfl (hS.y)) rfl ?_;clear H a;intro a H
   refine mkp rfl H (fun w2 hS=>Ez.ld30 H rfl (hS.m)) rfl ?_;clear H a;intro a H
   refine mkk rfl H cf50 (u256Half V2 0 wA hN.wv (.inl rfl)) rfl rfl ?_
   rintro _ w1 ⟨U1,rfl,hWU1,hvU1,hF1⟩
   refine ⟨_,rfl,hI.fr0 hF1,?_⟩;clear H a;intro a H
   have hI:=hI.fr0 hF1
   have hF:=hF.trans hF1
   obtain ⟨wB,hwB⟩:∃z,z=w1:=⟨w1,rfl⟩
   rw [<-hwB] at hI hF ⊢
   clear hwB
   refine mkk rfl H cf51 (u256HalfMod Y2 M wB hN.wy hWM) rfl rfl ?_
   rintro _ w1 ⟨X1,rfl,hWX1,hvX1,hF1⟩
   refine ⟨_,rfl,hI.fr0 hF1,?_⟩;clear H a;intro a H
   have hI:=hI.fr0 hF1
   have hF:=hF.trans hF1
   obtain ⟨wC,hwC⟩:∃z,z=w1:=⟨w1,rfl⟩
   rw [<-hwC] at hI hF ⊢
   clear hwC
   refine mks rfl H (Ez.st30 H rfl rfl hI.v rfl) rfl ?_;clear H;intro H
   have hI:=hI.setV (Z:=U1) hD
   have hF:=hF.put hvl (us:=wd4 U1)
   refine mks rfl H (Ez.st30 H rfl rfl hI.y rfl) rfl ?_;clear H;intro H
   replace H:Hd a 64 [] [(3,_),(4,_),(5,_),(6,_),(7,_),(8,_),(9,_)]:=H.pick [3,4,5,6,7,8,9]
   refine mke' ?_
   have hI:=hI.setY (Z:=X1) hD
   have hF:=hF.put hyl (us:=wd4 X1)
   refine bn (thn ?_)
   replace H:Hd a 64 [] [(3,_),(4,_),(5,_),(6,_),(7,_),(8,_),(9,_)]:=H.pick [3,4,5,6,7,8,9]
   obtain ⟨hN,hv0,hlt⟩:=(hN.swap hu0).half hMN hN.v1 hev hWU1 hWX1 hvU1 hvX1
   exact ⟨_,by have:=hv0;omega,_,_,rfl,H,hI,hN.swap hv0,by omega,hF⟩
  have hodv:nv V2 4 % 2=1:=by simpa using hb3
  refine We (thx (thx (bxe (thn (Sq (Rl [_,_,_] (wl H (Ez.ld30 H rfl (hI.u)) rfl (kL (fun a H=>Ez.ld30 H rfl (hI.v)) rfl ?_))))))));clear H a;intro a H
  refine wk H cf44 (u256Less U2 V2 wQ hN.wu hN.wv) rfl rfl ?_
  rintro _ w1 ⟨rfl,hF1⟩
  refine ⟨_,rfl,?_⟩;clear H a;intro a H
  have hI:=hI.fr0 hF1
  have hF:=hF.trans hF1
  obtain ⟨wP,hwP⟩:∃z,z=w1:=⟨w1,rfl⟩
  rw [<-hwP] at hI hF ⊢
  clear hwP
  refine kP [(3,_),(4,_),(5,_),(6,_),(7,_),(8,_),(9,_),(44,_)] rfl (kW ?_) a H;clear H a;intro a H
  refine Cs (H.o rfl) (fun hb4=>?_) (fun hb4=>?_)
  ·have hlt:=Dt hb4
   refine Kl (fun w=>IvS w k2 k5 kr u v x y M U2 V2 X2 Y2) [7,8] [_,_,_,_,_,_,_,_,_] [(true,0),(true,1),(true,3),(true,4),(true,5),(false,2),(false,6),(false,7),(false,8)] Qb (fun _ _ _ _ _ h=>h) (by kernel_rfl) ?_
   intro w1 hw
   have hI:=hI.fr0 (hw.fr NoT)
   have hF:=hF.trans (hw.fr NoT)
   obtain ⟨wA,hwA⟩:∃z,z=w1:=⟨w1,rfl⟩
   rw [<-hwA] at hI hF ⊢
   clear hwA hw
   refine ⟨hI,?_⟩
   refine mkp rfl H (fun w2 hS=>Ez.ld30 H rfl (hS.v)) rfl ?_;clear H a;intro a H
   refine mkp rfl H (fun w2 hS=>Ez.ld30 H rfl (hS.u)) rfl ?_;clear H a;intro a H
   refine mkp rfl H (fun w2 hS=>Ez.ld30 H rfl (hS.y)) rfl ?_;clear H a;intro a H
   refine mkp rfl H (fun w2 hS=>Ez.ld30 H rfl (hS.x)) rfl ?_;clear H a;intro a H
   refine mkp rfl H (fun w2 hS=>Ez.ld30 H rfl (hS.m)) rfl ?_;clear H a;intro a H
   refine mkk rfl H cf45 (u256Sub V2 U2 wA hN.wv hN.wu) rfl rfl ?_
   rintro _ w1 ⟨U1,rfl,hWU1,hvU1,hF1⟩
   refine ⟨_,rfl,hI.fr0 hF1,?_⟩;clear H a;intro a H
   have hI:=hI.fr0 hF1
   have hF:=hF.trans hF1
   obtain ⟨wB,hwB⟩:∃z,z=w1:=⟨w1,rfl⟩
   rw [<-hwB] at hI hF ⊢
   clear hwB
   refine mkk rfl H cf28 (u256SubMod Y2 X2 M wB hN.wy hN.wx hWM (by rw [hMN];exact hN.yl) (by rw [hMN];exact hN.xl)) rfl rfl ?_
   rintro _ w1 ⟨X1,rfl,hWX1,hvX1,hF1⟩
   refine ⟨_,rfl,hI.fr0 hF1,?_⟩;clear H a;intro a H
   have hI:=hI.fr0 hF1
   have hF:=hF.trans hF1
   obtain ⟨wC,hwC⟩:∃z,z=w1:=⟨w1,rfl⟩
   rw [<-hwC] at hI hF ⊢
   clear hwC
   refine mks rfl H (Ez.st30 H rfl rfl hI.v rfl) rfl ?_;clear H;intro H
   have hI:=hI.setV (Z:=U1) hD
   have hF:=hF.put hvl (us:=wd4 U1)
   refine mks rfl H (Ez.st30 H rfl rfl hI.y rfl) rfl ?_;clear H;intro H
   replace H:Hd a 64 [] [(3,_),(4,_),(5,_),(6,_),(7,_),(8,_),(9,_)]:=H.pick [3,4,5,6,7,8,9]
   refine mke' ?_
   have hI:=hI.setY (Z:=X1) hD
   have hF:=hF.put hyl (us:=wd4 X1)
   have hv0:=hN.v1
   obtain ⟨hN,he⟩:=(hN.swap hu0).sub hMN (by omega) hWU1 hWX1 hvU1 hvX1
   have hN:=hN.swap (by omega)
   have hlt:(nv U2 4+nv U1 4).toNat < (nv U 4+nv V 4).toNat:=by omega
   refine bn (thn ?_)
   replace H:Hd a 64 [] [(3,_),(4,_),(5,_),(6,_),(7,_),(8,_),(9,_)]:=H.pick [3,4,5,6,7,8,9]
   exact ⟨_,hlt,_,_,_,_,rfl,H,hI,hN,hF⟩
  have hge:=Df hb4
  refine Kl (fun w=>IvS w k2 k5 kr u v x y M U2 V2 X2 Y2) [7,8] [_,_,_,_,_,_,_,_,_] [(true,0),(true,1),(true,3),(true,4),(true,5),(false,2),(false,6),(false,7),(false,8)] Qb (fun _ _ _ _ _ h=>h) (by kernel_rfl) ?_
  intro w1 hw
  have hI:=hI.fr0 (hw.fr NoT)
  have hF:=hF.trans (hw.fr NoT)
  obtain ⟨wA,hwA⟩:∃z,z=w1:=⟨w1,rfl⟩
  rw [<-hwA] at hI hF ⊢
  clear hwA hw
  refine ⟨hI,?_⟩
  refine mkp rfl H (fun w2 hS=>Ez.ld30 H rfl (hS.u)) rfl ?_;clear H a;intro a H
  refine mkp rfl H (fun w2 hS=>Ez.ld30 H rfl (hS.v)) rfl ?_;clear H a;intro a H
  refine mkp rfl H (fun w2 hS=>Ez.ld30 H rfl (hS.x)) rfl ?_;clear H a;intro a H
  refine mkp rfl H (fun w2 hS=>Ez.ld30 H rfl (hS.y)) rfl ?_;clear H a;intro a H
  refine mkp rfl H (fun w2 hS=>Ez.ld30 H rfl (hS.m)) rfl ?_;clear H a;intro a H
  refine mkk rfl H cf45 (u256Sub U2 V2 wA hN.wu hN.wv) rfl rfl ?_
  rintro _ w1 ⟨U1,rfl,hWU1,hvU1,hF1⟩
  refine ⟨_,rfl,hI.fr0 hF1,?_⟩;clear H a;intro a H
  have hI:=hI.fr0 hF1
  have hF:=hF.trans hF1
  obtain ⟨wB,hwB⟩:∃z,z=w1:=⟨w1,rfl⟩
  rw [<-hwB] at hI hF ⊢
  clear hwB
  refine mkk rfl H cf28 (u256SubMod X2 Y2 M wB hN.wx hN.wy hWM (by rw [hMN];exact hN.xl) (by rw [hMN];exact hN.yl)) rfl rfl ?_
  rintro _ w1 ⟨X1,rfl,hWX1,hvX1,hF1⟩
  refine ⟨_,rfl,hI.fr0 hF1,?_⟩;clear H a;intro a H
  have hI:=hI.fr0 hF1
  have hF:=hF.trans hF1
  obtain ⟨wC,hwC⟩:∃z,z=w1:=⟨w1,rfl⟩
  rw [<-hwC] at hI hF ⊢
  clear hwC
  refine mks rfl H (Ez.st30 H rfl rfl hI.u rfl) rfl ?_;clear H;intro H
  have hI:=hI.setU (Z:=U1) hD
  have hF:=hF.put hul (us:=wd4 U1)
  refine mks rfl H (Ez.st30 H rfl rfl hI.x rfl) rfl ?_;clear H;intro H
  replace H:Hd a 64 [] [(3,_),(4,_),(5,_),(6,_),(7,_),(8,_),(9,_)]:=H.pick [3,4,5,6,7,8,9]
  refine mke' ?_
  have hI:=hI.setX (Z:=X1) hD
  have hF:=hF.put hxl (us:=wd4 X1)
  have hv0:=hN.v1
  obtain ⟨hN,he⟩:=hN.sub hMN (by omega) hWU1 hWX1 hvU1 hvX1
  have hlt:(nv U1 4+nv V2 4).toNat < (nv U 4+nv V 4).toNat:=by omega
  refine bn (thn ?_)
  replace H:Hd a 64 [] [(3,_),(4,_),(5,_),(6,_),(7,_),(8,_),(9,_)]:=H.pick [3,4,5,6,7,8,9]
  exact ⟨_,hlt,_,_,_,_,rfl,H,hI,hN,hF⟩
 have hv1:nv V 4=1:=by rw [ONE_nv] at hb1;simpa using hb1
 refine We (thx (thx (bxe (thn (Sq (Sq (Rl [_,_,_] (wl H (Ez.ld30 H rfl (hI.u)) rfl (kL (fun a H=>Ez.ld30 H rfl (hI.o)) rfl (kL (fun a H=>Ez.eql30 H rfl rfl hN.wu ONE_W4 (r:=false) (by rw [ONE_nv];simp [hu1])) rfl (kP [(4,_),(8,_),(9,_),(61,_)] rfl (kW ?_))))))))))));clear H a;intro a H
 refine Cf (H.o rfl) (Wk0 (thn (Sq (Rl [_,_] (wl H (Ez.ld30 H rfl (hI.y)) rfl ?_)))));clear H a;intro a H
 refine wls H (Ez.st30 H rfl rfl hI.r rfl) ?_;clear H;intro H
 refine kP [(4,_)] rfl (kW ?_) a H;clear H a;intro a H
 refine Wr ?_
 obtain ⟨hR3,hfs⟩:=hI.r.set (vs:=wd4 Y) rfl
 have hF3:=hF.put hkrl (us:=wd4 Y)
 exact rt30 H rfl rfl hR3 ⟨_,rfl,hN.wy,IvN.inv hN.wy hN.yl (by have:=hN.ay;rwa [hv1] at this) h0,hF3⟩
end
section
set_option maxRecDepth 8000
def wd16 (F:Nat->Int):List Value:=(List.range 16).map fun j=>.int .u64 (F j)
def row4 (F:Nat->Int) (i:Nat):Nat->Int:=fun j=>F (4*i+j)
def put4 (F:Nat->Int) (i:Nat) (X:Nat->Int):Nat->Int:=fun j=>if 4*i<=j/\j < 4*i+4 then X (j - 4*i) else F j
theorem Jz (F:Nat->Int):(wd16 F).length=16:=by simp [wd16]
theorem wd16_get {F:Nat->Int} {j:Nat} (hj:j < 16):(wd16 F)[j]?=some (.int .u64 (F j)):=by simp [wd16,hj]
theorem wd4_len (X:Nat->Int):(wd4 X).length=4:=rfl
section
variable {w:World} {b o i:Nat} {F X:Nat->Int}
theorem Rg.row (h:Rg w b o (wd16 F)) (hi:i < 4):Rg w b (o+4*i) (wd4 (row4 F i)):=
 ⟨fun j v hj=>by
  have hjn:j < 4:=(List.getElem?_eq_some_iff.1 hj).1
  rw [Q0 hjn] at hj;cases hj
  have:=h.cell (wd16_get (F:=F) (show 4*i+j < 16 by omega))
  rwa [<-Nat.add_assoc] at this,fun j hj=>by
  have hj:j < 4:=hj
  have:=h.fz (4*i+j) (by rw [Jz];omega)
  rwa [<-Nat.add_assoc] at this⟩
theorem Rg.putRow (h:Rg w b o (wd16 F)) (hi:i < 4):Rg (w.setCells b (o+4*i) (wd4 X)) b o (wd16 (put4 F i X)):=by
 have h2:=h.row hi
 obtain ⟨h3,h4⟩:=h2.set (vs:=wd4 X) rfl
 refine ⟨fun j v hj=>?_,fun j hj=>by rw [World.frozen?_setCells];exact h.fz j (by rw [Jz] at hj ⊢;exact hj)⟩
 have hjm:j < 16:=by have:=(List.getElem?_eq_some_iff.1 hj).1;rwa [Jz] at this
 rw [wd16_get hjm] at hj;cases hj
 unfold put4
 by_cases c:4*i<=j/\j < 4*i+4
 ·rw [if_pos c]
  have:=h3.cell (Q0 (X:=X) (show j - 4*i < 4 by omega))
  rwa [show o+4*i+(j - 4*i)=o+j by omega] at this
 rw [if_neg c]
 exact h4.someCell (h.cell (wd16_get hjm)) (fun f=>by have f:=f.2;rw [wd4_len] at f;omega)
end
def RegZ (F V:Nat->Int):Prop:=∀i,i < 4->W4 (row4 F i)/\nv (row4 F i) 4=V i/\V i < NN
theorem RegZ.zero:RegZ Z0 Z0:=fun i _=>⟨Z0_W4,Z0_nv,(by decide:(0:Int) < NN)⟩
theorem W4.congr {X Y:Nat->Int} (h:W4 X) (e:∀j,j < 4->Y j=X j):W4 Y:=fun j hj=>by rw [e j hj];exact h j hj
theorem RegZ.upd {F V X:Nat->Int} {i:Nat} (h:RegZ F V) (hX:W4 X) (hl:nv X 4 < NN):RegZ (put4 F i X) (upV V i (nv X 4)):=fun k hk=>by
 by_cases e:k=i
 ·subst e
  have e:∀j,j < 4->row4 (put4 F k X) k j=X j:=fun j hj=>by
   unfold row4 put4;rw [if_pos (by omega)];congr 1;omega
  rw [upV_eq]
  exact ⟨hX.congr e,Ja 4 e,hl⟩
 have e2:∀j,j < 4->row4 (put4 F i X) k j=row4 F k j:=fun j hj=>by
  unfold row4 put4;rw [if_neg (by omega)]
 rw [upV_ne e]
 exact ⟨(h k hk).1.congr e2,by rw [Ja 4 e2];exact (h k hk).2.1,(h k hk).2.2⟩
namespace Ez
section
variable {a:Act} {N:Nat} {ds:List Deferred} {l:Env} {w:World} {d:Option Nat} {ty:TypeId} {pos:String} {after:Array Edge} {g:Option (Nat × Bool)}
theorem ix39 (H:Hd a N ds l) {x y:Operand} {b o:Nat} {k:IntKind} {i:Int} (h:ov l x=some (.pointer (some ⟨b,o,none⟩))) (h':ov l y=some (.int k i)) (j:Nat) (hj:i=(j:Int)) (hn:j < 4):(execOp a.eval ⟨d,.indexAddr 39 x y,ty,pos,after,g⟩).run Tryz.prog w=.ok (.value (.pointer (some ⟨b,o+4*j,none⟩))) w:=by
 have e:=H.o h
 have e':=H.o h'
 subst hj
 have h1:(0:Int)<=(j:Int)/\(j:Int) < 4:=by omega
 simp only [execOp,e,e']
 rw [Nat.mul_comm 4 j]
 go_simp
 try (intro hle;exact absurd hle (by omega))
theorem ld39 (H:Hd a N ds l) {x:Operand} {b o:Nat} {F:Nat->Int} (h:ov l x=some (.pointer (some ⟨b,o,none⟩))) (hR:Rg w b o (wd16 F)):(execOp a.eval ⟨d,.load 39 x,ty,pos,after,g⟩).run Tryz.prog w=.ok (.value (.agg (wd16 F).toArray)) w:=
 ldR H 39 (.array 4 30) (by kernel_rfl) rfl (by rw [Jz];kernel_rfl) h hR.at_
theorem al39:(execOp a.eval ⟨d,.alloc 39,ty,pos,after,g⟩).run Tryz.prog w=.ok (.value (.pointer (some ⟨w.heap.size,0,none⟩))) (w.alloc (.cells (wd16 Z0).toArray 39)):=alR 39 _ 16 (by kernel_rfl)
theorem callV (H:Hd a N ds l) {f:FuncId} {y:Operand} {xs:Array Operand} {vs:List Value} {ts:Array TypeId} (hy:ov l y=some (.func (.func f) #[] #[])) (hx:xs.toList.map (ov l)=vs.map some) (hF:(callFunc f vs.toArray).run Tryz.prog w=.ok (.enter f vs.toArray) w):
 (execOp a.eval ⟨d,.call { callee:=.value y,args:=xs,argTypes:=ts},ty,pos,after,g⟩).run Tryz.prog w=.ok (.enter f vs.toArray) w:=by
 have e:a.eval y=a.eval (.func f):=H.o hy
 have h:=call (a:=a) (d:=d) (ty:=ty) (pos:=pos) (after:=after) (g:=g) (ts:=ts) (w:=w) H hx hF
 simp only [execOp,resolve] at h ⊢
 rw [e];exact h
theorem eqItems_refl (w:World) (k n:Nat) (e:TypeId) (xs:Array Value):∀is:List Nat,(∀i ∈ is,∃v,(part e xs (i*n)).run Tryz.prog w=.ok v w/\(Op.equalIn k e v v).run Tryz.prog w=.ok true w)->(Op.eqItems k e n xs xs is).run Tryz.prog w=.ok true w
 | [],_=>by simp [Op.eqItems]
 | i::is,h=>by
   obtain ⟨v,h1,h2⟩:=h i List.mem_cons_self
   have ih:=eqItems_refl w k n e xs is (fun j hj=>h j (List.mem_cons_of_mem _ hj))
   simp only [Op.eqItems,Sem.run_bind,h1,h2,Result.andThen_ok]
   simp [ih]
theorem isAgg5 (w:World):(isAgg 5).run Tryz.prog w=.ok false w:=by
 have hh:Tryz.prog.underlying 5=some (.int .u8):=by kernel_rfl
 unfold isAgg
 rw [Sem.run_bind,run_underlying hh w]
 rfl
theorem isAgg24 (w:World):(isAgg 24).run Tryz.prog w=.ok true w:=by
 have hh:Tryz.prog.underlying 24=some (.array 32 5):=by kernel_rfl
 unfold isAgg
 rw [Sem.run_bind,run_underlying hh w]
 rfl
theorem eqRow (w:World) (k:Nat) (Y:Nat->Int):(Op.equalIn (k+2) 24 (.agg (by8 Y 32).toArray) (.agg (by8 Y 32).toArray)).run Tryz.prog w=.ok true w:=by
 have hc:Tryz.prog.cellsOf 5=1:=by kernel_rfl
 have hi:∃i,Tryz.prog.info? 5=some i:=by
  have hh:(Tryz.prog.info? 5).isSome=true:=by kernel_rfl
  exact Option.isSome_iff_exists.1 hh
 obtain ⟨i,hi⟩:=hi
 rw [run_equalIn_array (P:=Tryz.prog) w (k+1) (t:=24) (e:=5) (n:=32) (by8 Y 32).toArray (by8 Y 32).toArray (by kernel_rfl) hi,hc]
 refine eqItems_refl w _ _ _ _ _ fun j hj=>?_
 have hj:=List.mem_range.1 hj
 refine ⟨.int .u8 (Y j),?_,?_⟩
 ·have e:(by8 Y 32).toArray[j*1]?=some (.int .u8 (Y j)):=by rw [Nat.mul_one];simpa using Q8 (Y:=Y) hj
  unfold part
  rw [Sem.run_bind,isAgg5]
  simp only [Result.andThen,Bool.false_eq_true,if_false,e]
  rfl
 rw [run_equalIn_int (P:=Tryz.prog) w k 5 .u8 .u8 _ _ (by kernel_rfl)]
 simp
theorem by8_row (F:Nat->Int) {i:Nat} (hi:i < 4):(by8 F 128).toArray.extract (i*32) (i*32+32)=(by8 (fun j=>F (i*32+j)) 32).toArray:=by
 apply Array.toList_inj.mp
 rw [Array.toList_extract]
 refine List.ext_getElem? fun j=>?_
 rw [List.extract_eq_take_drop]
 by_cases hj:j < 32
 ·rw [List.getElem?_take_of_lt (by omega),List.getElem?_drop]
  show (by8 F 128)[i*32+j]?=_
  rw [Q8 (by omega)]
  exact (Q8 (Y:=fun j=>F (i*32+j)) hj).symm
 rw [List.getElem?_eq_none (by rw [List.length_take];omega),List.getElem?_eq_none (by simp [Qh];omega)]
theorem eql25 (H:Hd a N ds l) {x y:Operand} {F:Nat->Int} {u:TypeId} (h:ov l x=some (.agg (by8 F 128).toArray)) (h':ov l y=some (.agg (by8 F 128).toArray)):
 (execOp a.eval ⟨d,.binOp .eql 25 x y u,ty,pos,after,g⟩).run Tryz.prog w=.ok (.value (.bool true)) w:=by
 have e:=H.o h
 have e':=H.o h'
 have q:(execOp a.eval ⟨d,.binOp .eql 25 x y u,ty,pos,after,g⟩)=(do let _ <-eqGuard .eql 25 x y (.agg (by8 F 128).toArray) (.agg (by8 F 128).toArray);let v <-binOp .eql 25 (.agg (by8 F 128).toArray) (.agg (by8 F 128).toArray);pure (.value v)):=by simp only [execOp,e,e',bind_assoc]
 have hg:=run_eqGuard_agg (P:=Tryz.prog) w .eql 25 x y (by8 F 128).toArray (by8 F 128).toArray (by kernel_rfl)
 have hc:Tryz.prog.cellsOf 24=32:=by kernel_rfl
 have hi:∃i,Tryz.prog.info? 24=some i/\i.size=32:=by
  have hh:(Tryz.prog.info? 24).map (·.size)=some 32:=by kernel_rfl
  cases he:Tryz.prog.info? 24 with
  | none=>rw [he] at hh;cases hh
  | some i=>rw [he] at hh;exact ⟨i,rfl,by simpa using hh⟩
 obtain ⟨i,hi,hs⟩:=hi
 have qe:=run_equalIn_array (P:=Tryz.prog) w 9999 (t:=25) (e:=24) (n:=4) (by8 F 128).toArray (by8 F 128).toArray (by kernel_rfl) hi
 rw [hc,eqItems_refl w 9999 32 24 _ _ (fun j hj=>by
  have hj:=List.mem_range.1 hj
  refine ⟨.agg (by8 (fun m=>F (j*32+m)) 32).toArray,?_,eqRow w 9997 _⟩
  unfold part
  rw [Sem.run_bind,isAgg24]
  simp only [Result.andThen,if_true,Sem.run_bind,run_sizeOf w hi,hc,by8_row F hj]
  rfl)] at qe
 rw [q]
 simp only [Sem.run_bind,hg,run_eql_struct,qe,Result.andThen_ok,Sem.run_pure]
end
end Ez
theorem be_inj {Y Z:Nat->Int}:∀n,B8 Y n->B8 Z n->be Y n=be Z n->∀j,j < n->Y j=Z j
 | 0,_,_,_,j,hj=>by omega
 | n+1,hY,hZ,h,j,hj=>by
   simp only [be] at h
   have h1:=hY n (by omega)
   have h2:=hZ n (by omega)
   have e:be Y n=be Z n/\Y n=Z n:=by omega
   rcases Nat.lt_or_ge j n with c | c
   ·exact be_inj n (fun i hi=>hY i (by omega)) (fun i hi=>hZ i (by omega)) e.1 j c
   obtain rfl:j=n:=by omega
   exact e.2
end
section
set_option maxRecDepth 8000
theorem inFour (i:Int) (w:World):
 Calls Tryz.prog 24 #[.int .i64 i] w fun e w'=>e=.returned (.bool (decide (0<=i/\i < 4)))/\w=w':=by
 refine Qd (vs:= [.int .i64 i]) Tryz.func24 rfl rfl ?_
 intro a H
 replace H:Hd a 9 [] [(0,.int .i64 i)]:=H
 refine Sq (Rl [_] (wl H (Ez.asn H rfl) rfl (kW (kS ?_))));clear H a;intro a H
 by_cases h0:0<=i
 ·refine Rl [_,_,_,_,_,_,_] (wl H (Ez.mv H rfl) rfl (kL (fun a H=>Ez.geq (r:=true) H rfl rfl (by (simp;omega))) rfl (kM rfl rfl (kG (fun a H=>Ez.mv H rfl) rfl rfl rfl rfl rfl (kG (fun a H=>Ez.lss H rfl rfl (rfl)) rfl rfl rfl rfl rfl (kL (fun a H=>Ez.pkT H rfl rfl) rfl (kA rfl rfl (kP [(2,_)] rfl (kW ?_)))))))));clear H a;intro a H
  refine Wr ?_
  refine rt1 H rfl rfl ?_
  exact ⟨by rw [show decide (0<=i/\i < 4)=decide (i < 4) from decide_eq_decide.2 ⟨fun h=>h.2,fun h=>⟨h0,h⟩⟩],rfl⟩
 refine Rl [_,_,_,_,_,_,_] (wl H (Ez.mv H rfl) rfl (kL (fun a H=>Ez.geq (r:=false) H rfl rfl (by (simp;omega))) rfl (kM rfl rfl (kX rfl rfl rfl rfl rfl (kX rfl rfl rfl rfl rfl (kL (fun a H=>Ez.pkF H rfl rfl) rfl (kA rfl rfl (kP [(2,_)] rfl (kW ?_)))))))));clear H a;intro a H
 refine Wr ?_
 refine rt1 H rfl rfl ?_
 exact ⟨by rw [show decide (0<=i/\i < 4)=false by simp;omega],rfl⟩
def Good (op t p q:Int) (V:Nat->Int):Prop:=(0<=op/\op<=12)/\(0<=t/\t < 4)/\(0<=p/\p < 4)/\(0<=q/\q < 4)/\(op=11->V t.toNat≠0)/\(op=12->V p.toNat≠0)
theorem fits (F:Nat->Int) (op t p q n:Int) (Y:Nat->Int) (w:World) (V:Nat->Int) (hZ:RegZ F V):
 Calls Tryz.prog 12 #[.agg (wd16 F).toArray,.agg (vs35 op t p q n Y).toArray] w fun e w'=>∃r,e=.returned (.bool r)/\(r=true↔Good op t p q V)/\Fr NoT w w':=by
 obtain ⟨w0,hw0⟩:∃w0,w0=w:=⟨w,rfl⟩
 rw [<-hw0]
 clear hw0 w
 refine Qd (vs:= [.agg (wd16 F).toArray,.agg (vs35 op t p q n Y).toArray]) Tryz.func12 rfl rfl ?_
 intro a H
 replace H:Hd a 69 [] [(0,.agg (wd16 F).toArray),(1,.agg (vs35 op t p q n Y).toArray)]:=H
 refine Sq (Rl [_,_,_] (wl H (Ez.boxR H rfl) rfl (kL (fun a H=>Ez.boxR H rfl) rfl (kA rfl rfl (kP [(2,_),(3,_),(4,_)] rfl (kW ?_))))));clear H a;intro a H
 have hF:=Fr.refl NoT w0
 have hsz0:=hF.size
 have hA:=Rg.new w0 (wd16 F) 39
 have hFn:=(Fr.refl NoT w0).alloc (.cells (wd16 F).toArray 39)
 have hF:=hF.alloc (.cells (wd16 F).toArray 39)
 obtain ⟨k1,hk1⟩:∃g,g=w0.heap.size:=⟨_,rfl⟩
 rw [<-hk1] at H hA
 have hk1l:w0.heap.size<=k1:=by first | omega | (rw [hk1];exact hsz0)
 have hsz0:=hF.size
 generalize w0.alloc (.cells (wd16 F).toArray 39)=wA at*
 have hB:=Rg.new wA (vs35 op t p q n Y) 35
 have hFn:=(Fr.refl NoT wA).alloc (.cells (vs35 op t p q n Y).toArray 35)
 have hF:=hF.alloc (.cells (vs35 op t p q n Y).toArray 35)
 have hl_A:=hA.lt (j:=0) (by rw [Jz];decide)
 have hA:=hA.fr0 hFn
 obtain ⟨k2,hk2⟩:∃g,g=wA.heap.size:=⟨_,rfl⟩
 rw [<-hk2] at H hB
 have hk2l:w0.heap.size<=k2:=by first | omega | (rw [hk2];exact hsz0)
 have hsz0:=hF.size
 generalize wA.alloc (.cells (vs35 op t p q n Y).toArray 35)=wB at*
 have c0:=hB.cell (j:=0) (v:=.int .i64 op) rfl
 have c1:=hB.cell (j:=1) (v:=.int .i64 t) rfl
 have c2:=hB.cell (j:=2) (v:=.int .i64 p) rfl
 have c3:=hB.cell (j:=3) (v:=.int .i64 q) rfl
 clear hB hFn hl_A hk1l hk2l hk1 hk2
 refine Sq (Rl [_] (wl H (Ez.asn H rfl) rfl (kW (kS (kS ?_)))));clear H a;intro a H
 rcases (show op < 0\/(0<=op/\12 < op)\/((0<=op/\op<=12)/\¬(0<=t/\t < 4))\/((0<=op/\op<=12)/\(0<=t/\t < 4)/\¬(0<=p/\p < 4))\/((0<=op/\op<=12)/\(0<=t/\t < 4)/\(0<=p/\p < 4)/\¬(0<=q/\q < 4))\/((0<=op/\op<=12)/\(0<=t/\t < 4)/\(0<=p/\p < 4)/\(0<=q/\q < 4)) by omega) with h0 | ⟨h0,h1⟩ | ⟨h0,ht⟩ | ⟨h0,ht,hp⟩ | ⟨h0,ht,hp,hq⟩ | ⟨h0,ht,hp,hq⟩
 ·refine Rl [_,_,_,_,_,_,_,_,_,_,_,_,_,_,_,_,_,_,_,_,_,_,_,_,_,_,_,_,_] (wl H (Ez.fa35_0 H rfl) rfl (kL (fun a H=>Ez.ld3 H rfl (c0)) rfl (kL (fun a H=>Ez.lss (r:=true) H rfl rfl (by (simp;omega))) rfl (kM rfl rfl (kX rfl rfl rfl rfl rfl (kX rfl rfl rfl rfl rfl (kX rfl rfl rfl rfl rfl (kL (fun a H=>Ez.pkT H rfl rfl) rfl (kM rfl rfl (kX rfl rfl rfl rfl rfl (kX rfl rfl rfl rfl rfl (kX rfl rfl rfl rfl rfl (kX rfl rfl rfl rfl rfl (kX rfl rfl rfl rfl rfl (kL (fun a H=>Ez.pkT H rfl rfl) rfl (kM rfl rfl (kX rfl rfl rfl rfl rfl (kX rfl rfl rfl rfl rfl (kX rfl rfl rfl rfl rfl (kX rfl rfl rfl rfl rfl (kX rfl rfl rfl rfl rfl (kL (fun a H=>Ez.pkT H rfl rfl) rfl (kM rfl rfl (kX rfl rfl rfl rfl rfl (kX rfl rfl rfl rfl rfl (kX rfl rfl rfl rfl rfl (kX rfl rfl rfl rfl rfl ?_)))))))))))))))))))))))))));clear H a;intro a H
  refine wlx H rfl rfl rfl rfl rfl (kL (fun a H=>Ez.pkT H rfl rfl) rfl (kP [(2,_),(3,_),(4,_),(34,_)] rfl (kW ?_)));clear H a;intro a H
  refine Ct (H.o rfl) (Sq (Rl [_] (wl H (Ez.asn H rfl) rfl (kP [(2,_),(3,_),(4,_)] rfl (kW ?_)))));clear H a;intro a H
  refine Wr (thr ?_)
  refine rt1 H rfl rfl ?_
  exact ⟨_,rfl,⟨fun hr=>absurd hr (by simp),fun hg=>by obtain ⟨g1,g2,g3,g4,_⟩:=hg;omega⟩,hF⟩
 ·refine Rl [_,_,_,_,_,_,_,_,_,_,_,_,_,_,_,_,_,_,_,_,_,_,_,_,_,_,_,_,_] (wl H (Ez.fa35_0 H rfl) rfl (kL (fun a H=>Ez.ld3 H rfl (c0)) rfl (kL (fun a H=>Ez.lss (r:=false) H rfl rfl (by (simp;omega))) rfl (kM rfl rfl (kG (fun a H=>Ez.fa35_0 H rfl) rfl rfl rfl rfl rfl (kG (fun a H=>Ez.ld3 H rfl (c0)) rfl rfl rfl rfl rfl (kG (fun a H=>Ez.gtr (r:=true) H rfl rfl (by (simp;omega))) rfl rfl rfl rfl rfl (kL (fun a H=>Ez.pkF H rfl rfl) rfl (kM rfl rfl (kX rfl rfl rfl rfl rfl (kX rfl rfl rfl rfl rfl (kX rfl rfl rfl rfl rfl (kX rfl rfl rfl rfl rfl (kX rfl rfl rfl rfl rfl (kL (fun a H=>Ez.pkT H rfl rfl) rfl (kM rfl rfl (kX rfl rfl rfl rfl rfl (kX rfl rfl rfl rfl rfl (kX rfl rfl rfl rfl rfl (kX rfl rfl rfl rfl rfl (kX rfl rfl rfl rfl rfl (kL (fun a H=>Ez.pkT H rfl rfl) rfl (kM rfl rfl (kX rfl rfl rfl rfl rfl (kX rfl rfl rfl rfl rfl (kX rfl rfl rfl rfl rfl (kX rfl rfl rfl rfl rfl ?_)))))))))))))))))))))))))));clear H a;intro a H
  refine wlx H rfl rfl rfl rfl rfl (kL (fun a H=>Ez.pkT H rfl rfl) rfl (kP [(2,_),(3,_),(4,_),(34,_)] rfl (kW ?_)));clear H a;intro a H
  refine Ct (H.o rfl) (Sq (Rl [_] (wl H (Ez.asn H rfl) rfl (kP [(2,_),(3,_),(4,_)] rfl (kW ?_)))));clear H a;intro a H
  refine Wr (thr ?_)
  refine rt1 H rfl rfl ?_
  exact ⟨_,rfl,⟨fun hr=>absurd hr (by simp),fun hg=>by obtain ⟨g1,g2,g3,g4,_⟩:=hg;omega⟩,hF⟩
 ·refine Rl [_,_,_,_,_,_,_,_,_,_,_,_,_,_,_,_,_,_,_,_,_,_,_,_,_,_,_,_,_] (wl H (Ez.fa35_0 H rfl) rfl (kL (fun a H=>Ez.ld3 H rfl (c0)) rfl (kL (fun a H=>Ez.lss (r:=false) H rfl rfl (by (simp;omega))) rfl (kM rfl rfl (kG (fun a H=>Ez.fa35_0 H rfl) rfl rfl rfl rfl rfl (kG (fun a H=>Ez.ld3 H rfl (c0)) rfl rfl rfl rfl rfl (kG (fun a H=>Ez.gtr (r:=false) H rfl rfl (by (simp;omega))) rfl rfl rfl rfl rfl (kL (fun a H=>Ez.pkF H rfl rfl) rfl (kM rfl rfl (kG (fun a H=>Ez.mv H rfl) rfl rfl rfl rfl rfl (kG (fun a H=>Ez.fa35_1 H rfl) rfl rfl rfl rfl rfl (kG (fun a H=>Ez.ld3 H rfl (c1)) rfl rfl rfl rfl rfl ?_))))))))))));clear H a;intro a H
  refine wlgc H (Ez.callV (vs:= [.int .i64 t]) H rfl rfl (cf24 _ _)) rfl (inFour t _) rfl rfl rfl rfl ?_
  rintro _ w1 ⟨rfl,rfl⟩
  refine ⟨_,rfl,?_⟩;clear H a;intro a H
  refine wlg H (Ez.not H rfl (r:=true) (by simp [ht])) rfl rfl rfl rfl rfl (kL (fun a H=>Ez.pkF H rfl rfl) rfl (kM rfl rfl (kX rfl rfl rfl rfl rfl (kX rfl rfl rfl rfl rfl (kX rfl rfl rfl rfl rfl (kX rfl rfl rfl rfl rfl (kX rfl rfl rfl rfl rfl (kL (fun a H=>Ez.pkT H rfl rfl) rfl (kM rfl rfl (kX rfl rfl rfl rfl rfl (kX rfl rfl rfl rfl rfl (kX rfl rfl rfl rfl rfl (kX rfl rfl rfl rfl rfl (kX rfl rfl rfl rfl rfl (kL (fun a H=>Ez.pkT H rfl rfl) rfl (kP [(2,_),(3,_),(4,_),(34,_)] rfl (kW ?_)))))))))))))))));clear H a;intro a H
  refine Ct (H.o rfl) (Sq (Rl [_] (wl H (Ez.asn H rfl) rfl (kP [(2,_),(3,_),(4,_)] rfl (kW ?_)))));clear H a;intro a H
  refine Wr (thr ?_)
  refine rt1 H rfl rfl ?_
  exact ⟨_,rfl,⟨fun hr=>absurd hr (by simp),fun hg=>by obtain ⟨g1,g2,g3,g4,_⟩:=hg;omega⟩,hF⟩
 ·refine Rl [_,_,_,_,_,_,_,_,_,_,_,_,_,_,_,_,_,_,_,_,_,_,_,_,_,_,_,_,_] (wl H (Ez.fa35_0 H rfl) rfl (kL (fun a H=>Ez.ld3 H rfl (c0)) rfl (kL (fun a H=>Ez.lss (r:=false) H rfl rfl (by (simp;omega))) rfl (kM rfl rfl (kG (fun a H=>Ez.fa35_0 H rfl) rfl rfl rfl rfl rfl (kG (fun a H=>Ez.ld3 H rfl (c0)) rfl rfl rfl rfl rfl (kG (fun a H=>Ez.gtr (r:=false) H rfl rfl (by (simp;omega))) rfl rfl rfl rfl rfl (kL (fun a H=>Ez.pkF H rfl rfl) rfl (kM rfl rfl (kG (fun a H=>Ez.mv H rfl) rfl rfl rfl rfl rfl (kG (fun a H=>Ez.fa35_1 H rfl) rfl rfl rfl rfl rfl (kG (fun a H=>Ez.ld3 H rfl (c1)) rfl rfl rfl rfl rfl ?_))))))))))));clear H a;intro a H
  refine wlgc H (Ez.callV (vs:= [.int .i64 t]) H rfl rfl (cf24 _ _)) rfl (inFour t _) rfl rfl rfl rfl ?_
  rintro _ w1 ⟨rfl,rfl⟩
  refine ⟨_,rfl,?_⟩;clear H a;intro a H
  refine wlg H (Ez.not H rfl (r:=false) (by simp [ht])) rfl rfl rfl rfl rfl (kL (fun a H=>Ez.pkF H rfl rfl) rfl (kM rfl rfl (kG (fun a H=>Ez.mv H rfl) rfl rfl rfl rfl rfl (kG (fun a H=>Ez.fa35_2 H rfl) rfl rfl rfl rfl rfl (kG (fun a H=>Ez.ld3 H rfl (by assumption)) rfl rfl rfl rfl rfl ?_)))));clear H a;intro a H
  refine wlgc H (Ez.callV (vs:= [.int .i64 p]) H rfl rfl (cf24 _ _)) rfl (inFour p _) rfl rfl rfl rfl ?_
  rintro _ w1 ⟨rfl,rfl⟩
  refine ⟨_,rfl,?_⟩;clear H a;intro a H
  refine wlg H (Ez.not H rfl (r:=true) (by simp [hp])) rfl rfl rfl rfl rfl (kL (fun a H=>Ez.pkF H rfl rfl) rfl (kM rfl rfl (kX rfl rfl rfl rfl rfl (kX rfl rfl rfl rfl rfl (kX rfl rfl rfl rfl rfl (kX rfl rfl rfl rfl rfl (kX rfl rfl rfl rfl rfl (kL (fun a H=>Ez.pkT H rfl rfl) rfl (kP [(2,_),(3,_),(4,_),(34,_)] rfl (kW ?_))))))))));clear H a;intro a H
  refine Ct (H.o rfl) (Sq (Rl [_] (wl H (Ez.asn H rfl) rfl (kP [(2,_),(3,_),(4,_)] rfl (kW ?_)))));clear H a;intro a H
  refine Wr (thr ?_)
  refine rt1 H rfl rfl ?_
  exact ⟨_,rfl,⟨fun hr=>absurd hr (by simp),fun hg=>by obtain ⟨g1,g2,g3,g4,_⟩:=hg;omega⟩,hF⟩
 ·refine Rl [_,_,_,_,_,_,_,_,_,_,_,_,_,_,_,_,_,_,_,_,_,_,_,_,_,_,_,_,_] (wl H (Ez.fa35_0 H rfl) rfl (kL (fun a H=>Ez.ld3 H rfl (c0)) rfl (kL (fun a H=>Ez.lss (r:=false) H rfl rfl (by (simp;omega))) rfl (kM rfl rfl (kG (fun a H=>Ez.fa35_0 H rfl) rfl rfl rfl rfl rfl (kG (fun a H=>Ez.ld3 H rfl (c0)) rfl rfl rfl rfl rfl (kG (fun a H=>Ez.gtr (r:=false) H rfl rfl (by (simp;omega))) rfl rfl rfl rfl rfl (kL (fun a H=>Ez.pkF H rfl rfl) rfl (kM rfl rfl (kG (fun a H=>Ez.mv H rfl) rfl rfl rfl rfl rfl (kG (fun a H=>Ez.fa35_1 H rfl) rfl rfl rfl rfl rfl (kG (fun a H=>Ez.ld3 H rfl (c1)) rfl rfl rfl rfl rfl ?_))))))))))));clear H a;intro a H
  refine wlgc H (Ez.callV (vs:= [.int .i64 t]) H rfl rfl (cf24 _ _)) rfl (inFour t _) rfl rfl rfl rfl ?_
  rintro _ w1 ⟨rfl,rfl⟩
  refine ⟨_,rfl,?_⟩;clear H a;intro a H
  refine wlg H (Ez.not H rfl (r:=false) (by simp [ht])) rfl rfl rfl rfl rfl (kL (fun a H=>Ez.pkF H rfl rfl) rfl (kM rfl rfl (kG (fun a H=>Ez.mv H rfl) rfl rfl rfl rfl rfl (kG (fun a H=>Ez.fa35_2 H rfl) rfl rfl rfl rfl rfl (kG (fun a H=>Ez.ld3 H rfl (by assumption)) rfl rfl rfl rfl rfl ?_)))));clear H a;intro a H
  refine wlgc H (Ez.callV (vs:= [.int .i64 p]) H rfl rfl (cf24 _ _)) rfl (inFour p _) rfl rfl rfl rfl ?_
  rintro _ w1 ⟨rfl,rfl⟩
  refine ⟨_,rfl,?_⟩;clear H a;intro a H
  refine wlg H (Ez.not H rfl (r:=false) (by simp [hp])) rfl rfl rfl rfl rfl (kL (fun a H=>Ez.pkF H rfl rfl) rfl (kM rfl rfl (kG (fun a H=>Ez.mv H rfl) rfl rfl rfl rfl rfl (kG (fun a H=>Ez.fa35_3 H rfl) rfl rfl rfl rfl rfl (kG (fun a H=>Ez.ld3 H rfl (by assumption)) rfl rfl rfl rfl rfl ?_)))));clear H a;intro a H
  refine wlgc H (Ez.callV (vs:= [.int .i64 q]) H rfl rfl (cf24 _ _)) rfl (inFour q _) rfl rfl rfl rfl ?_
  rintro _ w1 ⟨rfl,rfl⟩
  refine ⟨_,rfl,?_⟩;clear H a;intro a H
  refine wlg H (Ez.not H rfl (r:=true) (by simp [hq])) rfl rfl rfl rfl rfl (kL (fun a H=>Ez.pkF H rfl rfl) rfl (kP [(2,_),(3,_),(4,_),(34,_)] rfl (kW ?_)));clear H a;intro a H
  refine Ct (H.o rfl) (Sq (Rl [_] (wl H (Ez.asn H rfl) rfl (kP [(2,_),(3,_),(4,_)] rfl (kW ?_)))));clear H a;intro a H
  refine Wr (thr ?_)
  refine rt1 H rfl rfl ?_
  exact ⟨_,rfl,⟨fun hr=>absurd hr (by simp),fun hg=>by obtain ⟨g1,g2,g3,g4,_⟩:=hg;omega⟩,hF⟩
 refine Rl [_,_,_,_,_,_,_,_,_,_,_,_,_,_,_,_,_,_,_,_,_,_,_,_,_,_,_,_,_] (wl H (Ez.fa35_0 H rfl) rfl (kL (fun a H=>Ez.ld3 H rfl (c0)) rfl (kL (fun a H=>Ez.lss (r:=false) H rfl rfl (by (simp;omega))) rfl (kM rfl rfl (kG (fun a H=>Ez.fa35_0 H rfl) rfl rfl rfl rfl rfl (kG (fun a H=>Ez.ld3 H rfl (c0)) rfl rfl rfl rfl rfl (kG (fun a H=>Ez.gtr (r:=false) H rfl rfl (by (simp;omega))) rfl rfl rfl rfl rfl (kL (fun a H=>Ez.pkF H rfl rfl) rfl (kM rfl rfl (kG (fun a H=>Ez.mv H rfl) rfl rfl rfl rfl rfl (kG (fun a H=>Ez.fa35_1 H rfl) rfl rfl rfl rfl rfl (kG (fun a H=>Ez.ld3 H rfl (c1)) rfl rfl rfl rfl rfl ?_))))))))))));clear H a;intro a H
 refine wlgc H (Ez.callV (vs:= [.int .i64 t]) H rfl rfl (cf24 _ _)) rfl (inFour t _) rfl rfl rfl rfl ?_
 rintro _ w1 ⟨rfl,rfl⟩
 refine ⟨_,rfl,?_⟩;clear H a;intro a H
 refine wlg H (Ez.not H rfl (r:=false) (by simp [ht])) rfl rfl rfl rfl rfl (kL (fun a H=>Ez.pkF H rfl rfl) rfl (kM rfl rfl (kG (fun a H=>Ez.mv H rfl) rfl rfl rfl rfl rfl (kG (fun a H=>Ez.fa35_2 H rfl) rfl rfl rfl rfl rfl (kG (fun a H=>Ez.ld3 H rfl (by assumption)) rfl rfl rfl rfl rfl ?_)))));clear H a;intro a H
 refine wlgc H (Ez.callV (vs:= [.int .i64 p]) H rfl rfl (cf24 _ _)) rfl (inFour p _) rfl rfl rfl rfl ?_
 rintro _ w1 ⟨rfl,rfl⟩
 refine ⟨_,rfl,?_⟩;clear H a;intro a H
 refine wlg H (Ez.not H rfl (r:=false) (by simp [hp])) rfl rfl rfl rfl rfl (kL (fun a H=>Ez.pkF H rfl rfl) rfl (kM rfl rfl (kG (fun a H=>Ez.mv H rfl) rfl rfl rfl rfl rfl (kG (fun a H=>Ez.fa35_3 H rfl) rfl rfl rfl rfl rfl (kG (fun a H=>Ez.ld3 H rfl (by assumption)) rfl rfl rfl rfl rfl ?_)))));clear H a;intro a H
 refine wlgc H (Ez.callV (vs:= [.int .i64 q]) H rfl rfl (cf24 _ _)) rfl (inFour q _) rfl rfl rfl rfl ?_
 rintro _ w1 ⟨rfl,rfl⟩
 refine ⟨_,rfl,?_⟩;clear H a;intro a H
 refine wlg H (Ez.not H rfl (r:=false) (by simp [hq])) rfl rfl rfl rfl rfl (kL (fun a H=>Ez.pkF H rfl rfl) rfl (kP [(2,_),(3,_),(4,_),(34,_)] rfl (kW ?_)));clear H a;intro a H
 refine Cf (H.o rfl) (Wk0 (thn (Sq ?_)))
 obtain ⟨T,rfl⟩:=Eo ht.1
 obtain ⟨S,rfl⟩:=Eo hp.1
 rcases (show (op=11/\¬nv (row4 F T) 4=0)\/(op=11/\nv (row4 F T) 4=0)\/op=12\/(op≠11/\op≠12) by omega) with ⟨ho,hz⟩ | ⟨ho,hz⟩ | ho | ⟨ho,ho2⟩
 ·refine Rl [_,_,_,_,_,_,_,_,_,_,_,_,_,_,_,_,_,_,_,_,_,_,_,_,_,_,_,_,_,_,_,_,_,_,_] (wl H (Ez.fa35_0 H rfl) rfl (kL (fun a H=>Ez.ld3 H rfl (c0)) rfl (kL (fun a H=>Ez.neq (r:=false) H rfl rfl (by (simp;omega))) rfl (kM rfl rfl (kX rfl rfl rfl rfl rfl (kX rfl rfl rfl rfl rfl (kX rfl rfl rfl rfl rfl (kL (fun a H=>Ez.pkF H rfl rfl) rfl (kM rfl rfl (kG (fun a H=>Ez.fa35_0 H rfl) rfl rfl rfl rfl rfl (kG (fun a H=>Ez.ld3 H rfl (c0)) rfl rfl rfl rfl rfl (kG (fun a H=>Ez.eql (r:=true) H rfl rfl (by (simp;omega))) rfl rfl rfl rfl rfl (kG (fun a H=>Ez.mv H rfl) rfl rfl rfl rfl rfl (kG (fun a H=>Ez.fa35_1 H rfl) rfl rfl rfl rfl rfl (kG (fun a H=>Ez.ld3 H rfl (c1)) rfl rfl rfl rfl rfl (kG (fun a H=>Ez.ix39 H rfl rfl T rfl (by omega)) rfl rfl rfl rfl rfl (kG (fun a H=>Ez.ld30 H rfl ((hA.row (show T < 4 by omega)))) rfl rfl rfl rfl rfl ?_)))))))))))))))));clear H a;intro a H
  refine wkg H cf9 (u256IsZero (row4 F T) _ (hZ T (by omega)).1) rfl rfl rfl rfl rfl rfl ?_
  rintro _ w1 ⟨rfl,hF1⟩
  refine ⟨_,rfl,?_⟩;clear H a;intro a H
  have hF:=hF.trans hF1
  have c0:=hF1.someCell c0 (fun f=>f)
  have c2:=hF1.someCell c2 (fun f=>f)
  have hA:=hA.fr0 hF1
  refine wlg H (Ez.not H rfl (r:=true) (by simp [hz])) rfl rfl rfl rfl rfl (kG (fun a H=>Ez.pkT H rfl rfl) rfl rfl rfl rfl rfl (kL (fun a H=>Ez.pkF H rfl rfl) rfl (kM rfl rfl (kX rfl rfl rfl rfl rfl (kX rfl rfl rfl rfl rfl (kX rfl rfl rfl rfl rfl (kX rfl rfl rfl rfl rfl ?_)))))));clear H a;intro a H
  refine wlu H rfl rfl rfl rfl (by intro b hb;cases hb) rfl ?_;clear H a;intro a H
  refine wlu H rfl rfl rfl rfl (by intro b hb;cases hb) rfl ?_;clear H a;intro a H
  refine wlu H rfl rfl rfl rfl (by intro b hb;cases hb) rfl ?_;clear H a;intro a H
  refine wlu H rfl rfl rfl rfl (by intro b hb;cases hb) rfl ?_;clear H a;intro a H
  refine wlu H rfl rfl rfl rfl (by intro b hb;cases hb) rfl ?_;clear H a;intro a H
  refine wlu H rfl rfl rfl rfl (by intro b hb;cases hb) rfl ?_;clear H a;intro a H
  refine wlx H rfl rfl rfl rfl rfl (kL (fun a H=>Ez.pkT H rfl rfl) rfl (kA rfl rfl (kP [(4,_)] rfl (kW ?_))));clear H a;intro a H
  refine Wr ?_
  refine rt1 H rfl rfl ?_
  rw [(hZ T (by omega)).2.1] at hz
  exact ⟨_,rfl,⟨fun _=>⟨h0,ht,hp,hq,fun _=>hz,fun e=>by omega⟩,fun _=>rfl⟩,hF⟩
 ·refine Rl [_,_,_,_,_,_,_,_,_,_,_,_,_,_,_,_,_,_,_,_,_,_,_,_,_,_,_,_,_,_,_,_,_,_,_] (wl H (Ez.fa35_0 H rfl) rfl (kL (fun a H=>Ez.ld3 H rfl (c0)) rfl (kL (fun a H=>Ez.neq (r:=false) H rfl rfl (by (simp;omega))) rfl (kM rfl rfl (kX rfl rfl rfl rfl rfl (kX rfl rfl rfl rfl rfl (kX rfl rfl rfl rfl rfl (kL (fun a H=>Ez.pkF H rfl rfl) rfl (kM rfl rfl (kG (fun a H=>Ez.fa35_0 H rfl) rfl rfl rfl rfl rfl (kG (fun a H=>Ez.ld3 H rfl (c0)) rfl rfl rfl rfl rfl (kG (fun a H=>Ez.eql (r:=true) H rfl rfl (by (simp;omega))) rfl rfl rfl rfl rfl (kG (fun a H=>Ez.mv H rfl) rfl rfl rfl rfl rfl (kG (fun a H=>Ez.fa35_1 H rfl) rfl rfl rfl rfl rfl (kG (fun a H=>Ez.ld3 H rfl (c1)) rfl rfl rfl rfl rfl (kG (fun a H=>Ez.ix39 H rfl rfl T rfl (by omega)) rfl rfl rfl rfl rfl (kG (fun a H=>Ez.ld30 H rfl ((hA.row (show T < 4 by omega)))) rfl rfl rfl rfl rfl ?_)))))))))))))))));clear H a;intro a H
  refine wkg H cf9 (u256IsZero (row4 F T) _ (hZ T (by omega)).1) rfl rfl rfl rfl rfl rfl ?_
  rintro _ w1 ⟨rfl,hF1⟩
  refine ⟨_,rfl,?_⟩;clear H a;intro a H
  have hF:=hF.trans hF1
  have c0:=hF1.someCell c0 (fun f=>f)
  have c2:=hF1.someCell c2 (fun f=>f)
  have hA:=hA.fr0 hF1
  refine wlg H (Ez.not H rfl (r:=false) (by simp [hz])) rfl rfl rfl rfl rfl (kG (fun a H=>Ez.pkT H rfl rfl) rfl rfl rfl rfl rfl (kL (fun a H=>Ez.pkF H rfl rfl) rfl (kM rfl rfl (kG (fun a H=>Ez.fa35_0 H rfl) rfl rfl rfl rfl rfl (kG (fun a H=>Ez.ld3 H rfl (c0)) rfl rfl rfl rfl rfl (kG (fun a H=>Ez.eql (r:=false) H rfl rfl (by (simp;omega))) rfl rfl rfl rfl rfl (kG (fun a H=>Ez.mv H rfl) rfl rfl rfl rfl rfl (kX rfl rfl rfl rfl rfl (kX rfl rfl rfl rfl rfl (kX rfl rfl rfl rfl rfl (kX rfl rfl rfl rfl rfl (kX rfl rfl rfl rfl rfl (kX rfl rfl rfl rfl rfl (kG (fun a H=>Ez.pkF H rfl rfl) rfl rfl rfl rfl rfl (kL (fun a H=>Ez.pkF H rfl rfl) rfl (kA rfl rfl (kP [(4,_)] rfl (kW ?_))))))))))))))))));clear H a;intro a H
  refine Wr ?_
  refine rt1 H rfl rfl ?_
  rw [(hZ T (by omega)).2.1] at hz
  exact ⟨_,rfl,⟨fun hr=>absurd hr (by simp),fun hg=>absurd hz (hg.2.2.2.2.1 ho)⟩,hF⟩
 ·refine Rl [_,_,_,_,_,_,_,_,_,_,_,_,_,_,_,_,_,_,_,_,_,_,_,_,_,_,_,_,_,_,_,_,_,_,_] (wl H (Ez.fa35_0 H rfl) rfl (kL (fun a H=>Ez.ld3 H rfl (c0)) rfl (kL (fun a H=>Ez.neq (r:=true) H rfl rfl (by (simp;omega))) rfl (kM rfl rfl (kG (fun a H=>Ez.fa35_0 H rfl) rfl rfl rfl rfl rfl (kG (fun a H=>Ez.ld3 H rfl (c0)) rfl rfl rfl rfl rfl (kG (fun a H=>Ez.neq (r:=false) H rfl rfl (by (simp;omega))) rfl rfl rfl rfl rfl (kL (fun a H=>Ez.pkT H rfl rfl) rfl (kM rfl rfl (kG (fun a H=>Ez.fa35_0 H rfl) rfl rfl rfl rfl rfl (kG (fun a H=>Ez.ld3 H rfl (c0)) rfl rfl rfl rfl rfl (kG (fun a H=>Ez.eql (r:=false) H rfl rfl (by (simp;omega))) rfl rfl rfl rfl rfl (kG (fun a H=>Ez.mv H rfl) rfl rfl rfl rfl rfl (kX rfl rfl rfl rfl rfl (kX rfl rfl rfl rfl rfl (kX rfl rfl rfl rfl rfl (kX rfl rfl rfl rfl rfl (kX rfl rfl rfl rfl rfl (kX rfl rfl rfl rfl rfl (kG (fun a H=>Ez.pkF H rfl rfl) rfl rfl rfl rfl rfl (kL (fun a H=>Ez.pkF H rfl rfl) rfl (kM rfl rfl (kG (fun a H=>Ez.fa35_0 H rfl) rfl rfl rfl rfl rfl (kG (fun a H=>Ez.ld3 H rfl (c0)) rfl rfl rfl rfl rfl (kG (fun a H=>Ez.eql (r:=true) H rfl rfl (by (simp;omega))) rfl rfl rfl rfl rfl (kG (fun a H=>Ez.mv H rfl) rfl rfl rfl rfl rfl (kG (fun a H=>Ez.fa35_2 H rfl) rfl rfl rfl rfl rfl ?_)))))))))))))))))))))))))));clear H a;intro a H
  refine wlg H (Ez.ld3 H rfl (c2)) rfl rfl rfl rfl rfl (kG (fun a H=>Ez.ix39 H rfl rfl S rfl (by omega)) rfl rfl rfl rfl rfl (kG (fun a H=>Ez.ld30 H rfl ((hA.row (show S < 4 by omega)))) rfl rfl rfl rfl rfl ?_));clear H a;intro a H
  refine wkg H cf9 (u256IsZero (row4 F S) _ (hZ S (by omega)).1) rfl rfl rfl rfl rfl rfl ?_
  rintro _ w1 ⟨rfl,hF1⟩
  refine ⟨_,rfl,?_⟩;clear H a;intro a H
  have hF:=hF.trans hF1
  refine wlg H (Ez.not H rfl rfl) rfl rfl rfl rfl rfl (kG (fun a H=>Ez.pkT H rfl rfl) rfl rfl rfl rfl rfl (kL (fun a H=>Ez.pkF H rfl rfl) rfl (kA rfl rfl (kP [(4,_)] rfl (kW ?_)))));clear H a;intro a H
  refine Wr ?_
  refine rt1 H rfl rfl ?_
  rw [(hZ S (by omega)).2.1]
  refine ⟨_,rfl,⟨fun hr=>⟨h0,ht,hp,hq,fun e=>by omega,fun _=>by simpa using hr⟩,fun hg=>?_⟩,hF⟩
  have:=hg.2.2.2.2.2 ho
  simpa using this
 refine Rl [_,_,_,_,_,_,_,_,_,_,_,_,_,_,_,_,_,_,_,_,_,_,_,_,_,_,_,_,_,_,_,_,_,_,_] (wl H (Ez.fa35_0 H rfl) rfl (kL (fun a H=>Ez.ld3 H rfl (c0)) rfl (kL (fun a H=>Ez.neq (r:=true) H rfl rfl (by (simp;omega))) rfl (kM rfl rfl (kG (fun a H=>Ez.fa35_0 H rfl) rfl rfl rfl rfl rfl (kG (fun a H=>Ez.ld3 H rfl (c0)) rfl rfl rfl rfl rfl (kG (fun a H=>Ez.neq (r:=true) H rfl rfl (by (simp;omega))) rfl rfl rfl rfl rfl (kL (fun a H=>Ez.pkT H rfl rfl) rfl (kM rfl rfl (kX rfl rfl rfl rfl rfl (kX rfl rfl rfl rfl rfl (kX rfl rfl rfl rfl rfl (kX rfl rfl rfl rfl rfl ?_)))))))))))));clear H a;intro a H
 refine wlu H rfl rfl rfl rfl (by intro b hb;cases hb) rfl ?_;clear H a;intro a H
 refine wlu H rfl rfl rfl rfl (by intro b hb;cases hb) rfl ?_;clear H a;intro a H
 refine wlu H rfl rfl rfl rfl (by intro b hb;cases hb) rfl ?_;clear H a;intro a H
 refine wlu H rfl rfl rfl rfl (by intro b hb;cases hb) rfl ?_;clear H a;intro a H
 refine wlu H rfl rfl rfl rfl (by intro b hb;cases hb) rfl ?_;clear H a;intro a H
 refine wlu H rfl rfl rfl rfl (by intro b hb;cases hb) rfl ?_;clear H a;intro a H
 refine wlx H rfl rfl rfl rfl rfl (kL (fun a H=>Ez.pkT H rfl rfl) rfl (kM rfl rfl (kX rfl rfl rfl rfl rfl (kX rfl rfl rfl rfl rfl (kX rfl rfl rfl rfl rfl (kX rfl rfl rfl rfl rfl ?_))))));clear H a;intro a H
 refine wlu H rfl rfl rfl rfl (by intro b hb;cases hb) rfl ?_;clear H a;intro a H
 refine wlu H rfl rfl rfl rfl (by intro b hb;cases hb) rfl ?_;clear H a;intro a H
 refine wlu H rfl rfl rfl rfl (by intro b hb;cases hb) rfl ?_;clear H a;intro a H
 refine wlu H rfl rfl rfl rfl (by intro b hb;cases hb) rfl ?_;clear H a;intro a H
 refine wlu H rfl rfl rfl rfl (by intro b hb;cases hb) rfl ?_;clear H a;intro a H
 refine wlu H rfl rfl rfl rfl (by intro b hb;cases hb) rfl ?_;clear H a;intro a H
 refine wlx H rfl rfl rfl rfl rfl (kL (fun a H=>Ez.pkT H rfl rfl) rfl (kA rfl rfl (kP [(4,_)] rfl (kW ?_))));clear H a;intro a H
 refine Wr ?_
 refine rt1 H rfl rfl ?_
 exact ⟨_,rfl,⟨fun _=>⟨h0,ht,hp,hq,fun e=>absurd e ho,fun e=>absurd e ho2⟩,fun _=>rfl⟩,hF⟩
end
section
set_option maxRecDepth 8000
def W1 (n:Int):Nat->Int:=fun j=>if j=0 then n else 0
theorem W1_nv (n:Int):nv (W1 n) 4=n:=by rw [nv4];simp [W1]
theorem W1_W4 {n:Int} (h:U64 n):W4 (W1 n):=fun j hj=>by
 unfold W1;split
 ·exact h
 exact ⟨Int.le_refl 0,by decide⟩
theorem red_if {x y:Int} (h:y=(if x < NN then x else x - NN)):y=red x:=by
 rw [h];unfold red ovN
 split <;> split <;> omega
namespace Ez
theorem bldN {a:Act} {N:Nat} {ds:List Deferred} {l:Env} {w:World} {d:Option Nat} {ty:TypeId} {pos:String} {after:Array Edge} {g:Option (Nat × Bool)} (H:Hd a N ds l) {x:Operand} {n:Int} (h:ov l x=some (.int .u64 n)):(execOp a.eval ⟨d,.build 30 #[(0,x)],ty,pos,after,g⟩).run Tryz.prog w=.ok (.value (.agg (wd4 (W1 n)).toArray)) w:=by
 have e:=H.o h
 have q:=run_build (P:=Tryz.prog) w 30 #[(0,.int .u64 n)] (wd4 (W1 n)).toArray (by kernel_rfl)
 simp only [execOp,List.map_toArray,List.map_cons,List.map_nil,e,Sem.run_bind,q,Result.andThen];rfl
end Ez
theorem after (F V:Nat->Int) (s:Stp) (w:World) (hZ:RegZ F V) (hs:s.ok):
 Calls Tryz.prog 13 #[.agg (wd16 F).toArray,.agg s.vs.toArray] w fun e w'=>∃X,e=.returned (.agg (wd4 X).toArray)/\W4 X/\nv X 4=s.nv V/\nv X 4 < NN/\Fr NoT w w':=by
 obtain ⟨w0,hw0⟩:∃w0,w0=w:=⟨w,rfl⟩
 rw [<-hw0]
 clear hw0 w
 refine Qd (vs:= [.agg (wd16 F).toArray,.agg s.vs.toArray]) Tryz.func13 rfl rfl ?_
 intro a H
 replace H:Hd a 95 [] [(0,.agg (wd16 F).toArray),(1,.agg s.vs.toArray)]:=H
 refine Sq (Rl [_,_,_] (wl H (Ez.boxR H rfl) rfl (kL (fun a H=>Ez.boxR H rfl) rfl (kL (fun a H=>Ez.al30) rfl (kP [(2,_),(3,_),(4,_)] rfl (kW ?_))))));clear H a;intro a H
 have hF:=Fr.refl NoT w0
 have hsz0:=hF.size
 have hA:=Rg.new w0 (wd16 F) 39
 have hFn:=(Fr.refl NoT w0).alloc (.cells (wd16 F).toArray 39)
 have hF:=hF.alloc (.cells (wd16 F).toArray 39)
 obtain ⟨k1,hk1⟩:∃g,g=w0.heap.size:=⟨_,rfl⟩
 rw [<-hk1] at H hA
 have hk1l:w0.heap.size<=k1:=by first | omega | (rw [hk1];exact hsz0)
 have hsz0:=hF.size
 generalize w0.alloc (.cells (wd16 F).toArray 39)=wA at*
 have hB:=Rg.new wA s.vs 35
 have hFn:=(Fr.refl NoT wA).alloc (.cells s.vs.toArray 35)
 have hF:=hF.alloc (.cells s.vs.toArray 35)
 have hl_A:=hA.lt (j:=0) (by rw [Jz];decide)
 have hA:=hA.fr0 hFn
 obtain ⟨k2,hk2⟩:∃g,g=wA.heap.size:=⟨_,rfl⟩
 rw [<-hk2] at H hB
 have hk2l:w0.heap.size<=k2:=by first | omega | (rw [hk2];exact hsz0)
 have hsz0:=hF.size
 generalize wA.alloc (.cells s.vs.toArray 35)=wB at*
 have hR:=Rg.new wB (wd4 Z0) 30
 have hFn:=(Fr.refl NoT wB).alloc (.cells (wd4 Z0).toArray 30)
 have hF:=hF.alloc (.cells (wd4 Z0).toArray 30)
 have hl_A:=hA.lt (j:=0) (by rw [Jz];decide)
 have hl_B:=hB.lt (j:=0) (by rw [s.len];decide)
 have hA:=hA.fr0 hFn
 have hB:=hB.fr0 hFn
 obtain ⟨kr,hkr⟩:∃g,g=wB.heap.size:=⟨_,rfl⟩
 rw [<-hkr] at H hR
 have hkrl:w0.heap.size<=kr:=by first | omega | (rw [hkr];exact hsz0)
 have hsz0:=hF.size
 generalize wB.alloc (.cells (wd4 Z0).toArray 30)=wR at*
 refine Sq (Rl [_,_,_] ?_)
 refine wk H cf18 (specOrder wR) rfl rfl ?_
 rintro _ w1 ⟨rfl,hF1⟩
 refine ⟨_,rfl,?_⟩;clear H a;intro a H
 have hA:=hA.fr0 hF1
 have hB:=hB.fr0 hF1
 have hR:=hR.fr0 hF1
 have hF:=hF.trans hF1
 obtain ⟨wS,hwS⟩:∃z,z=w1:=⟨w1,rfl⟩
 rw [<-hwS] at hA hB hR hF hF1 ⊢
 clear hwS
 have hO0:=Rg.new wS (wd4 Z0) 30
 have hFn:=(Fr.refl NoT wS).alloc (.cells (wd4 Z0).toArray 30)
 refine wl H (Ez.al30) rfl ?_;clear H a;intro a H
 refine wls H (Ez.st30 H rfl rfl hO0 rfl) ?_;clear H;intro H
 refine kP [(2,_),(3,_),(4,_),(5,_)] rfl (kW ?_) a H;clear H a;intro a H
 have hl1:=hA.lt (j:=0) (by rw [Jz];decide)
 have hl2:=hB.lt (j:=0) (by rw [s.len];decide)
 have hlr:=hR.lt (j:=0) (by decide)
 have hA:=hA.fr0 hFn
 have hB:=hB.fr0 hFn
 have hR:=hR.fr0 hFn
 have hszS:=hF.size
 have hF:=hF.trans hFn
 obtain ⟨hO,hfs⟩:=hO0.set (vs:=wd4 OW) rfl
 obtain ⟨k5,hk5⟩:∃z,z=wS.heap.size:=⟨_,rfl⟩
 rw [<-hk5] at H hO hfs hszS hl1 hl2 hlr ⊢
 have hA:=hA.off (us:=wd4 OW) (show k5≠k1 by omega)
 have hB:=hB.off (us:=wd4 OW) (show k5≠k2 by omega)
 have hR:=hR.off (us:=wd4 OW) (show k5≠kr by omega)
 have hF:=hF.put hszS (us:=wd4 OW)
 clear hfs hO0 hFn hF1
 generalize (wS.alloc (.cells (wd4 Z0).toArray 30)).setCells k5 0 (wd4 OW)=wT at*
 refine Sq ?_
 refine regionA (N:=95) (ds:= []) (fun w=>Rg w k1 0 (wd16 F)/\Rg w k2 0 s.vs) [] [_,_,_,_,_,_,_,_,_,_,_,_,_,_,_,_,_,_] [0,1,2,3,4,5,6,7,8,9,10,11] [12,13,14] (fun i=>if i < 12 then i+9 else if i < 15 then i - 6 else i+9) [(false,15),(false,16),(false,17)] (fun i j h=>by revert h;show (if i < 12 then i+9 else if i < 15 then i - 6 else i+9)=(if j < 12 then j+9 else if j < 15 then j - 6 else j+9)->_;intro h;split at h <;> split at h <;> (try split at h) <;> (try split at h) <;> omega) (fun w w1 hF h=>⟨h.1.fr0 hF,h.2.fr0 hF⟩) Qb (fun _ _ _ _ _ h=>h) (by kernel_rfl) (by intro i hi;simp only [List.mem_cons,List.not_mem_nil,or_false] at hi;rcases hi with rfl | rfl | rfl <;> exact ⟨_,_,_,rfl,rfl⟩) ?_
 intro w1 hw
 have hA:=hA.fr0 (hw.fr NoT)
 have hB:=hB.fr0 (hw.fr NoT)
 have hR:=hR.fr0 (hw.fr NoT)
 have hO:=hO.fr0 (hw.fr NoT)
 have hF:=hF.trans (hw.fr NoT)
 obtain ⟨wV,hwV⟩:∃z,z=w1:=⟨w1,rfl⟩
 rw [<-hwV] at hA hB hR hO hF ⊢
 clear hwV hw
 have hRv:=hR
 have hOv:=hO
 have hszV:=hF.size
 refine ⟨⟨hA,hB⟩,?_⟩
 refine map' rfl H (fun w2 hS=>Ez.fa35_1 H rfl) rfl ?_;clear H a;intro a H
 refine map' rfl H (fun w2 hS=>Ez.ld3 H rfl (hS.2.cell (j:=1) rfl)) rfl ?_;clear H a;intro a H
 refine map' rfl H (fun w2 hS=>Ez.ix39 H rfl rfl s.t rfl hs.t) rfl ?_;clear H a;intro a H
 refine map' rfl H (fun w2 hS=>Ez.ld30 H rfl ((hS.1.row hs.t))) rfl ?_;clear H a;intro a H
 refine map' rfl H (fun w2 hS=>Ez.fa35_2 H rfl) rfl ?_;clear H a;intro a H
 refine map' rfl H (fun w2 hS=>Ez.ld3 H rfl (hS.2.cell (j:=2) rfl)) rfl ?_;clear H a;intro a H
 refine map' rfl H (fun w2 hS=>Ez.ix39 H rfl rfl s.a rfl hs.a) rfl ?_;clear H a;intro a H
 refine map' rfl H (fun w2 hS=>Ez.ld30 H rfl ((hS.1.row hs.a))) rfl ?_;clear H a;intro a H
 refine map' rfl H (fun w2 hS=>Ez.fa35_3 H rfl) rfl ?_;clear H a;intro a H
 refine map' rfl H (fun w2 hS=>Ez.ld3 H rfl (hS.2.cell (j:=3) rfl)) rfl ?_;clear H a;intro a H
 refine map' rfl H (fun w2 hS=>Ez.ix39 H rfl rfl s.b rfl hs.b) rfl ?_;clear H a;intro a H
 refine map' rfl H (fun w2 hS=>Ez.ld30 H rfl ((hS.1.row hs.b))) rfl ?_;clear H a;intro a H
 refine ⟨_,H,?_⟩;clear H a;intro a w1 b hFb hb hbn H hSb
 replace H:Hd a 95 [] [(6,_),(7,_),(8,_),(21,_),(20,_),(19,_),(18,_),(17,_),(16,_),(15,_),(14,_),(13,_),(12,_),(11,_),(10,_),(5,_),(4,_),(3,_),(2,_)]:=H.pick [6,7,8,21,20,19,18,17,16,15,14,13,12,11,10,5,4,3,2]
 have hO:=hO.fr0 hFb
 have hR:=hR.fr0 hFb
 have hF:=hF.trans hFb
 obtain ⟨hxl,hX⟩:=hb 12 (by decide)
 obtain ⟨hyl,hY⟩:=hb 13 (by decide)
 obtain ⟨hzl,hZz⟩:=hb 14 (by decide)
 have hxy:=hbn 12 (by decide) 13 (by decide) (by decide)
 have hxz:=hbn 12 (by decide) 14 (by decide) (by decide)
 have hyz:=hbn 13 (by decide) 14 (by decide) (by decide)
 clear hb hbn
 obtain ⟨x,hx⟩:∃z,z=b 12:=⟨_,rfl⟩
 obtain ⟨y,hy⟩:∃z,z=b 13:=⟨_,rfl⟩
 obtain ⟨z,hz⟩:∃z,z=b 14:=⟨_,rfl⟩
 rw [<-hx] at hxy hxz hxl hX
 rw [<-hy] at hxy hyz hyl hY
 rw [<-hz] at hxz hyz hzl hZz
 rw [<-hx,<-hy,<-hz] at H
 clear hx hy hz b
 have hl1:=hA.lt (j:=0) (by rw [Jz];decide)
 have hl2:=hB.lt (j:=0) (by rw [s.len];decide)
 have hl3:=hRv.lt (j:=0) (by decide)
 have hl4:=hOv.lt (j:=0) (Nat.succ_pos 3)
 obtain ⟨hA,hB⟩:=hSb
 refine mkS rfl H (Ez.st30 H rfl rfl hX rfl) (⟨hA.off (show x≠k1 by omega),hB.off (show x≠k2 by omega)⟩) ?_;clear H;intro H
 obtain ⟨hX,hfs⟩:=hX.set (vs:=wd4 (row4 F s.t)) rfl
 clear hfs
 have hA:=hA.off (us:=wd4 (row4 F s.t)) (show x≠k1 by omega)
 have hB:=hB.off (us:=wd4 (row4 F s.t)) (show x≠k2 by omega)
 have hR:=hR.off (us:=wd4 (row4 F s.t)) (show x≠kr by omega)
 have hO:=hO.off (us:=wd4 (row4 F s.t)) (show x≠k5 by omega)
 have hY:=hY.off (us:=wd4 (row4 F s.t)) (show x≠y by omega)
 have hZz:=hZz.off (us:=wd4 (row4 F s.t)) (show x≠z by omega)
 have hF:=hF.put (show w0.heap.size<=x by omega) (us:=wd4 (row4 F s.t))
 refine mkS rfl H (Ez.st30 H rfl rfl hY rfl) (⟨hA.off (show y≠k1 by omega),hB.off (show y≠k2 by omega)⟩) ?_;clear H;intro H
 obtain ⟨hY,hfs⟩:=hY.set (vs:=wd4 (row4 F s.a)) rfl
 clear hfs
 have hA:=hA.off (us:=wd4 (row4 F s.a)) (show y≠k1 by omega)
 have hB:=hB.off (us:=wd4 (row4 F s.a)) (show y≠k2 by omega)
 have hR:=hR.off (us:=wd4 (row4 F s.a)) (show y≠kr by omega)
 have hO:=hO.off (us:=wd4 (row4 F s.a)) (show y≠k5 by omega)
 have hX:=hX.off (us:=wd4 (row4 F s.a)) (show y≠x by omega)
 have hZz:=hZz.off (us:=wd4 (row4 F s.a)) (show y≠z by omega)
 have hF:=hF.put (show w0.heap.size<=y by omega) (us:=wd4 (row4 F s.a))
 refine mkS rfl H (Ez.st30 H rfl rfl hZz rfl) (⟨hA.off (show z≠k1 by omega),hB.off (show z≠k2 by omega)⟩) ?_;clear H;intro H
 replace H:Hd a 95 [] [(3,_),(4,_),(5,_),(6,_),(7,_),(8,_)]:=H.pick [3,4,5,6,7,8]
 refine mke ?_
 obtain ⟨hZz,hfs⟩:=hZz.set (vs:=wd4 (row4 F s.b)) rfl
 clear hfs
 have hA:=hA.off (us:=wd4 (row4 F s.b)) (show z≠k1 by omega)
 have hB:=hB.off (us:=wd4 (row4 F s.b)) (show z≠k2 by omega)
 have hR:=hR.off (us:=wd4 (row4 F s.b)) (show z≠kr by omega)
 have hO:=hO.off (us:=wd4 (row4 F s.b)) (show z≠k5 by omega)
 have hX:=hX.off (us:=wd4 (row4 F s.b)) (show z≠x by omega)
 have hY:=hY.off (us:=wd4 (row4 F s.b)) (show z≠y by omega)
 have hF:=hF.put (show w0.heap.size<=z by omega) (us:=wd4 (row4 F s.b))
 clear hA hRv hOv hFb hszV hszS hsz0 hl1 hl2 hl3 hl4 hlr
 generalize (World.setCells _ z 0 (wd4 (row4 F s.b)))=wX at*
 obtain ⟨hWx,hvx,hlx⟩:=hZ s.t hs.t
 obtain ⟨hWy,hvy,hly⟩:=hZ s.a hs.a
 obtain ⟨hWz,hvz,hlz⟩:=hZ s.b hs.b
 rw [<-hvx] at hlx
 rw [<-hvy] at hly
 rw [<-hvz] at hlz
 have hON:nv OW 4=NN:=OW_nv
 have hE:=El
 have c0:=hB.cell (j:=0) (v:=.int .i64 s.op) rfl
 have c4:=hB.cell (j:=4) (v:=.int .u32 s.n) rfl
 have hBy:Rg wX k2 (0+5) (by8 s.Y 32):=(Rg.app (vs:= [.int .i64 s.op,.int .i64 s.t,.int .i64 s.a,.int .i64 s.b,.int .u32 s.n]) hB).2
 refine Sq (Sq (Rl [_,_] (wl H (Ez.fa35_0 H rfl) rfl (kL (fun a H=>Ez.ld3 H rfl (c0)) rfl (kP [(3,_),(4,_),(5,_),(6,_),(7,_),(8,_),(23,_)] rfl (kW ?_))))));clear H a;intro a H
 refine Wb (Sq (Rl [_,_] (wl H (Ez.eql H rfl rfl (rfl)) rfl (kA rfl rfl (kP [(3,_),(4,_),(5,_),(6,_),(7,_),(8,_),(23,_),(24,_)] rfl (kW ?_))))));clear H a;intro a H
 refine Cs (H.o rfl) (fun hb=>?_) (fun hb=>?_)
 ·have hop:=Dt hb
  refine Sq (Rl [_,_,_,_,_] (wl H (Ez.fa35_5 H rfl) rfl (kL (fun a H=>Ez.ld24 H rfl hBy) rfl (kL (fun a H=>Ez.ld30 H rfl (hO)) rfl ?_))));clear H a;intro a H
  refine wk H cf25 (redBytes s.Y OW wX hs.Y OW_W4) rfl rfl ?_
  rintro _ w1 ⟨X,rfl,hWX,hvX,hF1⟩
  refine ⟨_,rfl,?_⟩;clear H a;intro a H
  have hR:=hR.fr0 hF1
  have hF:=hF.trans hF1
  have hval:nv X 4=s.nv V/\nv X 4 < NN:=by
   have e:nv X 4=red (be s.Y 32):=by rw [hON] at hvX;exact red_if hvX
   exact ⟨by rw [e];simp [Stp.nv,hop],by rw [e];exact (red_be hs.Y).2⟩
  refine wls H (Ez.st30 H rfl rfl hR rfl) ?_;clear H;intro H
  refine kP [(4,_),(5,_),(7,_)] rfl (kW ?_) a H;clear H a;intro a H
  refine Wr (bret (thr ?_))
  obtain ⟨hR3,hfs⟩:=hR.set (vs:=wd4 X) rfl
  exact rt30 H rfl rfl hR3 ⟨_,rfl,hWX,hval.1,hval.2,hF.put hkrl⟩
 have hn0:=Df hb
 refine Sq (Rl [_,_] (wl H (Ez.eql H rfl rfl (rfl)) rfl (kA rfl rfl (kP [(3,_),(4,_),(5,_),(6,_),(7,_),(8,_),(23,_),(30,_)] rfl (kW ?_)))));clear H a;intro a H
 refine Cs (H.o rfl) (fun hb=>?_) (fun hb=>?_)
 ·have hop:=Dt hb
  refine Sq (Rl [_,_,_,_,_] (wl H (Ez.fa35_4 H rfl) rfl (kL (fun a H=>Ez.ld33 H rfl (c4)) rfl (kL (fun a H=>Ez.cv (r:=s.n) H rfl ty33 ty28 (by have:=hs.n;unfold U32 at this;rw [Wu];omega)) rfl (kL (fun a H=>Ez.bldN H rfl) rfl ?_)))));clear H a;intro a H
  refine wls H (Ez.st30 H rfl rfl hR rfl) ?_;clear H;intro H
  refine kP [(4,_),(5,_),(7,_)] rfl (kW ?_) a H;clear H a;intro a H
  have hn:=hs.n
  unfold U32 at hn
  have hWX:W4 (W1 s.n):=W1_W4 (by unfold U64;omega)
  have hval:nv (W1 s.n) 4=s.nv V/\nv (W1 s.n) 4 < NN:=⟨by rw [W1_nv];simp [Stp.nv,hop],by rw [W1_nv];unfold NN;omega⟩
  refine Wr (bret (thr ?_))
  obtain ⟨hR3,hfs⟩:=hR.set (vs:=wd4 (W1 s.n)) rfl
  exact rt30 H rfl rfl hR3 ⟨_,rfl,hWX,hval.1,hval.2,hF.put hkrl⟩
 have hn1:=Df hb
 refine Sq (Rl [_,_] (wl H (Ez.eql H rfl rfl (rfl)) rfl (kA rfl rfl (kP [(4,_),(5,_),(6,_),(7,_),(8,_),(23,_),(36,_)] rfl (kW ?_)))));clear H a;intro a H
 refine Cs (H.o rfl) (fun hb=>?_) (fun hb=>?_)
 ·have hop:=Dt hb
  refine Sq (Rl [_,_] (wl H (Ez.ld30 H rfl (hY)) rfl ?_));clear H a;intro a H
  refine wls H (Ez.st30 H rfl rfl hR rfl) ?_;clear H;intro H
  refine kP [(4,_),(5,_),(7,_)] rfl (kW ?_) a H;clear H a;intro a H
  have hWX:=hWy
  have hval:nv (row4 F s.a) 4=s.nv V/\nv (row4 F s.a) 4 < NN:=⟨by rw [hvy];simp [Stp.nv,hop],hly⟩
  refine Wr (bret (thr ?_))
  obtain ⟨hR3,hfs⟩:=hR.set (vs:=wd4 (row4 F s.a)) rfl
  exact rt30 H rfl rfl hR3 ⟨_,rfl,hWX,hval.1,hval.2,hF.put hkrl⟩
 have hn2:=Df hb
 refine Sq (Rl [_,_] (wl H (Ez.eql H rfl rfl (rfl)) rfl (kA rfl rfl (kP [(4,_),(5,_),(6,_),(7,_),(8,_),(23,_),(39,_)] rfl (kW ?_)))));clear H a;intro a H
 refine Cs (H.o rfl) (fun hb=>?_) (fun hb=>?_)
 ·have hop:=Dt hb
  refine Sq (Rl [_,_,_,_,_] (wl H (Ez.ld30 H rfl (hX)) rfl (kL (fun a H=>Ez.ld30 H rfl (hY)) rfl (kL (fun a H=>Ez.ld30 H rfl (hO)) rfl ?_))));clear H a;intro a H
  refine wk H cf26 (u256AddMod (row4 F s.t) (row4 F s.a) OW wX hWx hWy OW_W4 (by rw [hON];exact hlx) (by rw [hON];exact hly)) rfl rfl ?_
  rintro _ w1 ⟨X,rfl,hWX,hvX,hF1⟩
  refine ⟨_,rfl,?_⟩;clear H a;intro a H
  have hR:=hR.fr0 hF1
  have hF:=hF.trans hF1
  have hval:nv X 4=s.nv V/\nv X 4 < NN:=by
   have e:nv X 4=(V s.t+V s.a) % NN:=by rw [hvX,hON,hvx,hvy]
   exact ⟨by rw [e];simp [Stp.nv,hop],by rw [e];exact El _ (by decide)⟩
  refine wls H (Ez.st30 H rfl rfl hR rfl) ?_;clear H;intro H
  refine kP [(4,_),(5,_),(7,_)] rfl (kW ?_) a H;clear H a;intro a H
  refine Wr (bret (thr ?_))
  obtain ⟨hR3,hfs⟩:=hR.set (vs:=wd4 X) rfl
  exact rt30 H rfl rfl hR3 ⟨_,rfl,hWX,hval.1,hval.2,hF.put hkrl⟩
 have hn3:=Df hb
 refine Sq (Rl [_,_] (wl H (Ez.eql H rfl rfl (rfl)) rfl (kA rfl rfl (kP [(4,_),(5,_),(6,_),(7,_),(8,_),(23,_),(45,_)] rfl (kW ?_)))));clear H a;intro a H
 refine Cs (H.o rfl) (fun hb=>?_) (fun hb=>?_)
 ·have hop:=Dt hb
  refine Sq (Rl [_,_,_,_,_] (wl H (Ez.ld30 H rfl (hY)) rfl (kL (fun a H=>Ez.ld30 H rfl (hZz)) rfl (kL (fun a H=>Ez.ld30 H rfl (hO)) rfl ?_))));clear H a;intro a H
  refine wk H cf26 (u256AddMod (row4 F s.a) (row4 F s.b) OW wX hWy hWz OW_W4 (by rw [hON];exact hly) (by rw [hON];exact hlz)) rfl rfl ?_
  rintro _ w1 ⟨X,rfl,hWX,hvX,hF1⟩
  refine ⟨_,rfl,?_⟩;clear H a;intro a H
  have hR:=hR.fr0 hF1
  have hF:=hF.trans hF1
  have hval:nv X 4=s.nv V/\nv X 4 < NN:=by
   have e:nv X 4=(V s.a+V s.b) % NN:=by rw [hvX,hON,hvy,hvz]
   exact ⟨by rw [e];simp [Stp.nv,hop],by rw [e];exact El _ (by decide)⟩
  refine wls H (Ez.st30 H rfl rfl hR rfl) ?_;clear H;intro H
  refine kP [(4,_),(5,_),(7,_)] rfl (kW ?_) a H;clear H a;intro a H
  refine Wr (bret (thr ?_))
  obtain ⟨hR3,hfs⟩:=hR.set (vs:=wd4 X) rfl
  exact rt30 H rfl rfl hR3 ⟨_,rfl,hWX,hval.1,hval.2,hF.put hkrl⟩
 have hn4:=Df hb
 refine Sq (Rl [_,_] (wl H (Ez.eql H rfl rfl (rfl)) rfl (kA rfl rfl (kP [(4,_),(5,_),(6,_),(7,_),(8,_),(23,_),(51,_)] rfl (kW ?_)))));clear H a;intro a H
 refine Cs (H.o rfl) (fun hb=>?_) (fun hb=>?_)
 ·have hop:=Dt hb
  refine Sq (Rl [_,_,_,_,_] (wl H (Ez.ld30 H rfl (hX)) rfl (kL (fun a H=>Ez.ld30 H rfl (hY)) rfl (kL (fun a H=>Ez.ld30 H rfl (hO)) rfl ?_))));clear H a;intro a H
  refine wk H cf27 (u256MulMod (row4 F s.t) (row4 F s.a) OW wX hWx hWy OW_W4 (by rw [hON];exact hlx)) rfl rfl ?_
  rintro _ w1 ⟨X,rfl,hWX,hvX,hF1⟩
  refine ⟨_,rfl,?_⟩;clear H a;intro a H
  have hR:=hR.fr0 hF1
  have hF:=hF.trans hF1
  have hval:nv X 4=s.nv V/\nv X 4 < NN:=by
   have e:nv X 4=(V s.t*V s.a) % NN:=by rw [hvX,hON,hvx,hvy]
   exact ⟨by rw [e];simp [Stp.nv,hop],by rw [e];exact El _ (by decide)⟩
  refine wls H (Ez.st30 H rfl rfl hR rfl) ?_;clear H;intro H
  refine kP [(4,_),(5,_),(7,_)] rfl (kW ?_) a H;clear H a;intro a H
  refine Wr (bret (thr ?_))
  obtain ⟨hR3,hfs⟩:=hR.set (vs:=wd4 X) rfl
  exact rt30 H rfl rfl hR3 ⟨_,rfl,hWX,hval.1,hval.2,hF.put hkrl⟩
 have hn5:=Df hb
 refine Sq (Rl [_,_] (wl H (Ez.eql H rfl rfl (rfl)) rfl (kA rfl rfl (kP [(4,_),(5,_),(6,_),(7,_),(8,_),(23,_),(57,_)] rfl (kW ?_)))));clear H a;intro a H
 refine Cs (H.o rfl) (fun hb=>?_) (fun hb=>?_)
 ·have hop:=Dt hb
  refine Sq (Rl [_,_,_,_,_] (wl H (Ez.ld30 H rfl (hY)) rfl (kL (fun a H=>Ez.ld30 H rfl (hZz)) rfl (kL (fun a H=>Ez.ld30 H rfl (hO)) rfl ?_))));clear H a;intro a H
  refine wk H cf27 (u256MulMod (row4 F s.a) (row4 F s.b) OW wX hWy hWz OW_W4 (by rw [hON];exact hly)) rfl rfl ?_
  rintro _ w1 ⟨X,rfl,hWX,hvX,hF1⟩
  refine ⟨_,rfl,?_⟩;clear H a;intro a H
  have hR:=hR.fr0 hF1
  have hF:=hF.trans hF1
  have hval:nv X 4=s.nv V/\nv X 4 < NN:=by
   have e:nv X 4=(V s.a*V s.b) % NN:=by rw [hvX,hON,hvy,hvz]
   exact ⟨by rw [e];simp [Stp.nv,hop],by rw [e];exact El _ (by decide)⟩
  refine wls H (Ez.st30 H rfl rfl hR rfl) ?_;clear H;intro H
  refine kP [(4,_),(5,_),(7,_)] rfl (kW ?_) a H;clear H a;intro a H
  refine Wr (bret (thr ?_))
  obtain ⟨hR3,hfs⟩:=hR.set (vs:=wd4 X) rfl
  exact rt30 H rfl rfl hR3 ⟨_,rfl,hWX,hval.1,hval.2,hF.put hkrl⟩
 have hn6:=Df hb
 refine Sq (Rl [_,_] (wl H (Ez.eql H rfl rfl (rfl)) rfl (kA rfl rfl (kP [(4,_),(5,_),(6,_),(7,_),(23,_),(63,_)] rfl (kW ?_)))));clear H a;intro a H
 refine Cs (H.o rfl) (fun hb=>?_) (fun hb=>?_)
 ·have hop:=Dt hb
  refine Sq (Rl [_,_,_,_,_] (wl H (Ez.bldZ) rfl (kL (fun a H=>Ez.ld30 H rfl (hX)) rfl (kL (fun a H=>Ez.ld30 H rfl (hO)) rfl ?_))));clear H a;intro a H
  refine wk H cf28 (u256SubMod Z0 (row4 F s.t) OW wX Z0_W4 hWx OW_W4 (by rw [hON,Z0_nv];decide) (by rw [hON];exact hlx)) rfl rfl ?_
  rintro _ w1 ⟨X,rfl,hWX,hvX,hF1⟩
  refine ⟨_,rfl,?_⟩;clear H a;intro a H
  have hR:=hR.fr0 hF1
  have hF:=hF.trans hF1
  have hval:nv X 4=s.nv V/\nv X 4 < NN:=by
   have e:nv X 4=(NN - V s.t) % NN:=by rw [hvX,hON,hvx,Z0_nv,<-Int.add_emod_right];congr 1;omega
   exact ⟨by rw [e];simp [Stp.nv,hop],by rw [e];exact El _ (by decide)⟩
  refine wls H (Ez.st30 H rfl rfl hR rfl) ?_;clear H;intro H
  refine kP [(4,_),(5,_),(7,_)] rfl (kW ?_) a H;clear H a;intro a H
  refine Wr (bret (thr ?_))
  obtain ⟨hR3,hfs⟩:=hR.set (vs:=wd4 X) rfl
  exact rt30 H rfl rfl hR3 ⟨_,rfl,hWX,hval.1,hval.2,hF.put hkrl⟩
 have hn7:=Df hb
 refine Sq (Rl [_,_] (wl H (Ez.eql H rfl rfl (rfl)) rfl (kA rfl rfl (kP [(4,_),(5,_),(6,_),(7,_),(23,_),(69,_)] rfl (kW ?_)))));clear H a;intro a H
 refine Cs (H.o rfl) (fun hb=>?_) (fun hb=>?_)
 ·have hop:=Dt hb
  refine Sq (Rl [_,_,_,_,_] (wl H (Ez.bldZ) rfl (kL (fun a H=>Ez.ld30 H rfl (hY)) rfl (kL (fun a H=>Ez.ld30 H rfl (hO)) rfl ?_))));clear H a;intro a H
  refine wk H cf28 (u256SubMod Z0 (row4 F s.a) OW wX Z0_W4 hWy OW_W4 (by rw [hON,Z0_nv];decide) (by rw [hON];exact hly)) rfl rfl ?_
  rintro _ w1 ⟨X,rfl,hWX,hvX,hF1⟩
  refine ⟨_,rfl,?_⟩;clear H a;intro a H
  have hR:=hR.fr0 hF1
  have hF:=hF.trans hF1
  have hval:nv X 4=s.nv V/\nv X 4 < NN:=by
   have e:nv X 4=(NN - V s.a) % NN:=by rw [hvX,hON,hvy,Z0_nv,<-Int.add_emod_right];congr 1;omega
   exact ⟨by rw [e];simp [Stp.nv,hop],by rw [e];exact El _ (by decide)⟩
  refine wls H (Ez.st30 H rfl rfl hR rfl) ?_;clear H;intro H
  refine kP [(4,_),(5,_),(7,_)] rfl (kW ?_) a H;clear H a;intro a H
  refine Wr (bret (thr ?_))
  obtain ⟨hR3,hfs⟩:=hR.set (vs:=wd4 X) rfl
  exact rt30 H rfl rfl hR3 ⟨_,rfl,hWX,hval.1,hval.2,hF.put hkrl⟩
 have hn8:=Df hb
 refine Sq (Rl [_,_] (wl H (Ez.eql H rfl rfl (rfl)) rfl (kA rfl rfl (kP [(4,_),(5,_),(6,_),(7,_),(23,_),(75,_)] rfl (kW ?_)))));clear H a;intro a H
 refine Cs (H.o rfl) (fun hb=>?_) (fun hb=>?_)
 ·have hop:=Dt hb
  refine Sq (Rl [_,_,_,_,_] (wl H (Ez.ld30 H rfl (hX)) rfl (kL (fun a H=>Ez.ld30 H rfl (hX)) rfl (kL (fun a H=>Ez.ld30 H rfl (hO)) rfl ?_))));clear H a;intro a H
  refine wk H cf27 (u256MulMod (row4 F s.t) (row4 F s.t) OW wX hWx hWx OW_W4 (by rw [hON];exact hlx)) rfl rfl ?_
  rintro _ w1 ⟨X,rfl,hWX,hvX,hF1⟩
  refine ⟨_,rfl,?_⟩;clear H a;intro a H
  have hR:=hR.fr0 hF1
  have hF:=hF.trans hF1
  have hval:nv X 4=s.nv V/\nv X 4 < NN:=by
   have e:nv X 4=(V s.t*V s.t) % NN:=by rw [hvX,hON,hvx]
   exact ⟨by rw [e];simp [Stp.nv,hop],by rw [e];exact El _ (by decide)⟩
  refine wls H (Ez.st30 H rfl rfl hR rfl) ?_;clear H;intro H
  refine kP [(4,_),(5,_),(7,_)] rfl (kW ?_) a H;clear H a;intro a H
  refine Wr (bret (thr ?_))
  obtain ⟨hR3,hfs⟩:=hR.set (vs:=wd4 X) rfl
  exact rt30 H rfl rfl hR3 ⟨_,rfl,hWX,hval.1,hval.2,hF.put hkrl⟩
 have hn9:=Df hb
 refine Sq (Rl [_,_] (wl H (Ez.eql H rfl rfl (rfl)) rfl (kA rfl rfl (kP [(4,_),(5,_),(6,_),(7,_),(23,_),(81,_)] rfl (kW ?_)))));clear H a;intro a H
 refine Cs (H.o rfl) (fun hb=>?_) (fun hb=>?_)
 ·have hop:=Dt hb
  refine Sq (Rl [_,_,_,_,_] (wl H (Ez.ld30 H rfl (hY)) rfl (kL (fun a H=>Ez.ld30 H rfl (hY)) rfl (kL (fun a H=>Ez.ld30 H rfl (hO)) rfl ?_))));clear H a;intro a H
  refine wk H cf27 (u256MulMod (row4 F s.a) (row4 F s.a) OW wX hWy hWy OW_W4 (by rw [hON];exact hly)) rfl rfl ?_
  rintro _ w1 ⟨X,rfl,hWX,hvX,hF1⟩
  refine ⟨_,rfl,?_⟩;clear H a;intro a H
  have hR:=hR.fr0 hF1
  have hF:=hF.trans hF1
  have hval:nv X 4=s.nv V/\nv X 4 < NN:=by
   have e:nv X 4=(V s.a*V s.a) % NN:=by rw [hvX,hON,hvy]
   exact ⟨by rw [e];simp [Stp.nv,hop],by rw [e];exact El _ (by decide)⟩
  refine wls H (Ez.st30 H rfl rfl hR rfl) ?_;clear H;intro H
  refine kP [(4,_),(5,_),(7,_)] rfl (kW ?_) a H;clear H a;intro a H
  refine Wr (bret (thr ?_))
  obtain ⟨hR3,hfs⟩:=hR.set (vs:=wd4 X) rfl
  exact rt30 H rfl rfl hR3 ⟨_,rfl,hWX,hval.1,hval.2,hF.put hkrl⟩
 have hn10:=Df hb
 refine Sq (Rl [_,_] (wl H (Ez.eql H rfl rfl (rfl)) rfl (kA rfl rfl (kP [(4,_),(5,_),(6,_),(7,_),(87,_)] rfl (kW ?_)))));clear H a;intro a H
 refine Cs (H.o rfl) (fun hb=>?_) (fun hb=>?_)
 ·have hop:=Dt hb
  refine Sq (Rl [_,_,_,_] (wl H (Ez.ld30 H rfl (hX)) rfl (kL (fun a H=>Ez.ld30 H rfl (hO)) rfl ?_)));clear H a;intro a H
  refine wk H cf29 (u256InvMod (row4 F s.t) OW wX hWx OW_W4 hON hlx) rfl rfl ?_
  rintro _ w1 ⟨X,rfl,hWX,hvX,hF1⟩
  refine ⟨_,rfl,?_⟩;clear H a;intro a H
  have hR:=hR.fr0 hF1
  have hF:=hF.trans hF1
  have hval:nv X 4=s.nv V/\nv X 4 < NN:=by
   have e:nv X 4=invN (V s.t):=by rw [hvX,hvx]
   exact ⟨by rw [e];simp [Stp.nv,hop],by rw [e];exact (invN_spec (by rw [<-hvx];exact (Qv hWx).1) (by rw [<-hvx];exact hlx)).2.1⟩
  refine wls H (Ez.st30 H rfl rfl hR rfl) ?_;clear H;intro H
  refine kP [(4,_),(5,_),(7,_)] rfl (kW ?_) a H;clear H a;intro a H
  refine Wr (bret (thr ?_))
  obtain ⟨hR3,hfs⟩:=hR.set (vs:=wd4 X) rfl
  exact rt30 H rfl rfl hR3 ⟨_,rfl,hWX,hval.1,hval.2,hF.put hkrl⟩
 have hn11:=Df hb
 have hop:s.op=12:=by have:=hs.op;omega
 refine Wk0 (bn (thn (Sq (Rl [_,_,_,_] (wl H (Ez.ld30 H rfl (hY)) rfl (kL (fun a H=>Ez.ld30 H rfl (hO)) rfl ?_))))));clear H a;intro a H
 refine wk H cf29 (u256InvMod (row4 F s.a) OW wX hWy OW_W4 hON hly) rfl rfl ?_
 rintro _ w1 ⟨X,rfl,hWX,hvX,hF1⟩
 refine ⟨_,rfl,?_⟩;clear H a;intro a H
 have hR:=hR.fr0 hF1
 have hF:=hF.trans hF1
 have hval:nv X 4=s.nv V/\nv X 4 < NN:=by
  have e:nv X 4=invN (V s.a):=by rw [hvX,hvy]
  exact ⟨by rw [e];simp [Stp.nv,hop],by rw [e];exact (invN_spec (by rw [<-hvy];exact (Qv hWy).1) (by rw [<-hvy];exact hly)).2.1⟩
 refine wls H (Ez.st30 H rfl rfl hR rfl) ?_;clear H;intro H
 refine kP [(4,_)] rfl (kW ?_) a H;clear H a;intro a H
 refine Wr ?_
 obtain ⟨hR3,hfs⟩:=hR.set (vs:=wd4 X) rfl
 exact rt30 H rfl rfl hR3 ⟨_,rfl,hWX,hval.1,hval.2,hF.put hkrl⟩
end
section
set_option maxRecDepth 8000
def bz (X:Nat->Int) (i:Nat):Int:=X ((31 - i) / 8) / 2 ^ (8*((31 - i) % 8)) % 256
theorem bz_b (X:Nat->Int) (i:Nat):0<=bz X i/\bz X i < 256:=⟨En _ (by decide),El _ (by decide)⟩
theorem be_word {x:Int} (h:U64 x):be (fun i=>x / 2 ^ (8*(7 - i)) % 256) 8=x:=by
 unfold U64 at h
 have e0:(2:Int) ^ (8*(7 - 0))=72057594037927936:=by decide
 have e1:(2:Int) ^ (8*(7 - 1))=281474976710656:=by decide
 have e2:(2:Int) ^ (8*(7 - 2))=1099511627776:=by decide
 have e3:(2:Int) ^ (8*(7 - 3))=4294967296:=by decide
 have e4:(2:Int) ^ (8*(7 - 4))=16777216:=by decide
 have e5:(2:Int) ^ (8*(7 - 5))=65536:=by decide
 have e6:(2:Int) ^ (8*(7 - 6))=256:=by decide
 have e7:(2:Int) ^ (8*(7 - 7))=1:=by decide
 simp only [be,e0,e1,e2,e3,e4,e5,e6,e7]
 omega
theorem be_bz {X:Nat->Int} (hX:W4 X):be (bz X) 32=nv X 4:=by
 have a1:=Ki (bz X) 24 8
 have a2:=Ki (bz X) 16 8
 have a3:=Ki (bz X) 8 8
 rw [show 24+8=32 by rfl] at a1
 rw [show 16+8=24 by rfl] at a2
 rw [show 8+8=16 by rfl] at a3
 have p:(256:Int) ^ 8=18446744073709551616:=by decide
 have k:∀m j,m < 4->j < 8->bz X (8*m+j)=X (3 - m) / 2 ^ (8*(7 - j)) % 256:=fun m j hm hj=>by
  unfold bz
  rw [show (31 - (8*m+j)) / 8=3 - m by omega,show (31 - (8*m+j)) % 8=7 - j by omega]
 have b0:be (bz X) 8=X 3:=by
  rw [Je (Z:=fun j=>X (3 - 0) / 2 ^ (8*(7 - j)) % 256) 8 fun j hj=>by have:=k 0 j (by decide) hj;rwa [Nat.mul_zero,Nat.zero_add] at this]
  exact be_word (hX 3 (by decide))
 have b1:be (fun i=>bz X (8+i)) 8=X 2:=by
  rw [Je 8 fun j hj=>k 1 j (by decide) hj]
  exact be_word (hX 2 (by decide))
 have b2:be (fun i=>bz X (16+i)) 8=X 1:=by
  rw [Je 8 fun j hj=>k 2 j (by decide) hj]
  exact be_word (hX 1 (by decide))
 have b3:be (fun i=>bz X (24+i)) 8=X 0:=by
  rw [Je 8 fun j hj=>k 3 j (by decide) hj]
  exact be_word (hX 0 (by decide))
 rw [nv4,a1,a2,a3,b0,b1,b2,b3,p]
 omega
theorem u256Bytes (X:Nat->Int) (w:World) (hX:W4 X):
 Calls Tryz.prog 16 #[.agg (wd4 X).toArray] w fun e w'=>∃Y,e=.returned (.agg (by8 Y 32).toArray)/\B8 Y 32/\be Y 32=nv X 4/\Fr NoT w w':=by
 obtain ⟨w0,hw0⟩:∃w0,w0=w:=⟨w,rfl⟩
 rw [<-hw0]
 clear hw0 w
 refine Qd (vs:= [.agg (wd4 X).toArray]) Tryz.func16 rfl rfl ?_
 intro a H
 replace H:Hd a 24 [] [(0,.agg (wd4 X).toArray)]:=H
 refine Sq (Rl [_,_] (wl H (Ez.boxR H rfl) rfl (kL (fun a H=>Ez.al24) rfl (kP [(1,_),(2,_)] rfl (kW ?_)))));clear H a;intro a H
 have hF:=Fr.refl NoT w0
 have hsz0:=hF.size
 have hB:=Rg.new w0 (wd4 X) 30
 have hFn:=(Fr.refl NoT w0).alloc (.cells (wd4 X).toArray 30)
 have hF:=hF.alloc (.cells (wd4 X).toArray 30)
 obtain ⟨k1,hk1⟩:∃g,g=w0.heap.size:=⟨_,rfl⟩
 rw [<-hk1] at H hB
 have hk1l:w0.heap.size<=k1:=by first | omega | (rw [hk1];exact hsz0)
 have hsz0:=hF.size
 generalize w0.alloc (.cells (wd4 X).toArray 30)=wA at*
 have hR:=Rg.new wA (by8 Z0 32) 24
 have hFn:=(Fr.refl NoT wA).alloc (.cells (by8 Z0 32).toArray 24)
 have hF:=hF.alloc (.cells (by8 Z0 32).toArray 24)
 have hB:=hB.fr0 hFn
 obtain ⟨k2,hk2⟩:∃g,g=wA.heap.size:=⟨_,rfl⟩
 rw [<-hk2] at H hR
 have hk2l:w0.heap.size<=k2:=by first | omega | (rw [hk2];exact hsz0)
 have hsz0:=hF.size
 generalize wA.alloc (.cells (by8 Z0 32).toArray 24)=wB at*
 refine Sq (Rl [_] (wl H (Ez.al24) rfl (kW ?_)));clear H a;intro a H
 have hX1:=Rg.new wB (by8 Z0 32) 24
 have hFn:=(Fr.refl NoT wB).alloc (.cells (by8 Z0 32).toArray 24)
 have hF:=hF.alloc (.cells (by8 Z0 32).toArray 24)
 have hk2w:=hR.lt (j:=0) (by rw [Qh];decide)
 have hk1w:=hB.lt (j:=0) (Nat.succ_pos 3)
 have hB:=hB.fr0 hFn
 have hR:=hR.fr0 hFn
 obtain ⟨k3,hk3⟩:∃g,g=wB.heap.size:=⟨_,rfl⟩
 rw [<-hk3] at H hX1
 have hk3l:w0.heap.size<=k3:=by first | omega | (rw [hk3];exact hsz0)
 have hsz0:=hF.size
 generalize wB.alloc (.cells (by8 Z0 32).toArray 24)=wC at*
 refine Sq (Sq (Rl [_] (wl H (Ez.mv H rfl) rfl (kW ?_))));clear H a;intro a H
 refine Wb ?_
 refine Qo (fun mm a w=>∃(k:Nat) (Y:Nat->Int),mm=32 - k/\k<=32/\Hd a 24 [] [(1,pz k1),(2,pz k2),(3,pz k3),(6,.int .i64 k)]/\Rg w k1 0 (wd4 X)/\Rg w k2 0 (by8 Z0 32)/\Rg w k3 0 (by8 Y 32)/\(∀j,j < k->Y j=bz X j)/\Fr NoT w0 w) (32) ?_ ?_
 ·replace H:Hd a 24 [] [(1,_),(2,_),(3,_),(6,_)]:=H.pick [1,2,3,6]
  exact ⟨0,Z0,rfl,Nat.zero_le _,H,hB,hR,hX1,fun j hj=>by omega,hF⟩
 clear H a
 intro mm a w hI
 clear hB hR hX1 hF hFn hsz0
 obtain ⟨k,Y,hmm,hk,H,hB,hR,hX1,hY,hF⟩:=hI
 refine Sq (Rl [_] (wl H (Ez.lss H rfl rfl (rfl)) rfl (kW (kS ?_))));clear H a;intro a H
 refine Cs (H.o rfl) (fun hb0=>?_) (fun hb0=>?_)
 ·have hk2:k < 32:=by have:=Dt hb0;omega
  have hat:(31 - k) / 8 < 4:=by omega
  have hxk:=bz_b X k
  refine Wk0 (thn (Sq (Wb (Sq (Rl [_,_] (wl H (Ez.mv H rfl) rfl (kA rfl rfl (kP [(1,_),(2,_),(3,_),(4,_),(6,_)] rfl (kW (kS (kR [_,_,_] (kM rfl rfl (kL (fun a H=>Ez.subI (r:=((31 - k:Nat):Int)) H rfl rfl (by omega) (by omega)) rfl (kA rfl rfl (kP [(1,_),(2,_),(3,_),(4,_),(5,_),(6,_)] rfl (kW (kR [_,_,_,_,_,_,_,_,_,_,_,_] (kM rfl rfl (kM rfl rfl (kL (fun a H=>Ez.quo H rfl rfl (by omega) (by omega) (by rw [IntKind.wrap_i64];omega) (r:=(((31 - k) / 8:Nat):Int)) (by omega)) rfl (kL (fun a H=>Ez.ix30 H rfl rfl ((31 - k) / 8) rfl hat) rfl (kL (fun a H=>Ez.ld28 H rfl (hB.cell (Q0 hat))) rfl (kM rfl rfl (kL (fun a H=>Ez.rem H rfl rfl (by omega) (by omega) (r:=(((31 - k) % 8:Nat):Int)) (by omega)) rfl (kL (fun a H=>Ez.mulI (r:=((8*((31 - k) % 8):Nat):Int)) H rfl rfl (by omega) (by omega)) rfl (kL (fun a H=>Ez.shrU H rfl rfl (8*((31 - k) % 8)) rfl (by show _<=64;omega) rfl) rfl (kL (fun a H=>Ez.cv (r:=bz X k) H rfl ty28 ty5 (by rw [IntKind.wrap_u8'];rfl)) rfl ?_)))))))))))))))))))))))))));clear H a;intro a H
  refine wl H (Ez.ix24 H rfl rfl k rfl hk2) rfl ?_;clear H a;intro a H
  refine wls H (Ez.st5 H rfl rfl rfl (hX1.cell (Q8 hk2)) (hX1.fz _ (by rw [Qh];exact hk2))) ?_;clear H;intro H
  replace H:Hd a 24 [] [(1,_),(2,_),(3,_),(6,_)]:=H.pick [1,2,3,6]
  refine Wn ?_
  have hfs:Fr (Bl k3) w (w.setCell ⟨k3,0+k,none⟩ (.int .u8 (bz X k))):=(Fr.refl (Bl k3) w).setCell (fun _=>rfl) _
  have hF2:=hF.hi (hfs.up fun i j ht=>by have ht:i=k3:=ht;omega)
  have hB2:=hB.fr hfs (fun j _ _ f=>by have f:k1=k3:=f;omega)
  have hR2:=hR.fr hfs (fun j _ _ f=>by have f:k2=k3:=f;omega)
  have hX2:=hX1.one (v:=.int .u8 0) (j:=k) (by rw [Qh];exact hk2) (.int .u8 (bz X k))
  rw [by8_set hk2] at hX2
  clear hfs
  generalize w.setCell ⟨k3,0+k,none⟩ (.int .u8 (bz X k))=wE at*
  have hY2:∀j,j < k+1->up Y k (bz X k) j=bz X j:=fun j hj=>by
   by_cases e:j=k
   ·subst e;rw [Qz]
   rw [Qx e];exact hY j (by omega)
  refine bn (thn (Rl [_,_] (wl H (Ez.addI (r:=((k+1:Nat):Int)) H rfl rfl (by omega) (by omega)) rfl (kM rfl rfl (kP [(1,_),(2,_),(3,_),(6,_)] rfl (kW (kP [(1,_),(2,_),(3,_),(6,_)] rfl ?_)))))));clear H a;intro a H
  exact ⟨32 - (k+1),by omega,k+1,_,rfl,by omega,H,hB2,hR2,hX2,hY2,hF2⟩
 have hk2:k=32:=by have:=Df hb0;omega
 subst hk2
 refine We (thx (thx (bxe (thn (Sq (Rl [_,_] (wl H (Ez.ld24 H rfl (hX1)) rfl ?_)))))));clear H a;intro a H
 refine wls H (Ez.st24 H rfl rfl hR (Qh _ _)) ?_;clear H;intro H
 refine kP [(2,_)] rfl (kW ?_) a H;clear H a;intro a H
 obtain ⟨hR3,hfs⟩:=hR.set (vs:=by8 Y 32) (by rw [Qh,Qh])
 have hF3:=hF.hi (hfs.up fun i j ht=>by have ht:=ht.1;omega)
 refine Wr ?_
 exact rt24 H rfl rfl hR3 ⟨_,rfl,fun j hj=>by rw [hY j hj];exact bz_b X j,by rw [Je 32 hY];exact be_bz hX,hF3⟩
end
section
set_option maxRecDepth 8000
structure Raw where
 op:Int
 t:Int
 a:Int
 b:Int
 n:Int
 Y:Nat->Int
def Raw.vs (r:Raw):List Value:=vs35 r.op r.t r.a r.b r.n r.Y
def Raw.s (r:Raw):Stp:=⟨r.op,r.n,r.t.toNat,r.a.toNat,r.b.toNat,r.Y⟩
def Raw.good (r:Raw) (V:Nat->Int):Prop:=Good r.op r.t r.a r.b V
theorem Raw.len (r:Raw):r.vs.length=37:=vs35_len _ _ _ _ _ _
theorem Raw.take {r:Raw} {V:Nat->Int} (h:r.good V) (hn:U32 r.n) (hY:B8 r.Y 32):r.s.ok/\r.s.vs=r.vs:=by
 obtain ⟨h0,h1,h2,h3,_⟩:=h
 refine ⟨⟨by show r.t.toNat < 4;omega,by show r.a.toNat < 4;omega,by show r.b.toNat < 4;omega,hn,hY,h0⟩,?_⟩
 unfold Stp.vs Raw.vs Raw.s
 simp only
 rw [Int.toNat_of_nonneg h1.1,Int.toNat_of_nonneg h2.1,Int.toNat_of_nonneg h3.1]
noncomputable def runR (rs:Nat->Raw):Nat->Nat->Int:=runS fun k=>(rs k).s
theorem steps (q:Option Addr) (b o n c:Nat) (rs:Nat->Raw) (w:World) (hq:0 < n->q=some ⟨b,o,none⟩) (hst:∀k,k < n->Rg w b (o+37*k) (rs k).vs/\U32 (rs k).n/\B8 (rs k).Y 32) (hn:n < 2147483648):
 Calls Tryz.prog 5 #[.slice q n c] w fun e w'=>∃m:Nat,e=.returned (.int .i64 m)/\m<=n/\(∀k,k < m->(rs k).good (runR rs k))/\(m < n->¬(rs m).good (runR rs m))/\Fr NoT w w':=by
 obtain ⟨w0,hw0⟩:∃w0,w0=w:=⟨w,rfl⟩
 rw [<-hw0] at hst ⊢
 clear hw0 w
 refine Qd (vs:= [.slice q n c]) Tryz.func5 rfl rfl ?_
 intro a H
 replace H:Hd a 33 [] [(0,.slice q n c)]:=H
 refine Sq (Rl [_] (wl H (Ez.asn H rfl) rfl (kW (kS (kR [_] (kL (fun a H=>Ez.al39) rfl (kW ?_)))))));clear H a;intro a H
 have hF:=Fr.refl NoT w0
 have hsz0:=hF.size
 have hA:=Rg.new w0 (wd16 Z0) 39
 have hF:=hF.alloc (.cells (wd16 Z0).toArray 39)
 obtain ⟨g3,hg3⟩:∃g,g=w0.heap.size:=⟨_,rfl⟩
 rw [<-hg3] at H hA
 have hg3l:w0.heap.size<=g3:=by omega
 generalize w0.alloc (.cells (wd16 Z0).toArray 39)=wB at*
 refine Sq (Sq (Rl [_] (wl H (Ez.asn H rfl) rfl (kW ?_))));clear H a;intro a H
 refine Wb ?_
 refine Qo (fun mm a w=>∃(k:Nat) (F:Nat->Int),mm=n - k/\k<=n/\Hd a 33 [] [(0,.slice q n c),(3,pz g3),(4,.int .i64 k)]/\Rg w g3 0 (wd16 F)/\RegZ F (runR rs k)/\(∀j,j < k->(rs j).good (runR rs j))/\Fr NoT w0 w) (n) ?_ ?_
 ·replace H:Hd a 33 [] [(0,_),(3,_),(4,_)]:=H.pick [0,3,4]
  exact ⟨0,Z0,rfl,Nat.zero_le _,H,hA,RegZ.zero,fun j hj=>by omega,hF⟩
 clear H a
 intro mm a w hI
 clear hA hF
 obtain ⟨k,F,hmm,hk,H,hA,hZ,hgd,hF⟩:=hI
 refine Sq (Sq (Rl [_,_,_,_] (wl H (Ez.mv H rfl) rfl (kM rfl rfl (kL (fun a H=>Ez.len22 H rfl) rfl (kL (fun a H=>Ez.lss H rfl rfl (rfl)) rfl (kP [(0,_),(3,_),(4,_),(8,_)] rfl (kW ?_))))))));clear H a;intro a H
 refine Cs (H.o rfl) (fun hb0=>?_) (fun hb0=>?_)
 ·have hkn:k < n:=by have:=Dt hb0;omega
  obtain ⟨hB0,hn32,hY8⟩:=hst k hkn
  have hB:=hB0.fr0 hF
  obtain ⟨rk,hrk⟩:∃rk,rk=rs k:=⟨_,rfl⟩
  rw [<-hrk] at hB hn32 hY8 hB0
  rw [hq (by omega)] at H
  refine Wk0 (thn (Sq (Wb (Sq (Sq ?_)))))
  refine Kl (fun w=>Rg w g3 0 (wd16 F)/\Rg w b (o+37*k) rk.vs) [] [_,_,_,_,_,_,_] [(true,0),(true,1),(true,2),(true,3),(true,4),(false,5),(true,6)] Qb (fun _ _ _ _ _ h=>h) (by kernel_rfl) ?_
  intro w1 hw
  have hA:=hA.fr0 (hw.fr NoT)
  have hB:=hB.fr0 (hw.fr NoT)
  have hF:=hF.trans (hw.fr NoT)
  obtain ⟨wA,hwA⟩:∃z,z=w1:=⟨w1,rfl⟩
  rw [<-hwA] at hA hB hF ⊢
  clear hwA hw
  refine ⟨⟨hA,hB⟩,?_⟩
  refine mkp rfl H (fun w2 hS=>Ez.ld39 H rfl hS.1) rfl ?_;clear H a;intro a H
  refine mkp rfl H (fun w2 hS=>Ez.mv H rfl) rfl ?_;clear H a;intro a H
  refine mkp rfl H (fun w2 hS=>Ez.mv H rfl) rfl ?_;clear H a;intro a H
  refine mkp rfl H (fun w2 hS=>Ez.ix22 H rfl rfl k rfl hkn) rfl ?_;clear H a;intro a H
  refine mkp rfl H (fun w2 hS=>Ez.ld35 H rfl rk.len hS.2.at_) rfl ?_;clear H a;intro a H
  refine mkk rfl H cf12 (fits F rk.op rk.t rk.a rk.b rk.n rk.Y wA (runR rs k) hZ) rfl rfl ?_
  rintro _ w1 ⟨r,rfl,hr,hF1⟩
  refine ⟨_,rfl,⟨hA.fr0 hF1,hB.fr0 hF1⟩,?_⟩;clear H a;intro a H
  have hA:=hA.fr0 hF1
  have hB:=hB.fr0 hF1
  have hF:=hF.trans hF1
  refine mkp rfl H (fun w2 hS=>Ez.not H rfl rfl) rfl ?_;clear H a;intro a H
  replace H:Hd a 33 [] [(0,_),(3,_),(4,_),(17,_)]:=H.pick [0,3,4,17]
  refine mke ?_
  refine Cs (H.o rfl) (fun hb1=>?_) (fun hb1=>?_)
  ·have hng:¬rk.good (runR rs k):=fun hg=>by rw [hr.2 hg] at hb1;simp at hb1
   refine Sq (Rl [_,_] (wl H (Ez.mv H rfl) rfl (kA rfl rfl (kP [(0,_),(2,_),(3,_),(4,_)] rfl (kW ?_)))));clear H a;intro a H
   refine Wr (thr (bret (thr (thr (bret (thr ?_))))))
   refine rt1 H rfl rfl ?_
   rw [hrk] at hng
   exact ⟨k,rfl,hk,hgd,fun _=>hng,hF⟩
  have hg:rk.good (runR rs k):=hr.1 (by simpa using hb1)
  obtain ⟨hok,hvs⟩:=Raw.take hg hn32 hY8
  rw [<-hvs] at hB
  obtain ⟨sk,hsk⟩:∃sk,sk=rk.s:=⟨_,rfl⟩
  rw [<-hsk] at hB hok
  refine Wk0 (thn ?_)
  refine Kl (fun w=>Rg w g3 0 (wd16 F)/\Rg w b (o+37*k) sk.vs) [12] [_,_,_,_,_,_,_,_,_,_,_,_,_] [(true,0),(true,1),(true,2),(true,3),(true,4),(true,5),(true,6),(true,7),(true,8),(true,9),(false,10),(true,11),(false,12)] Qb (fun _ _ _ _ _ h=>h) (by kernel_rfl) ?_
  intro w1 hw
  have hA:=hA.fr0 (hw.fr NoT)
  have hB:=hB.fr0 (hw.fr NoT)
  have hF:=hF.trans (hw.fr NoT)
  obtain ⟨wA,hwA⟩:∃z,z=w1:=⟨w1,rfl⟩
  rw [<-hwA] at hA hB hF ⊢
  clear hwA hw
  refine ⟨⟨hA,hB⟩,?_⟩
  refine mkp rfl H (fun w2 hS=>Ez.mv H rfl) rfl ?_;clear H a;intro a H
  refine mkp rfl H (fun w2 hS=>Ez.mv H rfl) rfl ?_;clear H a;intro a H
  refine mkp rfl H (fun w2 hS=>Ez.ix22 H rfl rfl k rfl hkn) rfl ?_;clear H a;intro a H
  refine mkp rfl H (fun w2 hS=>Ez.fa35_1 H rfl) rfl ?_;clear H a;intro a H
  refine mkp rfl H (fun w2 hS=>Ez.ld3 H rfl (hS.2.cell (j:=1) rfl)) rfl ?_;clear H a;intro a H
  refine mkp rfl H (fun w2 hS=>Ez.ld39 H rfl hS.1) rfl ?_;clear H a;intro a H
  refine mkp rfl H (fun w2 hS=>Ez.mv H rfl) rfl ?_;clear H a;intro a H
  refine mkp rfl H (fun w2 hS=>Ez.mv H rfl) rfl ?_;clear H a;intro a H
  refine mkp rfl H (fun w2 hS=>Ez.ix22 H rfl rfl k rfl hkn) rfl ?_;clear H a;intro a H
  refine mkp rfl H (fun w2 hS=>Ez.ld35 H rfl sk.len hS.2.at_) rfl ?_;clear H a;intro a H
  refine mkk rfl H cf13 (after F (runR rs k) sk wA hZ hok) rfl rfl ?_
  rintro _ w1 ⟨X,rfl,hWX,hvX,hlX,hF1⟩
  refine ⟨_,rfl,⟨hA.fr0 hF1,hB.fr0 hF1⟩,?_⟩;clear H a;intro a H
  have hA:=hA.fr0 hF1
  have hF:=hF.trans hF1
  obtain ⟨wB,hwB⟩:∃z,z=w1:=⟨w1,rfl⟩
  rw [<-hwB] at hA hF ⊢
  clear hwB
  refine mkp rfl H (fun w2 hS=>Ez.ix39 H rfl rfl sk.t rfl hok.t) rfl ?_;clear H a;intro a H
  refine mks rfl H (Ez.st30 H rfl rfl (hA.row hok.t) rfl) rfl ?_;clear H;intro H
  replace H:Hd a 33 [] [(0,_),(3,_),(4,_)]:=H.pick [0,3,4]
  refine mke' ?_
  have hst1:=Jp g3 (wd4 X) (0+4*sk.t) wB
  have hA:=hA.putRow (X:=X) hok.t
  have hF:=hF.hi (hst1.up fun i _ ht=>by have:=ht.1;omega)
  have hZ:=hZ.upd (i:=sk.t) hWX hlX
  rw [hvX] at hZ
  clear hst1
  generalize wB.setCells g3 (0+4*sk.t) (wd4 X)=wE at*
  rw [hsk,hrk] at hZ
  have hZ:RegZ (put4 F sk.t X) (runR rs (k+1)):=by rw [hsk,hrk];exact hZ
  rw [hrk] at hg
  have hgd:∀j,j < k+1->(rs j).good (runR rs j):=fun j hj=>by
   by_cases e:j=k
   ·subst e;exact hg
   exact hgd j (by omega)
  rw [<-hq (by omega)] at H
  refine bn (thn (Rl [_,_,_] (wl H (Ez.mv H rfl) rfl (kL (fun a H=>Ez.addI (r:=((k+1:Nat):Int)) H rfl rfl (by omega) (by omega)) rfl (kA rfl rfl (kP [(0,_),(3,_),(4,_)] rfl (kW (kP [(0,_),(3,_),(4,_)] rfl ?_))))))));clear H a;intro a H
  exact ⟨n - (k+1),by omega,k+1,_,rfl,by omega,H,hA,hZ,hgd,hF⟩
 have hkn:k=n:=by have:=Df hb0;omega
 subst hkn
 refine We (thx (thx (bxe (thn (Sq (Rl [_,_,_] (wl H (Ez.mv H rfl) rfl (kL (fun a H=>Ez.len22 H rfl) rfl (kA rfl rfl (kP [(2,_)] rfl (kW ?_)))))))))));clear H a;intro a H
 refine Wr ?_
 refine rt1 H rfl rfl ?_
 exact ⟨k,rfl,Nat.le_refl _,hgd,fun h=>absurd h (Nat.lt_irrefl _),hF⟩
end
section
set_option maxRecDepth 8000
theorem specRun (q:Option Addr) (b o n c:Nat) (rs:Nat->Raw) (w:World) (hq:0 < n->q=some ⟨b,o,none⟩) (hst:∀k,k < n->Rg w b (o+37*k) (rs k).vs/\U32 (rs k).n/\B8 (rs k).Y 32) (hgood:∀k,k < n->(rs k).good (runR rs k)) (hn:n < 2147483648):
 Calls Tryz.prog 7 #[.slice q n c] w fun e w'=>∃F,e=.returned (.agg (by8 F 128).toArray)/\B8 F 128/\(∀i,i < 4->be (fun j=>F (32*i+j)) 32=runR rs n i)/\Fr NoT w w':=by
 obtain ⟨w0,hw0⟩:∃w0,w0=w:=⟨w,rfl⟩
 rw [<-hw0] at hst ⊢
 clear hw0 w
 refine Qd (vs:= [.slice q n c]) Tryz.func7 rfl rfl ?_
 intro a H
 replace H:Hd a 36 [] [(0,.slice q n c)]:=H
 refine Sq (Rl [_] (wl H (Ez.al25) rfl (kW ?_)));clear H a;intro a H
 have hR:=Rg.new w0 (by8 Z0 128) 25
 have hF:=(Fr.refl NoT w0).alloc (.cells (by8 Z0 128).toArray 25)
 obtain ⟨g2,hg2⟩:∃g,g=w0.heap.size:=⟨_,rfl⟩
 rw [<-hg2] at H hR
 have hg2l:=hR.lt (j:=0) (by rw [Qh];decide)
 generalize w0.alloc (.cells (by8 Z0 128).toArray 25)=wA at*
 refine Sq (Rl [_] (wl H (Ez.al39) rfl (kW ?_)));clear H a;intro a H
 have hA:=Rg.new wA (wd16 Z0) 39
 have hR:=hR.fr0 ((Fr.refl NoT wA).alloc (.cells (wd16 Z0).toArray 39))
 have hszA:=hF.size
 have hF:=hF.alloc (.cells (wd16 Z0).toArray 39)
 obtain ⟨g3,hg3⟩:∃g,g=wA.heap.size:=⟨_,rfl⟩
 rw [<-hg3] at H hA
 have hg3l:w0.heap.size<=g3:=by omega
 generalize wA.alloc (.cells (wd16 Z0).toArray 39)=wB at*
 refine Sq (Sq (Rl [_,_,_] (wl H (Ez.mv H rfl) rfl ?_)));clear H a;intro a H
 refine wk H cf5 (steps q b o n c rs wB hq (fun k hk=>⟨(hst k hk).1.fr0 hF,(hst k hk).2⟩) hn) rfl rfl ?_
 rintro _ w1 ⟨m,rfl,hmn,hmg,hmb,hF1⟩
 refine ⟨_,rfl,?_⟩;clear H a;intro a H
 have hmm:m=n:=by
  rcases Nat.lt_or_ge m n with h | h
  ·exact absurd (hgood m h) (hmb h)
  omega
 subst hmm
 have hA:=hA.fr0 hF1
 have hR:=hR.fr0 hF1
 have hF:=hF.trans hF1
 clear hmb hmg hmn hF1
 refine wl H (Ez.mv H rfl) rfl (kP [(0,_),(2,_),(3,_),(8,_),(9,_)] rfl (kW ?_));clear H a;intro a H
 refine Wb ?_
 refine Qo (fun mm a w=>∃(k:Nat) (F:Nat->Int),mm=m - k/\k<=m/\Hd a 36 [] [(0,.slice q m c),(2,pz g2),(3,pz g3),(8,.int .i64 m),(9,.int .i64 k)]/\Rg w g3 0 (wd16 F)/\RegZ F (runR rs k)/\Rg w g2 0 (by8 Z0 128)/\Fr NoT w0 w) (m) ?_ ?_
 ·replace H:Hd a 36 [] [(0,_),(2,_),(3,_),(8,_),(9,_)]:=H.pick [0,2,3,8,9]
  exact ⟨0,Z0,rfl,Nat.zero_le _,H,hA,RegZ.zero,hR,hF⟩
 clear H a
 intro mm a w hI
 clear hA hF hR
 obtain ⟨k,F,hmm,hk,H,hA,hZ,hR,hF⟩:=hI
 refine Sq (Rl [_] (wl H (Ez.lss H rfl rfl (rfl)) rfl (kW (kS ?_))));clear H a;intro a H
 refine Cs (H.o rfl) (fun hb0=>?_) (fun hb0=>?_)
 ·have hkn:k < m:=by have:=Dt hb0;omega
  obtain ⟨hB0,hn32,hY8⟩:=hst k hkn
  have hB:=hB0.fr0 hF
  have hg:=hgood k hkn
  obtain ⟨rk,hrk⟩:∃rk,rk=rs k:=⟨_,rfl⟩
  rw [<-hrk] at hB hn32 hY8 hB0 hg
  rw [hq (by omega)] at H
  obtain ⟨hok,hvs⟩:=Raw.take hg hn32 hY8
  rw [<-hvs] at hB
  obtain ⟨sk,hsk⟩:∃sk,sk=rk.s:=⟨_,rfl⟩
  rw [<-hsk] at hB hok
  refine Wk0 (thn (Sq (Wb (Sq (Rl [_,_] (wl H (Ez.mv H rfl) rfl (kA rfl rfl (kP [(0,_),(2,_),(3,_),(4,_),(8,_),(9,_)] rfl (kW ?_)))))))));clear H a;intro a H
  refine Kl (fun w=>Rg w g3 0 (wd16 F)/\Rg w b (o+37*k) sk.vs) [12] [_,_,_,_,_,_,_,_,_,_,_,_,_] [(true,0),(true,1),(true,2),(true,3),(true,4),(true,5),(true,6),(true,7),(true,8),(true,9),(false,10),(true,11),(false,12)] Qb (fun _ _ _ _ _ h=>h) (by kernel_rfl) ?_
  intro w1 hw
  have hA:=hA.fr0 (hw.fr NoT)
  have hB:=hB.fr0 (hw.fr NoT)
  have hR:=hR.fr0 (hw.fr NoT)
  have hF:=hF.trans (hw.fr NoT)
  obtain ⟨wA,hwA⟩:∃z,z=w1:=⟨w1,rfl⟩
  rw [<-hwA] at hA hB hR hF ⊢
  clear hwA hw
  refine ⟨⟨hA,hB⟩,?_⟩
  refine mkp rfl H (fun w2 hS=>Ez.mv H rfl) rfl ?_;clear H a;intro a H
  refine mkp rfl H (fun w2 hS=>Ez.mv H rfl) rfl ?_;clear H a;intro a H
  refine mkp rfl H (fun w2 hS=>Ez.ix22 H rfl rfl k rfl hkn) rfl ?_;clear H a;intro a H
  refine mkp rfl H (fun w2 hS=>Ez.fa35_1 H rfl) rfl ?_;clear H a;intro a H
  refine mkp rfl H (fun w2 hS=>Ez.ld3 H rfl (hS.2.cell (j:=1) rfl)) rfl ?_;clear H a;intro a H
  refine mkp rfl H (fun w2 hS=>Ez.ld39 H rfl hS.1) rfl ?_;clear H a;intro a H
  refine mkp rfl H (fun w2 hS=>Ez.mv H rfl) rfl ?_;clear H a;intro a H
  refine mkp rfl H (fun w2 hS=>Ez.mv H rfl) rfl ?_;clear H a;intro a H
  refine mkp rfl H (fun w2 hS=>Ez.ix22 H rfl rfl k rfl hkn) rfl ?_;clear H a;intro a H
  refine mkp rfl H (fun w2 hS=>Ez.ld35 H rfl sk.len hS.2.at_) rfl ?_;clear H a;intro a H
  refine mkk rfl H cf13 (after F (runR rs k) sk wA hZ hok) rfl rfl ?_
  rintro _ w1 ⟨X,rfl,hWX,hvX,hlX,hF1⟩
  refine ⟨_,rfl,⟨hA.fr0 hF1,hB.fr0 hF1⟩,?_⟩;clear H a;intro a H
  have hA:=hA.fr0 hF1
  have hR:=hR.fr0 hF1
  have hF:=hF.trans hF1
  obtain ⟨wB,hwB⟩:∃z,z=w1:=⟨w1,rfl⟩
  rw [<-hwB] at hA hR hF ⊢
  clear hwB
  refine mkp rfl H (fun w2 hS=>Ez.ix39 H rfl rfl sk.t rfl hok.t) rfl ?_;clear H a;intro a H
  refine mks rfl H (Ez.st30 H rfl rfl (hA.row hok.t) rfl) rfl ?_;clear H;intro H
  replace H:Hd a 36 [] [(0,_),(2,_),(3,_),(8,_),(9,_)]:=H.pick [0,2,3,8,9]
  refine mke' ?_
  have hst1:=Jp g3 (wd4 X) (0+4*sk.t) wB
  have hR:=hR.fr hst1 (fun i _ _ f=>by have f:=f.1;omega)
  have hA:=hA.putRow (X:=X) hok.t
  have hF:=hF.hi (hst1.up fun i _ ht=>by have:=ht.1;omega)
  have hZ:=hZ.upd (i:=sk.t) hWX hlX
  rw [hvX] at hZ
  clear hst1
  generalize wB.setCells g3 (0+4*sk.t) (wd4 X)=wE at*
  have hZ:RegZ (put4 F sk.t X) (runR rs (k+1)):=by rw [hsk,hrk] at hZ ⊢;exact hZ
  rw [<-hq (by omega)] at H
  refine bn (thn (Rl [_,_] (wl H (Ez.addI (r:=((k+1:Nat):Int)) H rfl rfl (by omega) (by omega)) rfl (kM rfl rfl (kP [(0,_),(2,_),(3,_),(8,_),(9,_)] rfl (kW (kP [(0,_),(2,_),(3,_),(8,_),(9,_)] rfl ?_)))))));clear H a;intro a H
  exact ⟨m - (k+1),by omega,k+1,_,rfl,by omega,H,hA,hZ,hR,hF⟩
 have hkn:k=m:=by have:=Df hb0;omega
 subst hkn
 refine We (thx (thx (bxe (thn (Sq (Rl [_] (wl H (Ez.al25) rfl (kP [(2,_),(3,_),(5,_)] rfl (kW ?_)))))))));clear H a;intro a H
 have hg3w:=hA.lt (j:=0) (by rw [Jz];decide)
 have hg2w:=hR.lt (j:=0) (by rw [Qh];decide)
 have hwsz:=hF.size
 have hB:=Rg.new w (by8 Z0 128) 25
 have hFa:=(Fr.refl NoT w).alloc (.cells (by8 Z0 128).toArray 25)
 have hA:=hA.fr0 hFa
 have hR:=hR.fr0 hFa
 have hF:=hF.trans hFa
 clear hFa
 obtain ⟨g5,hg5⟩:∃g,g=w.heap.size:=⟨_,rfl⟩
 rw [<-hg5] at H hB
 have hg25:g2≠g5:=by omega
 have hg35:g3≠g5:=by omega
 have hw5:w0.heap.size<=g5:=by omega
 generalize w.alloc (.cells (by8 Z0 128).toArray 25)=wC at*
 refine Sq (Sq (Rl [_] (wl H (Ez.mv H rfl) rfl (kW ?_))));clear H a;intro a H
 refine Wb ?_
 refine Qo (fun mm a w=>∃(j:Nat) (G:Nat->Int),mm=4 - j/\j<=4/\Hd a 36 [] [(2,pz g2),(3,pz g3),(5,pz g5),(25,.int .i64 j)]/\Rg w g3 0 (wd16 F)/\Rg w g2 0 (by8 Z0 128)/\Rg w g5 0 (by8 G 128)/\B8 G 128/\(∀i,i < j->be (fun j=>G (32*i+j)) 32=runR rs k i)/\Fr NoT w0 w) (4) ?_ ?_
 ·replace H:Hd a 36 [] [(2,_),(3,_),(5,_),(25,_)]:=H.pick [2,3,5,25]
  exact ⟨0,Z0,rfl,Nat.zero_le _,H,hA,hR,hB,fun _ _=>⟨Int.le_refl 0,(by decide:(0:Int) < 256)⟩,fun i hi=>by omega,hF⟩
 clear H a
 intro mm a w hI1
 clear hA hR hB hF
 obtain ⟨j,G,hmm,hj,H,hA,hR,hB,hF8,hFe,hF⟩:=hI1
 refine Sq (Rl [_] (wl H (Ez.lss H rfl rfl (rfl)) rfl (kW (kS ?_))));clear H a;intro a H
 refine Cs (H.o rfl) (fun hb1=>?_) (fun hb1=>?_)
 ·have hj4:j < 4:=by have:=Dt hb1;omega
  refine Wk0 (thn (Sq (Wb (Sq (Rl [_,_] (wl H (Ez.mv H rfl) rfl (kA rfl rfl (kP [(2,_),(3,_),(5,_),(6,_),(25,_)] rfl (kW (kR [_,_,_,_,_,_,_] (kM rfl rfl (kM rfl rfl (kL (fun a H=>Ez.ix39 H rfl rfl j rfl hj4) rfl (kL (fun a H=>Ez.ld30 H rfl ((hA.row hj4))) rfl ?_))))))))))))));clear H a;intro a H
  refine wk H cf16 (u256Bytes (row4 F j) w (hZ j hj4).1) rfl rfl ?_
  rintro _ w1 ⟨Y,rfl,hY,hbe,hFb⟩
  refine ⟨_,rfl,?_⟩;clear H a;intro a H
  have hA:=hA.fr0 hFb
  have hR:=hR.fr0 hFb
  have hB:=hB.fr0 hFb
  have hF:=hF.trans hFb
  rw [(hZ j hj4).2.1] at hbe
  obtain ⟨wD,hwD⟩:∃z,z=w1:=⟨w1,rfl⟩
  rw [<-hwD] at hA hR hB hF ⊢
  clear hFb hwD
  refine wl H (Ez.ix25 H rfl rfl j rfl hj4) rfl ?_;clear H a;intro a H
  refine wls H (Ez.st24 H rfl rfl (hB.mid (s:=32*j) (n:=32) (by omega)) (Qh _ _)) ?_;clear H;intro H
  replace H:Hd a 36 [] [(2,_),(3,_),(5,_),(25,_)]:=H.pick [2,3,5,25]
  refine Wn ?_
  have hst3:=Jp g5 (by8 Y 32) (0+32*j) wD
  have hB:=hB.put (Y:=Y) (s:=32*j) (n:=32) (by omega)
  have hA:=hA.fr hst3 (fun i _ _ f=>by have f:=f.1;omega)
  have hR:=hR.fr hst3 (fun i _ _ f=>by have f:=f.1;omega)
  have hF:=hF.hi (hst3.up fun i _ ht=>by have:=ht.1;omega)
  generalize wD.setCells g5 (0+32*j) (by8 Y 32)=wE at*
  have hF82:B8 (cp G (32*j) Y 0 32) 128:=cp_b8 hF8 hY
  have hFe2:∀i,i < j+1->be (fun i2=>cp G (32*j) Y 0 32 (32*i+i2)) 32=runR rs k i:=fun i hi=>by
   by_cases e:i=j
   ·subst e;rw [cp_be];exact hbe
   rw [<-hFe i (by omega)]
   exact Je 32 fun i2 h2=>cp_lo (by omega)
  refine bn (thn (Rl [_,_] (wl H (Ez.addI (r:=((j+1:Nat):Int)) H rfl rfl (by omega) (by omega)) rfl (kM rfl rfl (kP [(2,_),(3,_),(5,_),(25,_)] rfl (kW (kP [(2,_),(3,_),(5,_),(25,_)] rfl ?_)))))));clear H a;intro a H
  exact ⟨4 - (j+1),by omega,j+1,_,rfl,by omega,H,hA,hR,hB,hF82,hFe2,hF⟩
 have hj4:j=4:=by have:=Df hb1;omega
 subst hj4
 refine We (thx (thx (bxe (thn (Sq (Rl [_,_] (wl H (Ez.ld25 H rfl hB (Qh _ _)) rfl ?_)))))));clear H a;intro a H
 refine wls H (Ez.st25 H rfl rfl (Qh _ _) by8_one hR (Qh _ _)) ?_;clear H;intro H
 refine kP [(2,_)] rfl (kW ?_) a H;clear H a;intro a H
 obtain ⟨hA3,hst4⟩:=hR.set (vs:=by8 G 128) (by rw [Qh,Qh])
 have hF3:=hF.hi (hst4.up fun i _ ht=>by have:=ht.1;omega)
 refine Wr ?_
 exact rt25 (Qh _ _) H rfl rfl hA3 ⟨G,rfl,hF8,hFe,hF3⟩
end
section
set_option maxRecDepth 8000
namespace Ez
theorem slH22 {a:Act} {N:Nat} {ds:List Deferred} {l:Env} {w:World} {d:Option Nat} {ty:TypeId} {pos:String} {after:Array Edge} {g:Option (Nat × Bool)} (H:Hd a N ds l) {x y:Operand} {q:Option Addr} {n c:Nat} {k:IntKind} {i:Int} (h:ov l x=some (.slice q n c)) (h':ov l y=some (.int k i)) (j:Nat) (hj:i=(j:Int)) (hn:j<=c):(execOp a.eval ⟨d,.slice 22 x none (some y) none,ty,pos,after,g⟩).run Tryz.prog w=.ok (.value (.slice q j c)) w:=by
 have e:=H.o h
 have e':=H.o h'
 subst hj
 have q1:=run_slice_h (P:=Tryz.prog) w 22 q n c (by kernel_rfl) k (j:Int) (by omega) (by omega)
 simp only [execOp,e,e',Option.map]
 go_simp
 all_goals (try simp [sliced])
 all_goals (cases q <;> simp [Addr.add])
end Ez
theorem rows_same {F G V:Nat->Int} (hF:B8 F 128) (hG:B8 G 128) (h1:∀i,i < 4->be (fun j=>F (32*i+j)) 32=V i) (h2:∀i,i < 4->be (fun j=>G (32*i+j)) 32=V i):by8 F 128=by8 G 128:=by8_congr fun j hj=>by
 have:=be_inj 32 (fun k hk=>hF (32*(j / 32)+k) (by omega)) (fun k hk=>hG (32*(j / 32)+k) (by omega)) ((h1 (j / 32) (by omega)).trans (h2 (j / 32) (by omega)).symm) (j % 32) (by omega)
 have this:F (32*(j / 32)+j % 32)=G (32*(j / 32)+j % 32):=this
 rwa [show 32*(j / 32)+j % 32=j by omega] at this
theorem lawRun (q:Option Addr) (b o n c:Nat) (rs:Nat->Raw) (v:Value) (w:World) (hq:0 < n->q=some ⟨b,o,none⟩) (hc:n<=c) (hst:∀k,k < n->Rg w b (o+37*k) (rs k).vs/\U32 (rs k).n/\B8 (rs k).Y 32) (hG:Glob w v):
 Calls Tryz.prog 3 #[.slice q n c] w fun e w'=>e=.returned (.bool true)/\Fr NoT w w':=by
 obtain ⟨w0,hw0⟩:∃w0,w0=w:=⟨w,rfl⟩
 rw [<-hw0] at hst hG ⊢
 clear hw0 w
 refine Qd (vs:= [.slice q n c]) Tryz.func3 rfl rfl ?_
 intro a H
 replace H:Hd a 18 [] [(0,.slice q n c)]:=H
 refine Sq (Rl [_] (wl H (Ez.asn H rfl) rfl (kW ?_)));clear H a;intro a H
 have hF:=Fr.refl NoT w0
 refine Sq (Sq (Rl [_,_,_] (wl H (Ez.mv H rfl) rfl (kL (fun a H=>Ez.len22 H rfl) rfl (kL (fun a H=>Ez.gtr H rfl rfl (rfl)) rfl (kP [(0,_),(2,_),(5,_)] rfl (kW ?_)))))));clear H a;intro a H
 refine Cs (H.o rfl) (fun hb0=>?_) (fun hb0=>?_)
 ·refine Sq (Rl [_] (wl H (Ez.asn H rfl) rfl (kP [(0,_),(2,_)] rfl (kW ?_))));clear H a;intro a H
  refine Wr (thr ?_)
  refine rt1 H rfl rfl ?_
  exact ⟨rfl,hF⟩
 have hn1:n < 2147483648:=by have:=Df hb0;omega
 refine Wk0 (thn (Sq (Sq (Rl [_,_,_] (wl H (Ez.mv H rfl) rfl (kL (fun a H=>Ez.len22 H rfl) rfl (kL (fun a H=>Ez.gtr H rfl rfl (rfl)) rfl (kP [(0,_),(2,_),(8,_)] rfl (kW ?_)))))))));clear H a;intro a H
 refine Cs (H.o rfl) (fun hb1=>?_) (fun hb1=>?_)
 ·refine Sq (Rl [_] (wl H (Ez.asn H rfl) rfl (kP [(0,_),(2,_)] rfl (kW ?_))));clear H a;intro a H
  refine Wr (thr ?_)
  refine rt1 H rfl rfl ?_
  exact ⟨rfl,hF⟩
 refine Wk0 (thn (Sq (Rl [_,_,_,_,_] (wl H (Ez.mv H rfl) rfl (kM rfl rfl ?_)))));clear H a;intro a H
 refine wk H cf5 (steps q b o n c rs w0 hq hst hn1) rfl rfl ?_
 rintro _ w1 ⟨m,rfl,hmn,hmg,_,hF1⟩
 refine ⟨_,rfl,?_⟩;clear H a;intro a H
 have hF:=hF.trans hF1
 have hst2:∀k,k < m->Rg w1 b (o+37*k) (rs k).vs/\U32 (rs k).n/\B8 (rs k).Y 32:=fun k hk=>⟨(hst k (by omega)).1.fr0 hF1,(hst k (by omega)).2⟩
 have hst3:∀k,k < m->Rg w1 b (o+37*k) (rs k).s.vs/\(rs k).s.ok:=fun k hk=>by
  obtain ⟨t1,t2⟩:=Raw.take (hmg k hk) (hst2 k hk).2.1 (hst2 k hk).2.2
  exact ⟨by rw [t2];exact (hst2 k hk).1,t1⟩
 have hG:=hG.fr hF1
 obtain ⟨wA,hwA⟩:∃z,z=w1:=⟨w1,rfl⟩
 rw [<-hwA] at hst2 hst3 hG hF ⊢
 clear hwA hF1
 refine wl H (Ez.slH22 H rfl rfl m rfl (by omega)) rfl (kA rfl rfl (kP [(0,_),(2,_)] rfl (kW (kS (kR [_,_,_,_,_,_] (kM rfl rfl ?_))))));clear H a;intro a H
 refine wk H cf6 (scRunO q b o m c (fun k=>(rs k).s) v wA (fun h=>hq (by omega)) hst3 (by omega) hG) rfl rfl ?_
 rintro _ w1 ⟨F,rfl,hF8,hFe,hF1⟩
 refine ⟨_,rfl,?_⟩;clear H a;intro a H
 have hF:=hF.trans hF1
 have hst4:∀k,k < m->Rg w1 b (o+37*k) (rs k).vs/\U32 (rs k).n/\B8 (rs k).Y 32:=fun k hk=>⟨(hst2 k hk).1.fr0 hF1,(hst2 k hk).2⟩
 obtain ⟨wB,hwB⟩:∃z,z=w1:=⟨w1,rfl⟩
 rw [<-hwB] at hst4 hF ⊢
 clear hwB hF1
 refine wl H (Ez.mv H rfl) rfl ?_;clear H a;intro a H
 refine wk H cf7 (specRun q b o m c rs wB (fun h=>hq (by omega)) hst4 hmg (by omega)) rfl rfl ?_
 rintro _ w1 ⟨G,rfl,hG8,hGe,hF1⟩
 refine ⟨_,rfl,?_⟩;clear H a;intro a H
 have hF:=hF.trans hF1
 rw [rows_same hF8 hG8 hFe hGe] at H
 refine wl H (Ez.eql25 H rfl rfl) rfl (kA rfl rfl (kP [(2,_)] rfl (kW ?_)));clear H a;intro a H
 refine Wr ?_
 refine rt1 H rfl rfl ?_
 exact ⟨rfl,hF⟩
end
section
set_option maxRecDepth 100000
open Go.ChangeShapes Go.WideShapes Go.ChangeAt Go.RowKit
theorem u22:Tryz.prog.underlying 22=some (.slice 35):=by kernel_rfl
theorem u33:Tryz.prog.underlying 33=some (.int .u32):=by kernel_rfl
theorem u35:Tryz.prog.underlying 35=some (.struct (Tryz.prog.fieldsOf 35)):=by kernel_rfl
theorem c35n:Tryz.prog.cellsOf 35=37:=by kernel_rfl
theorem c3n:Tryz.prog.cellsOf 3=1:=by kernel_rfl
theorem c33n:Tryz.prog.cellsOf 33=1:=by kernel_rfl
theorem f35 {i:Nat} {t:TypeId} {o:Nat} (h:((Tryz.prog.fieldsOf 35)[i]?).map (fun f=>(f.type,f.offset))=some (t,o)):∃f,(Tryz.prog.fieldsOf 35)[i]?=some f/\f.type=t/\f.offset=o:=by
 obtain ⟨f,h1,h2⟩:=Option.map_eq_some_iff.1 h
 simp only [Prod.mk.injEq] at h2
 exact ⟨f,h1,h2⟩
section
variable {H:Type} {enc:TypeId × Value->H} {W:World} {base:Nat} {sp:Nat->Bool} {held:Bool}
theorem one_cell {cs:List Value} {k:Nat} {v:Value} (h:(cs.drop k).take 1= [v]):cs[k]?=some v:=by
 have:=congrArg (·[0]?) h
 simpa [List.getElem?_take,List.getElem?_drop] using this
theorem open35 {fuel:Nat} {cs:List Value} {x:DataW H × List MemPlace} (h:DataW.trod enc Tryz.prog W base sp held fuel 35 cs=some x):∃r:Raw,cs=r.vs/\U32 r.n/\B8 r.Y 32:=by
 obtain ⟨xs,m,rfl,hx,hl,hxl,hall⟩:=DataW.trod_struct u35 h
 rw [c35n] at hl
 have hs:(Tryz.prog.fieldsOf 35).size=6:=by kernel_rfl
 have get:∀i t o,i < 6->((Tryz.prog.fieldsOf 35)[i]?).map (fun f=>(f.type,f.offset))=some (t,o)->∃y,DataW.trod enc Tryz.prog W base sp held m t ((cs.drop o).take (Tryz.prog.cellsOf t))=some y:=fun i t o hi hf=>by
  obtain ⟨f,h1,rfl,rfl⟩:=f35 hf
  have:=hall i f h1
  rw [List.getElem?_eq_getElem (by omega)] at this
  exact ⟨_,this⟩
 obtain ⟨y0,g0⟩:=get 0 3 0 (by decide) (by kernel_rfl)
 obtain ⟨y1,g1⟩:=get 1 3 1 (by decide) (by kernel_rfl)
 obtain ⟨y2,g2⟩:=get 2 3 2 (by decide) (by kernel_rfl)
 obtain ⟨y3,g3⟩:=get 3 3 3 (by decide) (by kernel_rfl)
 obtain ⟨y4,g4⟩:=get 4 33 4 (by decide) (by kernel_rfl)
 obtain ⟨y5,g5⟩:=get 5 24 5 (by decide) (by kernel_rfl)
 rw [c3n] at g0 g1 g2 g3
 rw [c33n] at g4
 rw [c24n] at g5
 obtain ⟨op,e0,_,_⟩:=DataW.trod_int u3 g0
 obtain ⟨t,e1,_,_⟩:=DataW.trod_int u3 g1
 obtain ⟨p,e2,_,_⟩:=DataW.trod_int u3 g2
 obtain ⟨q,e3,_,_⟩:=DataW.trod_int u3 g3
 obtain ⟨n,e4,_,hn⟩:=DataW.trod_int u33 g4
 obtain ⟨Y,e5,hY,_,_⟩:=open24 (cs:=((cs.drop 5).take 32).toArray) (d:=y5.1) (p:=y5.2) ⟨m,by simpa [Value.cells] using g5⟩
 have e5:(cs.drop 5).take 32=by8 Y 32:=by simpa using congrArg Array.toList e5
 refine ⟨⟨op,t,p,q,n,Y⟩,?_,?_,hY⟩
 ·have a0:=one_cell e0
  have a1:=one_cell e1
  have a2:=one_cell e2
  have a3:=one_cell e3
  have a4:=one_cell e4
  refine List.ext_getElem? fun i=>?_
  rcases Nat.lt_or_ge i 5 with c | c
  ·rcases (show i=0\/i=1\/i=2\/i=3\/i=4 by omega) with rfl | rfl | rfl | rfl | rfl
   ·exact a0
   ·exact a1
   ·exact a2
   ·exact a3
   exact a4
  rcases Nat.lt_or_ge i 37 with c2 | c2
  ·have h1:((cs.drop 5).take 32)[i - 5]?=cs[i]?:=by
    rw [List.getElem?_take_of_lt (by omega),List.getElem?_drop,show 5+(i - 5)=i by omega]
   rw [<-h1,e5]
   unfold Raw.vs vs35
   rw [List.getElem?_append_right (by simpa using c)]
   rfl
  rw [List.getElem?_eq_none (by omega),List.getElem?_eq_none (by rw [Raw.len];omega)]
 have:=bounds_u32 hn
 show 0<=n/\n < 4294967296;omega
theorem open22 {v:Value} {d:DataW H} {ps:List MemPlace} (h:DataW.Trod enc Tryz.prog W base (fun _=>true) held 22 v d ps) (hv:v.cells.toList= [v]) (hfz:W.noneFrozen ps):
 ∃(q:Option Addr) (b o n c:Nat) (rs:Nat->Raw),v=.slice q n c/\(0 < n->q=some ⟨b,o,none⟩)/\n<=c/\∀k,k < n->Rg W b (o+37*k) (rs k).vs/\U32 (rs k).n/\B8 (rs k).Y 32:=by
 obtain ⟨fuel,hf⟩:=h
 rw [hv] at hf
 rcases Deep.open_slice u22 hf with ⟨h1,_⟩ | ⟨A,len,cap,m,fl,D,Pl,h1,hb,hl,hm,hmm,hx,hel⟩
 ·simp only [List.cons.injEq,and_true] at h1
  exact ⟨none,0,0,0,0,fun _=>⟨0,0,0,0,0,Z0⟩,h1,fun h=>absurd h (by decide),Nat.le_refl _,fun k hk=>absurd hk (by omega)⟩
 simp only [List.cons.injEq,and_true] at h1
 simp only [if_true] at hmm
 subst hmm
 rw [c35n] at hel hx
 have hps:∀j,j < m*37->MemPlace.cell A.block (A.off+j) ∈ ps:=fun j hj=>by
  have:=(Prod.mk.inj hx).2
  rw [this]
  exact List.mem_append_left _ (List.mem_map.2 ⟨j,List.mem_range.2 hj,rfl⟩)
 obtain ⟨rs,hrs⟩:=Deep.choose_lt (α:=Int × Int × Int × Int × Int × (Nat->Int)) (n:=m) (p:=fun i r=>W.cells? base (A.add (i*37)) 37=some (Raw.vs ⟨r.1,r.2.1,r.2.2.1,r.2.2.2.1,r.2.2.2.2.1,r.2.2.2.2.2⟩)/\U32 r.2.2.2.2.1/\B8 r.2.2.2.2.2 32) (fun i hi=>by
  obtain ⟨cs',k1,k2⟩:=hel i hi
  obtain ⟨r,rfl,k3,k4⟩:=open35 k2
  exact ⟨⟨r.op,r.t,r.a,r.b,r.n,r.Y⟩,k1,k3,k4⟩)
 refine ⟨some A,A.block,A.off,len,m,fun k=>⟨(rs k).1,(rs k).2.1,(rs k).2.2.1,(rs k).2.2.2.1,(rs k).2.2.2.2.1,(rs k).2.2.2.2.2⟩,h1,fun h0=>?_,hl,fun k hk=>?_⟩
 ·obtain ⟨k1,_⟩:=hrs 0 (by omega)
  have k2:=(World.cells?_some k1).2.2 0 (by decide)
  rw [Nat.zero_mul] at k2
  have k3:(A.add 0).add 0=A:=rfl
  rw [k3] at k2
  obtain ⟨b,o,s⟩:=A
  cases s with
  | none=>rfl
  | some s=>
    exfalso
    have k4:W.cell? ⟨b,o,some s⟩=none:=by
     unfold World.cell?
     split <;> simp
    rw [k4] at k2
    rw [List.getElem?_eq_getElem (by rw [Raw.len];decide)] at k2
    cases k2
 obtain ⟨k1,k5,k6⟩:=hrs k (by omega)
 refine ⟨⟨fun j v hj=>?_,fun j hj=>?_⟩,k5,k6⟩
 ·have hj37:j < 37:=by have:=(List.getElem?_eq_some_iff.1 hj).1;rwa [Raw.len] at this
  have k2:=(World.cells?_some k1).2.2 j hj37
  rw [hj] at k2
  rw [Deep.add_add] at k2
  obtain ⟨b,o,s⟩:=A
  unfold Addr.add at k2
  split at k2
  ·rename_i hz
   have:k=0/\j=0:=by omega
   obtain ⟨rfl,rfl⟩:=this
   cases s with
   | none=>exact k2
   | some s=>
     exfalso
     have k4:W.cell? ⟨b,o,some s⟩=none:=by
      unfold World.cell?
      split <;> simp
     rw [k4] at k2;cases k2
  rw [show o+37*k+j=o+(k*37+j) by omega]
  exact k2
 rw [Raw.len] at hj
 have:=hfz A.block (A.off+(k*37+j)) (hps _ (by
  have:k*37+37<=m*37:=by omega
  omega))
 rw [show A.off+37*k+j=A.off+(k*37+j) by omega]
 exact this
theorem again22 {v:Value} {d:DataW H} {ps:List MemPlace} {W':World} (h:DataW.Trod enc Tryz.prog W 0 (fun _=>true) true 22 v d ps) (hF:Fr NoT W W'):DataW.Trod enc Tryz.prog W' 0 (fun b=>decide (b < W.heap.size)) true 22 v d ps:=by
 have hlt:∀p ∈ ps,p.block < W.heap.size:=by
  obtain ⟨n,hn⟩:=h
  exact DataW.trod_lt n _ _ _ hn
 have h2:DataW.Trod enc Tryz.prog W' 0 (fun _=>true) true 22 v d ps:=by
  obtain ⟨n,hn⟩:=h
  refine ⟨n,DataW.trod_carry n _ _ _ hn fun p hp=>?_⟩
  have hb:=hF.block p.block (hlt p hp) (fun _ f=>f)
  cases p with
  | cell b o=>show W'.cell? ⟨b,o,none⟩=W.cell? ⟨b,o,none⟩;unfold World.cell?;rw [show W'.heap[b]?=W.heap[b]? from hb]
  | map b=>exact hb
 have hl:laidOutB Tryz.prog=true:=by kernel_rfl
 have hr:Tryz.prog.readableRec 22=true:=by kernel_rfl
 exact h2.respare (kids_book hl hr) (fun t e ht hu=>book_sized hr ht hu) ⟨Dt (by kernel_rfl),book_self 22⟩ (fun p hp=>by simpa using hlt p hp)
end
theorem params3:Tryz.f3.params=#[22]:=by kernel_rfl
theorem rtypes3:Tryz.f3.resultTypes=#[4]:=by kernel_rfl
theorem run_lifted (os:Os) (started:os.Started) (H:Type) (enc:TypeId × Value->H):
 ReturnsInHanded {} Tryz.checked os 3 .any (fun w args=>(Rows.fnScalarRunSpec.pre enc Tryz.prog Tryz.f3 [] false w args/\laidMetH Tryz.prog laidAll w)/\sizedMet enc Tryz.prog Tryz.f3 (OpenSpec.ofChange Rows.fnScalarRunSpec) false w args)
  (Rows.fnScalarRunSpec.post enc Tryz.prog Tryz.f3 false true false false):=by
 refine returnsInHanded_of_change_and (C:=Tryz.checked) (X:=fun w _=>laidMetH Tryz.prog laidAll w) (fun _ _ _ hh h=>h.of_heap hh) own0 started (by kernel_rfl) Tryz.func3
  (ChangeSpec.witness_shaped (enc:=enc) (C:=Tryz.checked) (os:=os) (X:=fun w _=>laidMetH Tryz.prog laidAll w) false (World.doorLaid Tryz.prog 400 os) #[.slice none 0 0] 8 rfl (World.shaped_of_RefB (by kernel_rfl) (by kernel_rfl)) (by kernel_rfl) (by kernel_rfl) (by kernel_rfl) (door_met os _)) ?_
 intro W base args ds gs before hval0 hW _ _ hL _
 have hW':=hW
 obtain ⟨p,q,hA0,hV,rfl,hfz,hnd⟩:=hW
 have hA:DataW.TrodAll enc Tryz.prog W 0 (fun _=>true) true Tryz.f3.params.toList args.toList ds p:=hA0
 have hval:∀(j:Nat) t v,Tryz.f3.params[j]?=some t->args[j]?=some v->Value.okWide Tryz.prog W .any base t v:=hval0
 rw [params3] at hA hval
 obtain ⟨v0,d0,rfl,rfl,h0⟩:=trodAll_one hA
 obtain ⟨rfl,rfl⟩:=trodVars_none hV
 obtain ⟨v,hG⟩:=glob_of hL
 have hcells:v0.cells.toList= [v0]:=by
  have:=hval 0 22 v0 rfl rfl
  cases v0 with
  | agg cs=>simp [Value.okWide,u22,Cell.okWide,Cell.ok] at this
  | _=>rfl
 obtain ⟨q,b,o,n,c,rs,rfl,hq,hc,hst⟩:=open22 h0 hcells (by simpa using hfz)
 refine (lawRun q b o n c rs v W hq hc hst hG).mono fun e W' hh=>?_
 obtain ⟨rfl,hF⟩:=hh
 refine ⟨_,rfl, [d0], [],_, [],p, [],hW',?_,?_,rfl,kept_of_fr hF,fun h=>by cases h⟩
 ·rw [rtypes3]
  exact trodAll_mk1 (shut_bool u4 _)
 rw [params3]
 exact trodAll_mk1 (again22 h0 hF)
theorem run_holds:Rows.FnScalarRunSaid:=
 OpenClaim.holds_of_wide 3 Tryz.f3 rfl rfl rfl rfl rfl rfl rfl ⟨rfl,rfl,rfl,rfl,rfl⟩ rfl rfl rfl rfl rfl (by kernel_rfl) Tryz.func3 (by kernel_rfl)
  (Dt (by kernel_rfl)) (by unfold Func.isWrapper;first | (rw [if_pos (by decide+kernel)];kernel_rfl) | (rw [if_neg (by decide+kernel)];exact ⟨rfl,rfl⟩))
  (fun os started H enc _=>run_lifted os started H enc)
end
section
set_option maxRecDepth 100000
open Go
theorem run_card:Rows.FnScalarRunCardSaid:=
 Claim7.holds_tied_plain_at .later [] [.sentinel,.sentinel,.sentinel,.data,.data,.data,.data] true (true,"c4f8c4b9d6c2c3d583d7db44333b59d9ad249bc6bc9779f428ba29c7ccd43dc5") true
  run_holds (fun _ h=>by cases h) (by kernel_rfl) (fun _ h=>by cases h) fnScalarRun_row_tie rfl ⟨rfl,rfl⟩ (by kernel_rfl) rfl
  (fun f fn hf hfn=>by
   obtain rfl:f=3:=Option.some.inj ((show Tryz.prog.funcNamed "pub-sigillum/laws.FnScalarRun"=some 3 by kernel_rfl).symm.trans hf) |>.symm
   obtain rfl:fn=Tryz.f3:=(Option.some.inj (Tryz.func3.symm.trans hfn)).symm
   exact ⟨by kernel_rfl,fun j t ht=>by
    rw [params3] at ht
    have hm:t ∈ [22]:=by simpa using Array.mem_of_getElem? ht
    have hall:([22].all fun u=>!Tryz.prog.wantsStandIn u)=true:=by kernel_rfl
    exact (show Tryz.prog.wantsStandIn t=false by simpa using List.all_eq_true.1 hall t hm)⟩)
  (by kernel_rfl)
end
end Go.Proofs.YtijgloklmiokhaaGreatDoor
