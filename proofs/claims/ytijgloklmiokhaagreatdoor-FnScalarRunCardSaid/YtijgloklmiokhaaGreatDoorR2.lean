/-
Part 2 of 6 of the proof; what is proved stands in the last part.
-/
import Derived.Test.YtijgloklmiokhaaGreatDoorR1
set_option linter.unusedSimpArgs false
set_option linter.unusedVariables false
namespace Go.Proofs.YtijgloklmiokhaaGreatDoor
open Go.RowKit
section
set_option maxRecDepth 8000
theorem Ez.slZ80 {a:Act} {N:Nat} {ds:List Deferred} {l:Env} {w:World} {d:Option Nat} {ty:TypeId} {pos:String} {after:Array Edge} {g:Option (Nat × Bool)} (H:Hd a N ds l) {x y z:Operand} {q:Option Addr} {n c:Nat} {k k':IntKind} {i:Int} (h:ov l x=some (.slice q n c)) (h':ov l y=some (.int k 0)) (h'':ov l z=some (.int k' i)) (j:Nat) (hj:i=(j:Int)) (hn:j<=c):
 (execOp a.eval ⟨d,.slice 80 x (some y) (some z) none,ty,pos,after,g⟩).run Tryz.prog w=.ok (.value (.slice q j c)) w:=by
 have e:=H.o h
 have e':=H.o h'
 have e'':=H.o h''
 subst hj
 have e1:sliced q (0:Int).toNat (j:Int).toNat c 1=.slice q j c:=by
  simp only [sliced,Int.toNat_natCast,Int.toNat_zero,Nat.sub_zero]
  cases q with
  | none=>simp
  | some A=>obtain ⟨b,o,s⟩:=A;simp only [Option.map,Addr.add];split <;> simp_all
 have q2:(Instr.sliceAt 80 (.slice q n c) (some (.int k 0)) (some (.int k' (j:Int))) none).run Tryz.prog w=.ok (.slice q j c) w:=by
  rw [<-e1]
  go_simp
  all_goals (try simp [sliced,Addr.add])
  all_goals (try omega)
 simp only [execOp,e,e',e'',Option.map,Sem.run_bind,q2,Result.andThen];rfl
theorem J9 (q:Option Addr) (n0 c0 n:Nat) (Z:Nat->Int) (w:World) (hz:Sl w q n0 c0 Z) (hn:n < 1000000000):
 Calls Tryz.prog 82 #[.slice q n0 c0,.int .i64 n] w fun e w'=>∃q' c' X',e=.returned (.slice q' n c')/\Sl w' q' n c' X'/\Own w q q'/\Fr NoT w w':=by
 refine Qd (vs:= [.slice q n0 c0,.int .i64 n]) Tryz.func82 rfl rfl ?_
 intro a H
 replace H:Hd a 19 [] [(0,.slice q n0 c0),(1,.int .i64 n)]:=H
 refine Sq (Rl [_] (wl H (Ez.asn H rfl) rfl (kW (kS (kS (kR [_,_,_,_] (kM rfl rfl (kM rfl rfl (kL (fun a H=>Ez.cap80 H rfl) rfl (kL (fun a H=>Ez.leq H rfl rfl (rfl)) rfl (kP [(0,_),(1,_),(4,_),(8,_)] rfl (kW ?_))))))))))));clear H a;intro a H
 refine Cs (H.o rfl) (fun hb=>?_) (fun hb=>?_)
 ·have hb1:n<=c0:=by simp at hb;omega
  refine Sq (Rl [_,_,_,_] (wl H (Ez.mv H rfl) rfl (kM rfl rfl (kL (fun a H=>Ez.slH80 H rfl rfl n rfl hb1) rfl (kA rfl rfl (kP [(1,_),(4,_)] rfl (kW ?_)))))));clear H a;intro a H
  refine Wr (thr ?_)
  refine rt1 H rfl rfl ?_
  exact ⟨q,c0,Z,rfl,hz.cut hb1,Own.refl _ _,Fr.refl _ _⟩
 have hb1:c0 < n:=by simp at hb;omega
 refine Wk0 (thn (Sq (Sq (Rl [_,_] (wl H (Ez.mv H rfl) rfl (kL (fun a H=>Ez.eql H rfl rfl (rfl)) rfl (kP [(1,_),(4,_),(13,_)] rfl (kW ?_))))))));clear H a;intro a H
 refine Cs (H.o rfl) (fun hb2=>?_) (fun hb2=>?_)
 ·have hb3:n=1:=by simp at hb2;omega
  subst hb3
  refine Sq (Rl [_,_] (wl H (Ez.mk80 H rfl rfl 1 1 rfl rfl (by omega) (by omega)) rfl (kA rfl rfl (kP [(1,_),(4,_)] rfl (kW ?_)))));clear H a;intro a H
  refine Wr (thr ?_)
  refine rt1 H rfl rfl ?_
  exact ⟨_,1,_,rfl,Sl.of (Wk.made w 1 (by omega)) (by omega) (by omega),Own.new _ _ (Nat.le_refl _),(Fr.refl NoT w).alloc _⟩
 have hb3:n≠1:=by simp at hb2;omega
 refine Wk0 (thn (Sq (Rl [_,_,_,_,_] (wl H (Ez.mv H rfl) rfl (kM rfl rfl (kL (fun a H=>Ez.addI (r:=((n+4:Nat):Int)) H rfl rfl (by omega) (by omega)) rfl (kL (fun a H=>Ez.mk80 H rfl rfl n (n+4) rfl rfl (by omega) (by omega)) rfl (kA rfl rfl (kP [(4,_)] rfl (kW ?_))))))))));clear H a;intro a H
 refine Wr ?_
 refine rt1 H rfl rfl ?_
 exact ⟨_,n+4,_,rfl,Sl.of (Wk.made w (n+4) (by omega)) (by omega) (by omega),Own.new _ _ (Nat.le_refl _),(Fr.refl NoT w).alloc _⟩
theorem Kc (q:Option Addr) (n c:Nat) (X:Nat->Int) (w:World) (hz:Sl w q n c X) (hn:n < 1000000000):
 Calls Tryz.prog 84 #[.slice q n c] w fun e w'=>∃k,e=.returned (.slice q k c)/\k<=n/\Sl w' q k c X/\nv X k=nv X n/\Nm X k/\w=w':=by
 obtain ⟨w0,hw0⟩:∃w0,w0=w:=⟨w,rfl⟩
 rw [<-hw0]
 rw [<-hw0] at hz
 clear hw0 w
 refine Qd (vs:= [.slice q n c]) Tryz.func84 rfl rfl ?_
 intro a H
 replace H:Hd a 21 [] [(0,.slice q n c)]:=H
 refine Sq (Rl [_] (wl H (Ez.asn H rfl) rfl (kW (kS (kR [_,_,_] (kM rfl rfl (kL (fun a H=>Ez.len80 H rfl) rfl (kA rfl rfl (kP [(0,_),(2,_),(3,_)] rfl (kW (kS ?_)))))))))));clear H a;intro a H
 refine Wb ?_
 refine Qo (fun mm a w=>∃i:Nat,mm=i/\i<=n/\Hd a 21 [] [(0,.slice q n c),(3,.int .i64 i)]/\nv X i=nv X n/\w0=w) (n) ?_ ?_
 ·replace H:Hd a 21 [] [(0,_),(3,_)]:=H.pick [0,3]
  exact ⟨n,rfl,Nat.le_refl _,H,rfl,rfl⟩
 clear H a
 intro mm a w hI
 obtain ⟨i,rfl,hi,H,hv,rfl⟩:=hI
 refine Sq (Sq ?_)
 by_cases hi0:mm=0
 ·refine Rl [_,_,_,_,_,_,_,_,_,_] (wl H (Ez.mv H rfl) rfl (kL (fun a H=>Ez.gtr (r:=false) H rfl rfl (by (simp;omega))) rfl (kM rfl rfl (kX rfl rfl rfl rfl rfl (kX rfl rfl rfl rfl rfl (kX rfl rfl rfl rfl rfl (kX rfl rfl rfl rfl rfl (kX rfl rfl rfl rfl rfl (kX rfl rfl rfl rfl rfl (kL (fun a H=>Ez.pkF H rfl rfl) rfl (kP [(0,_),(3,_),(15,_)] rfl (kW ?_))))))))))));clear H a;intro a H
  refine Cf (H.o rfl) (We (thx (thx (bxe (thn (Sq (Rl [_,_,_,_] (wl H (Ez.mv H rfl) rfl (kM rfl rfl (kL (fun a H=>Ez.slZ80 H rfl rfl rfl mm rfl (by have:=hz.le;omega)) rfl (kA rfl rfl (kP [(2,_)] rfl (kW ?_)))))))))))));clear H a;intro a H
  refine Wr ?_
  refine rt1 H rfl rfl ?_
  exact ⟨mm,rfl,hi,hz.cut (by have:=hz.le;omega),hv,.inl hi0,rfl⟩
 have hle:=hz.le
 obtain ⟨b,rfl,_,hW⟩:=hz.blk (by omega)
 have hc1:=hW.cell (j:=mm - 1) (by omega)
 obtain ⟨j,hm1⟩:∃j,mm=j+1:=⟨mm - 1,by omega⟩
 refine Rl [_,_,_,_,_,_,_,_,_,_] (wl H (Ez.mv H rfl) rfl (kL (fun a H=>Ez.gtr (r:=true) H rfl rfl (by (simp;omega))) rfl (kM rfl rfl (kG (fun a H=>Ez.mv H rfl) rfl rfl rfl rfl rfl (kG (fun a H=>Ez.mv H rfl) rfl rfl rfl rfl rfl (kG (fun a H=>Ez.subI (r:=((mm - 1:Nat):Int)) H rfl rfl (by omega) (by omega)) rfl rfl rfl rfl rfl (kG (fun a H=>Ez.ix80 H rfl rfl (mm - 1) rfl (by omega)) rfl rfl rfl rfl rfl (kG (fun a H=>Ez.ld103 H rfl ((by rw [Nat.zero_add];exact hc1))) rfl rfl rfl rfl rfl (kG (fun a H=>Ez.eql H rfl rfl (rfl)) rfl rfl rfl rfl rfl (kL (fun a H=>Ez.pkT H rfl rfl) rfl (kP [(0,_),(3,_),(15,_)] rfl (kW ?_))))))))))));clear H a;intro a H
 refine Cs (H.o rfl) (fun hb=>?_) (fun hb=>?_)
 ·have hx0:X j=0:=by have:=Dt hb;rwa [hm1] at this
  refine Wk0 (thn (Wb (Rl [_,_,_] (wl H (Ez.mv H rfl) rfl (kL (fun a H=>Ez.subI (r:=((mm - 1:Nat):Int)) H rfl rfl (by omega) (by omega)) rfl (kA rfl rfl (kP [(0,_),(3,_)] rfl ?_)))))));clear H a;intro a H
  refine Wn ?_
  refine bn (thn ?_)
  replace H:Hd a 21 [] [(0,_),(3,_)]:=H.pick [0,3]
  exact ⟨mm - 1,by omega,mm - 1,rfl,by omega,H,by rw [<-hv,hm1,nv];simp [hx0],rfl⟩
 have hx0:X (mm - 1)≠0:=Df hb
 refine We (thx (thx (bxe (thn (Sq (Rl [_,_,_,_] (wl H (Ez.mv H rfl) rfl (kM rfl rfl (kL (fun a H=>Ez.slZ80 H rfl rfl rfl mm rfl (by omega)) rfl (kA rfl rfl (kP [(2,_)] rfl (kW ?_))))))))))));clear H a;intro a H
 refine Wr ?_
 refine rt1 H rfl rfl ?_
 exact ⟨mm,rfl,hi,hz.cut (by omega),hv,.inr hx0,rfl⟩
theorem run_copy_zero {w:World} {d a:Option Addr} {dl dc sl sc:Nat} {ty:TypeId} (hn:Nat.min sl dl=0):
 (Builtin.copy_ #[80,80] ty #[.slice d dl dc,.slice a sl sc]).run Tryz.prog w=.ok (.int .i64 0) w:=
 run_copy_none (P:=Tryz.prog) w 80 80 ty 103 d a dl dc sl sc (by kernel_rfl) (by kernel_rfl) hn
theorem Ez.copy0 {a:Act} {N:Nat} {ds:List Deferred} {l:Env} {w:World} {d:Option Nat} {ty:TypeId} {pos:String} {after:Array Edge} {g:Option (Nat × Bool)} (H:Hd a N ds l) {x y:Operand}
 {q q':Option Addr} {dl dc sl sc:Nat} (h:ov l x=some (.slice q dl dc)) (h':ov l y=some (.slice q' sl sc)) (hn:Nat.min sl dl=0):
 (execOp a.eval ⟨d,.call { callee:=.builtin .copy,args:=#[x,y],argTypes:=#[80,80]},ty,pos,after,g⟩).run Tryz.prog w=.ok (.value (.int .i64 0)) w:=by
 have h1:=run_copy_zero (w:=w) (d:=q) (a:=q') (dc:=dc) (sc:=sc) (ty:=ty) hn
 have e:=H.o h
 have e':=H.o h'
 revert e e';generalize a.eval=ρ;intro e e'
 simp only [execOp];go_simp
theorem natSet (q qx:Option Addr) (n0 c0 n c:Nat) (Z X:Nat->Int) (w:World) (hz:Sl w q n0 c0 Z) (hx:Sl w qx n c X) (hn:n < 1000000000):
 Calls Tryz.prog 94 #[.slice q n0 c0,.slice qx n c] w fun e w'=>∃q' c' X',e=.returned (.slice q' n c')/\Sl w' q' n c' X'/\(∀j,j < n->X' j=X j)/\Own w q q'/\Fr (TQ q) w w':=by
 refine Qd (vs:= [.slice q n0 c0,.slice qx n c]) Tryz.func94 rfl rfl ?_
 intro a H
 replace H:Hd a 13 [] [(0,.slice q n0 c0),(1,.slice qx n c)]:=H
 refine Sq (Rl [_] (wl H (Ez.asn H rfl) rfl (kW (kS (kR [_,_,_,_,_] (kM rfl rfl (kM rfl rfl (kL (fun a H=>Ez.len80 H rfl) rfl ?_))))))));clear H a;intro a H
 refine wk H cf82 (J9 q n0 c0 n Z w hz hn) rfl rfl ?_
 rintro _ w1 ⟨q',c',X1,rfl,h1,h2,h3⟩
 refine ⟨_,rfl,?_⟩;clear H a;intro a H
 have hx1:=hx.frN h3
 refine wl H (Ez.asn H rfl) rfl (kP [(0,_),(1,_),(4,_)] rfl (kW (kS ?_)));clear H a;intro a H
 by_cases hn0:n=0
 ·refine Rl [_,_,_] (wl H (Ez.mv H rfl) rfl (kM rfl rfl (kL (fun a H=>Ez.copy0 H rfl rfl (by simp [hn0])) rfl (kP [(0,_),(4,_)] rfl (kW (kS (kR [_,_] (kM rfl rfl (kA rfl rfl (kP [(4,_)] rfl (kW ?_)))))))))));clear H a;intro a H
  refine Wr ?_
  refine rt1 H rfl rfl ?_
  exact ⟨q',c',X1,rfl,h1,fun j hj=>by omega,h2,h3.noT⟩
 have hle:=h1.le
 have hle2:=hx.le
 obtain ⟨b,rfl,_,hW⟩:=h1.blk (by omega)
 obtain ⟨bx,rfl,_,hWx⟩:=hx1.blk (by omega)
 refine Rl [_,_,_] (wl H (Ez.mv H rfl) rfl (kM rfl rfl ?_));clear H a;intro a H
 obtain ⟨w2,e2,hW2,hF2⟩:=Ez.copyW (x:=.tmp 9) (y:=.tmp 10) (T:=80) (T':=80) (d:=some 11) (ty:=3) (pos:=_) (after:=_) (g:=none) H rfl rfl (.inr rfl) hW hWx n (by simp) (by omega) (by omega)
 refine wl H (e2) rfl ?_;clear e2 H a;intro a H
 refine kP [(0,_),(4,_)] rfl (kW (kS (kR [_,_] (kM rfl rfl (kA rfl rfl (kP [(4,_)] rfl (kW ?_))))))) a H;clear H a;intro a H
 refine Wr ?_
 refine rt1 H rfl rfl ?_
 refine ⟨_,c',_,rfl,Sl.of hW2 hle (by omega),fun j hj=>?_,h2,(h3.noT.trans hF2.blq).own h2⟩
 have:=cp_in (Z:=X1) (oz:=0) (X:=X) (ox:=0) hj
 simpa using this
theorem natSetWord (q:Option Addr) (n0 c0:Nat) (Z:Nat->Int) (x:Int) (w:World) (hz:Sl w q n0 c0 Z) (hx:U64 x):
 Calls Tryz.prog 116 #[.slice q n0 c0,.int .u64 x] w fun e w'=>∃q' n' c' X',e=.returned (.slice q' n' c')/\Sl w' q' n' c' X'/\n'<=1/\nv X' n'=x/\Nm X' n'/\Own w q q'/\Fr (TQ q) w w':=by
 refine Qd (vs:= [.slice q n0 c0,.int .u64 x]) Tryz.func116 rfl rfl ?_
 intro a H
 replace H:Hd a 15 [] [(0,.slice q n0 c0),(1,.int .u64 x)]:=H
 refine Sq (Rl [_] (wl H (Ez.asn H rfl) rfl (kW (kS (kS (kR [_,_] (kM rfl rfl (kL (fun a H=>Ez.eql H rfl rfl (rfl)) rfl (kP [(0,_),(1,_),(4,_),(6,_)] rfl (kW ?_))))))))));clear H a;intro a H
 refine Cs (H.o rfl) (fun hb=>?_) (fun hb=>?_)
 ·have hb0:x=0:=by simpa using hb
  refine Sq (Rl [_,_,_] (wl H (Ez.mv H rfl) rfl (kL (fun a H=>Ez.slH80 H rfl rfl 0 rfl (Nat.zero_le _)) rfl (kA rfl rfl (kP [(0,_),(1,_),(4,_)] rfl (kW ?_))))));clear H a;intro a H
  refine Wr (thr ?_)
  refine rt1 H rfl rfl ?_
  exact ⟨q,0,c0,Z,rfl,hz.cut (Nat.zero_le _),by omega,by rw [hb0];rfl,.inl rfl,Own.refl _ _,Fr.refl _ _⟩
 have hb0:x≠0:=by simpa using hb
 refine Wk0 (thn (Sq (Rl [_,_,_] (wl H (Ez.mv H rfl) rfl ?_))));clear H a;intro a H
 refine wk H cf82 (J9 q n0 c0 1 Z w hz (by omega)) rfl rfl ?_
 rintro _ w1 ⟨q',c',X1,rfl,h1,h2,h3⟩
 refine ⟨_,rfl,?_⟩;clear H a;intro a H
 have hle:=h1.le
 obtain ⟨b,rfl,_,hW⟩:=h1.blk (by omega)
 refine wl H (Ez.asn H rfl) rfl (kP [(0,_),(1,_),(4,_)] rfl (kW (kS (kR [_,_,_,_] (kM rfl rfl (kM rfl rfl (kL (fun a H=>Ez.ix80 H rfl rfl 0 rfl (by omega)) rfl ?_)))))));clear H a;intro a H
 refine wls H (Ez.st103 H rfl rfl rfl (hW.cell (by omega)) (hW.fz _)) ?_;clear H;intro H
 refine kP [(0,_),(4,_)] rfl (kW (kS (kR [_,_] (kM rfl rfl (kA rfl rfl (kP [(4,_)] rfl (kW ?_))))))) a H;clear H a;intro a H
 refine Wr ?_
 refine rt1 H rfl rfl ?_
 exact ⟨_,1,c',_,rfl,Sl.of (hW.set (by omega) hx) hle (by omega),by omega,by simp [nv,up],.inr (by simpa [up] using hb0),h2,(h3.noT.trans (Fr.bl _).blq).own h2⟩
theorem natSetUint64 (q:Option Addr) (n0 c0:Nat) (Z:Nat->Int) (x:Int) (w:World) (hz:Sl w q n0 c0 Z) (hx:U64 x):
 Calls Tryz.prog 100 #[.slice q n0 c0,.int .u64 x] w fun e w'=>∃q' n' c' X',e=.returned (.slice q' n' c')/\Sl w' q' n' c' X'/\n'<=1/\nv X' n'=x/\Nm X' n'/\Own w q q'/\Fr (TQ q) w w':=by
 refine Qd (vs:= [.slice q n0 c0,.int .u64 x]) Tryz.func100 rfl rfl ?_
 intro a H
 replace H:Hd a 23 [] [(0,.slice q n0 c0),(1,.int .u64 x)]:=H
 refine Sq (Rl [_] (wl H (Ez.asn H rfl) rfl (kW (kS (kS (kR [_,_] (kM rfl rfl (kA rfl rfl (kP [(0,_),(1,_),(4,_),(5,_)] rfl (kW (kS (kR [_,_,_] (kM rfl rfl (kM rfl rfl (kL (fun a H=>Ez.eql (r:=true) H rfl rfl (by simp)) rfl (kP [(0,_),(1,_),(4,_),(5,_),(9,_)] rfl (kW ?_)))))))))))))))));clear H a;intro a H
 refine Ct (H.o rfl) (Sq (Rl [_,_,_,_] (wl H (Ez.mv H rfl) rfl (kM rfl rfl ?_))));clear H a;intro a H
 refine wk H cf116 (natSetWord q n0 c0 Z x w hz hx) rfl rfl ?_
 rintro _ w1 ⟨q',n',c',X',rfl,h1,h2,h3,h4,h5,h6⟩
 refine ⟨_,rfl,?_⟩;clear H a;intro a H
 refine wl H (Ez.asn H rfl) rfl (kP [(0,_),(1,_),(4,_)] rfl (kW ?_));clear H a;intro a H
 refine Wr (thr ?_)
 refine rt1 H rfl rfl ?_
 exact ⟨q',n',c',X',rfl,h1,h2,h3,h4,h5,h6⟩
theorem nv_ge {X:Nat->Int} {n:Nat} (hn:0 < n) (hu:∀j,j < n->U64 (X j)) (h:X (n - 1)≠0):BB ^ (n - 1)<=nv X n:=by
 obtain ⟨m,rfl⟩:∃m,n=m+1:=⟨n - 1,by omega⟩
 have h1:=Q5 m (fun j hj=>hu j (by omega))
 have h2:=hu m (by omega)
 simp only [Nat.add_sub_cancel] at h ⊢
 have h3:=Mr (show 1<=X m by have:=h2.1;omega) (Int.le_of_lt (Q3 m))
 rw [Int.one_mul] at h3
 simp only [nv];omega
theorem BBn_le {m n:Nat} (h:m<=n):BB ^ m<=BB ^ n:=by
 obtain ⟨k,rfl⟩:=Nat.exists_eq_add_of_le h
 rw [Int.pow_add]
 have:=Ml (show 1<=BB ^ k by have:=Q3 k;omega) (Int.le_of_lt (Q3 m))
 omega
theorem Jx {X Y:Nat->Int} {n m:Nat} (hX:∀j,j < n->U64 (X j)) (hY:∀j,j < m->U64 (Y j)) (hN:Nm X n) (h:m < n):nv Y m < nv X n:=by
 have h1:=Kn m hY
 have h2:=nv_ge (by omega) hX (by rcases hN with h | h;omega;exact h)
 have h3:=BBn_le (show m<=n - 1 by omega)
 omega
theorem nv_top {X Y:Nat->Int} {i:Nat}:∀n,i<=n->(∀k,i<=k->k < n->X k=Y k)->nv X n - nv Y n=nv X i - nv Y i
 | 0,h,_=>by have:i=0:=by omega
             subst this;rfl
 | n+1,h,hk=>by
   by_cases e:i=n+1
   ·subst e;rfl
   have:=nv_top n (by omega) (fun k h1 h2=>hk k h1 (by omega))
   simp only [nv]
   rw [hk n (by omega) (by omega)]
   omega
theorem Jn {X Y:Nat->Int} {i:Nat} (hX:∀j,j<=i->U64 (X j)) (hY:∀j,j<=i->U64 (Y j)) (h:X i < Y i):nv X (i+1) < nv Y (i+1):=by
 have h1:=Kn i (fun j hj=>hX j (by omega))
 have h2:=Q5 i (fun j hj=>hY j (by omega))
 have h3:=Mr (show X i+1<=Y i by omega) (Int.le_of_lt (Q3 i))
 rw [Int.add_mul,Int.one_mul] at h3
 simp only [nv];omega
def cmpI (a b:Int):Int:=if a < b then -1 else if b < a then 1 else 0
theorem natCmp (qx qy:Option Addr) (n cx m cy:Nat) (X Y:Nat->Int) (w:World) (hx:Sl w qx n cx X) (hy:Sl w qy m cy Y) (hn:n < 1000000000) (hm:m < 1000000000) (hNx:Nm X n) (hNy:Nm Y m):
 Calls Tryz.prog 90 #[.slice qx n cx,.slice qy m cy] w fun e w'=>e=.returned (.int .i64 (cmpI (nv X n) (nv Y m)))/\Cd w w':=by
 obtain ⟨w0,hw0⟩:∃w0,w0=w:=⟨w,rfl⟩
 rw [<-hw0]
 rw [<-hw0] at hx hy
 clear hw0 w
 have hXu:∀j,j < n->U64 (X j):=fun j hj=>hx.u (by have:=hx.le;omega)
 have hYu:∀j,j < m->U64 (Y j):=fun j hj=>hy.u (by have:=hy.le;omega)
 refine Qd (vs:= [.slice qx n cx,.slice qy m cy]) Tryz.func90 rfl rfl ?_
 intro a H
 replace H:Hd a 64 [] [(0,.slice qx n cx),(1,.slice qy m cy)]:=H
 refine Sq (Rl [_] (wl H (Ez.asn H rfl) rfl (kW (kS (kR [_,_,_] (kM rfl rfl (kL (fun a H=>Ez.len80 H rfl) rfl (kA rfl rfl (kP [(0,_),(1,_),(4,_),(5,_)] rfl (kW (kS (kR [_,_,_] (kM rfl rfl (kL (fun a H=>Ez.len80 H rfl) rfl (kA rfl rfl (kP [(0,_),(1,_),(4,_),(5,_),(6,_)] rfl (kW (kS (kS ?_)))))))))))))))))));clear H a;intro a H
 rcases Nat.lt_trichotomy n m with hnm | hnm | hnm
 ·refine Rl [_,_,_,_,_,_,_] (wl H (Ez.mv H rfl) rfl (kM rfl rfl (kL (fun a H=>Ez.neq (r:=true) H rfl rfl (by (simp;omega))) rfl (kM rfl rfl (kX rfl rfl rfl rfl rfl (kX rfl rfl rfl rfl rfl (kL (fun a H=>Ez.pkT H rfl rfl) rfl (kP [(0,_),(1,_),(4,_),(5,_),(6,_),(18,_)] rfl (kW ?_)))))))));clear H a;intro a H
  refine Ct (H.o rfl) (Sq (Wb (Sq (Rl [_,_,_,_] (wl H (Ez.mv H rfl) rfl (kM rfl rfl (kL (fun a H=>Ez.lss (r:=true) H rfl rfl (by (simp;omega))) rfl (kA rfl rfl (kP [(0,_),(1,_),(4,_),(5,_),(6,_),(19,_)] rfl (kW ?_))))))))));clear H a;intro a H
  refine Ct (H.o rfl) (Rl [_] (wl H (Ez.asn H rfl) rfl (kP [(0,_),(1,_),(4,_),(5,_)] rfl ?_)));clear H a;intro a H
  refine Wn ?_
  refine bn (thn (Wr (thr ?_)))
  refine rt1 H rfl rfl ?_
  refine ⟨?_,Cd.refl _⟩
  have:=Jx hYu hXu hNy hnm
  unfold cmpI;rw [if_pos this]
 ·subst hnm
  refine Rl [_,_,_,_,_,_,_] (wl H (Ez.mv H rfl) rfl (kM rfl rfl (kL (fun a H=>Ez.neq (r:=false) H rfl rfl (by simp)) rfl (kM rfl rfl (kG (fun a H=>Ez.mv H rfl) rfl rfl rfl rfl rfl (kG (fun a H=>Ez.eql H rfl rfl (rfl)) rfl rfl rfl rfl rfl (kL (fun a H=>Ez.pkF H rfl rfl) rfl (kP [(0,_),(1,_),(4,_),(5,_),(6,_),(18,_)] rfl (kW ?_)))))))));clear H a;intro a H
  refine Cs (H.o rfl) (fun hb=>?_) (fun hb=>?_)
  ·have hn0:n=0:=by simp at hb;omega
   subst hn0
   refine Sq (Wb (Sq (Rl [_,_,_,_] (wl H (Ez.mv H rfl) rfl (kM rfl rfl (kL (fun a H=>Ez.lss (r:=false) H rfl rfl (by simp)) rfl (kA rfl rfl (kP [(0,_),(1,_),(4,_),(5,_),(6,_),(19,_)] rfl (kW ?_)))))))));clear H a;intro a H
   refine Cf (H.o rfl) (Sq (Rl [_,_,_,_] (wl H (Ez.mv H rfl) rfl (kM rfl rfl (kL (fun a H=>Ez.gtr (r:=false) H rfl rfl (by simp)) rfl (kA rfl rfl (kP [(0,_),(1,_),(4,_),(5,_),(23,_)] rfl (kW ?_))))))));clear H a;intro a H
   refine Cf (H.o rfl) (Wk0 (bn (thn (Wr (thr ?_)))))
   refine rt1 H rfl rfl ?_
   refine ⟨?_,Cd.refl _⟩
   simp [cmpI,nv]
  have hn0:0 < n:=by simp at hb;omega
  have hle1:=hx.le
  have hle2:=hy.le
  obtain ⟨bx,rfl,_,hWx⟩:=hx.blk (by omega)
  obtain ⟨by_,rfl,_,hWy⟩:=hy.blk (by omega)
  refine Wk0 (thn (Sq (Rl [_,_,_] (wl H (Ez.mv H rfl) rfl (kL (fun a H=>Ez.subI (r:=((n - 1:Nat):Int)) H rfl rfl (by omega) (by omega)) rfl (kA rfl rfl (kP [(0,_),(1,_),(4,_),(7,_)] rfl (kW (kS ?_)))))))));clear H a;intro a H
  refine Wb ?_
  refine Qo (fun mm a w=>∃i:Nat,mm=i/\i < n/\Hd a 64 [] [(0,.slice (some ⟨bx,0,none⟩) n cx),(1,.slice (some ⟨by_,0,none⟩) n cy),(4,.int .i64 0),(7,.int .i64 i)]/\(∀k,i < k->k < n->X k=Y k)/\Cd w0 w) (n - 1) ?_ ?_
  ·replace H:Hd a 64 [] [(0,_),(1,_),(4,_),(7,_)]:=H.pick [0,1,4,7]
   exact ⟨n - 1,rfl,by omega,H,fun k h1 h2=>by omega,Cd.refl _⟩
  clear H a
  intro mm a w hI
  obtain ⟨i,rfl,hi,H,hk,hC⟩:=hI
  refine Sq (Sq ?_)
  by_cases hi0:mm=0
  ·refine Qr (ls:= [_,_,_,_,_,_,_,_,_,_,_,_,_]) Qb (by kernel_rfl) (wq H (fun w2 hw2=>Ez.mv H rfl) rfl (jL (fun a H w2 hw2=>Ez.gtr (r:=false) H rfl rfl (by (simp;omega))) rfl (jM rfl rfl ?_)));clear H a;intro a H
   refine wqx H rfl rfl rfl rfl rfl ?_;clear H a;intro a H
   refine wqx H rfl rfl rfl rfl rfl ?_;clear H a;intro a H
   refine wqx H rfl rfl rfl rfl rfl ?_;clear H a;intro a H
   refine wqx H rfl rfl rfl rfl rfl ?_;clear H a;intro a H
   refine wqx H rfl rfl rfl rfl rfl ?_;clear H a;intro a H
   refine wqx H rfl rfl rfl rfl rfl ?_;clear H a;intro a H
   refine wqx H rfl rfl rfl rfl rfl ?_;clear H a;intro a H
   refine wqx H rfl rfl rfl rfl rfl ?_;clear H a;intro a H
   refine wqx H rfl rfl rfl rfl rfl ?_;clear H a;intro a H
   refine wq H (fun w2 hw2=>Ez.pkF H rfl rfl) rfl ?_;clear H a;intro a H
   refine wqe ?_
   intro w1 hw
   skip
   replace H:Hd a 64 [] [(0,_),(1,_),(4,_),(7,_),(41,_)]:=H.pick [0,1,4,7,41]
   refine Cf (H.o rfl) (We (thx (thx (bxe (thn (Sq (Wb (Sq ?_))))))))
   have hfin:mm=0\/X mm≠Y mm:=.inl hi0
   have hC:=hC.trans hw
   clear hw
   refine Qr (ls:= [_,_,_,_,_,_,_,_,_,_]) Qb (by kernel_rfl) (wq H (fun w2 hw2=>Ez.mv H rfl) rfl (jM rfl rfl (jL (fun a H w2 hw2=>Ez.ix80 H rfl rfl mm rfl (by omega)) rfl (jL (fun a H w2 hw2=>Ez.ld103 H rfl (hw2.cell (hC.cell (by rw [Nat.zero_add];exact hWx.cell (by omega))))) rfl (jM rfl rfl (jM rfl rfl (jL (fun a H w2 hw2=>Ez.ix80 H rfl rfl mm rfl (by omega)) rfl (jL (fun a H w2 hw2=>Ez.ld103 H rfl (hw2.cell (hC.cell (by rw [Nat.zero_add];exact hWy.cell (by omega))))) rfl (jL (fun a H w2 hw2=>Ez.lss H rfl rfl (rfl)) rfl (jA rfl rfl ?_))))))))));clear H a;intro a H
   refine wqe ?_
   intro w1 hw
   have hC:=hC.trans hw
   clear hw
   replace H:Hd a 64 [] [(0,_),(1,_),(4,_),(7,_),(44,_)]:=H.pick [0,1,4,7,44]
   refine Cs (H.o rfl) (fun hb4=>?_) (fun hb4=>?_)
   ·have hlt:X mm < Y mm:=Dt hb4
    refine Rl [_] (wl H (Ez.asn H rfl) rfl (kP [(4,_)] rfl ?_));clear H a;intro a H
    refine Wn ?_
    refine bn (thn (Wr ?_))
    refine rt1 H rfl rfl ?_
    refine ⟨?_,hC⟩
    have ht:=nv_top (X:=X) (Y:=Y) (i:=mm+1) n (by omega) (fun k h1 h2=>hk k (by omega) h2)
    first
     | (have hd:=Jn (X:=X) (Y:=Y) (i:=mm) (fun j hj=>hXu j (by omega)) (fun j hj=>hYu j (by omega)) hlt
        unfold cmpI;rw [if_pos (by omega)])
     | (have hd:=Jn (X:=Y) (Y:=X) (i:=mm) (fun j hj=>hYu j (by omega)) (fun j hj=>hXu j (by omega)) hgt
        unfold cmpI;rw [if_neg (by omega),if_pos (by omega)])
     | (have e0:mm=0:=by (rcases hfin with h | h;exact h;omega)
        subst e0
        simp only [nv,Nat.zero_add] at ht
        have e1:X 0=Y 0:=by omega
        unfold cmpI;rw [if_neg (by simp only [nv,e1] at ht;omega),if_neg (by simp only [nv,e1] at ht;omega)])
   have hlt:¬X mm < Y mm:=Df hb4
   refine Sq (Qr (ls:= [_,_,_,_,_,_,_,_,_,_]) Qb (by kernel_rfl) (wq H (fun w2 hw2=>Ez.mv H rfl) rfl (jM rfl rfl (jL (fun a H w2 hw2=>Ez.ix80 H rfl rfl mm rfl (by omega)) rfl (jL (fun a H w2 hw2=>Ez.ld103 H rfl (hw2.cell (hC.cell (by rw [Nat.zero_add];exact hWx.cell (by omega))))) rfl (jM rfl rfl (jM rfl rfl (jL (fun a H w2 hw2=>Ez.ix80 H rfl rfl mm rfl (by omega)) rfl (jL (fun a H w2 hw2=>Ez.ld103 H rfl (hw2.cell (hC.cell (by rw [Nat.zero_add];exact hWy.cell (by omega))))) rfl (jL (fun a H w2 hw2=>Ez.gtr H rfl rfl (rfl)) rfl (jA rfl rfl ?_)))))))))));clear H a;intro a H
   refine wqe ?_
   intro w1 hw
   have hC:=hC.trans hw
   clear hw
   replace H:Hd a 64 [] [(4,_),(54,_)]:=H.pick [4,54]
   refine Cs (H.o rfl) (fun hb5=>?_) (fun hb5=>?_)
   ·have hgt:Y mm < X mm:=Dt hb5
    refine Rl [_] (wl H (Ez.asn H rfl) rfl (kP [(4,_)] rfl ?_));clear H a;intro a H
    refine Wn ?_
    refine bn (thn (Wr ?_))
    refine rt1 H rfl rfl ?_
    refine ⟨?_,hC⟩
    have ht:=nv_top (X:=X) (Y:=Y) (i:=mm+1) n (by omega) (fun k h1 h2=>hk k (by omega) h2)
    first
     | (have hd:=Jn (X:=X) (Y:=Y) (i:=mm) (fun j hj=>hXu j (by omega)) (fun j hj=>hYu j (by omega)) hlt
        unfold cmpI;rw [if_pos (by omega)])
     | (have hd:=Jn (X:=Y) (Y:=X) (i:=mm) (fun j hj=>hYu j (by omega)) (fun j hj=>hXu j (by omega)) hgt
        unfold cmpI;rw [if_neg (by omega),if_pos (by omega)])
     | (have e0:mm=0:=by (rcases hfin with h | h;exact h;omega)
        subst e0
        simp only [nv,Nat.zero_add] at ht
        have e1:X 0=Y 0:=by omega
        unfold cmpI;rw [if_neg (by simp only [nv,e1] at ht;omega),if_neg (by simp only [nv,e1] at ht;omega)])
   have hgt:¬Y mm < X mm:=Df hb5
   refine Wk0 (bn (thn (Wr ?_)))
   refine rt1 H rfl rfl ?_
   refine ⟨?_,hC⟩
   have ht:=nv_top (X:=X) (Y:=Y) (i:=mm+1) n (by omega) (fun k h1 h2=>hk k (by omega) h2)
   first
    | (have hd:=Jn (X:=X) (Y:=Y) (i:=mm) (fun j hj=>hXu j (by omega)) (fun j hj=>hYu j (by omega)) hlt
       unfold cmpI;rw [if_pos (by omega)])
    | (have hd:=Jn (X:=Y) (Y:=X) (i:=mm) (fun j hj=>hYu j (by omega)) (fun j hj=>hXu j (by omega)) hgt
       unfold cmpI;rw [if_neg (by omega),if_pos (by omega)])
    | (have e0:mm=0:=by (rcases hfin with h | h;exact h;omega)
       subst e0
       simp only [nv,Nat.zero_add] at ht
       have e1:X 0=Y 0:=by omega
       unfold cmpI;rw [if_neg (by simp only [nv,e1] at ht;omega),if_neg (by simp only [nv,e1] at ht;omega)])
  refine Qr (ls:= [_,_,_,_,_,_,_,_,_,_,_,_,_]) Qb (by kernel_rfl) (wq H (fun w2 hw2=>Ez.mv H rfl) rfl (jL (fun a H w2 hw2=>Ez.gtr (r:=true) H rfl rfl (by (simp;omega))) rfl (jM rfl rfl ?_)));clear H a;intro a H
  refine wqg H (fun w2 hw2=>Ez.mv H rfl) rfl rfl rfl rfl rfl ?_;clear H a;intro a H
  refine wqg H (fun w2 hw2=>Ez.mv H rfl) rfl rfl rfl rfl rfl ?_;clear H a;intro a H
  refine wqg H (fun w2 hw2=>Ez.ix80 H rfl rfl mm rfl (by omega)) rfl rfl rfl rfl rfl ?_;clear H a;intro a H
  refine wqg H (fun w2 hw2=>Ez.ld103 H rfl (hw2.cell (hC.cell (by rw [Nat.zero_add];exact hWx.cell (by omega))))) rfl rfl rfl rfl rfl ?_;clear H a;intro a H
  refine wqg H (fun w2 hw2=>Ez.mv H rfl) rfl rfl rfl rfl rfl ?_;clear H a;intro a H
  refine wqg H (fun w2 hw2=>Ez.mv H rfl) rfl rfl rfl rfl rfl ?_;clear H a;intro a H
  refine wqg H (fun w2 hw2=>Ez.ix80 H rfl rfl mm rfl (by omega)) rfl rfl rfl rfl rfl ?_;clear H a;intro a H
  refine wqg H (fun w2 hw2=>Ez.ld103 H rfl (hw2.cell (hC.cell (by rw [Nat.zero_add];exact hWy.cell (by omega))))) rfl rfl rfl rfl rfl ?_;clear H a;intro a H
  refine wqg H (fun w2 hw2=>Ez.eql H rfl rfl (rfl)) rfl rfl rfl rfl rfl ?_;clear H a;intro a H
  refine wq H (fun w2 hw2=>Ez.pkT H rfl rfl) rfl ?_;clear H a;intro a H
  refine wqe ?_
  intro w1 hw
  skip
  replace H:Hd a 64 [] [(0,_),(1,_),(4,_),(7,_),(41,_)]:=H.pick [0,1,4,7,41]
  refine Cs (H.o rfl) (fun hb9=>?_) (fun hb9=>?_)
  ·have hxy:X mm=Y mm:=Dt hb9
   refine Wk0 (thn (Wb (Rl [_,_,_] (wl H (Ez.mv H rfl) rfl (kL (fun a H=>Ez.subI (r:=((mm - 1:Nat):Int)) H rfl rfl (by omega) (by omega)) rfl (kA rfl rfl (kP [(0,_),(1,_),(4,_),(7,_)] rfl ?_)))))));clear H a;intro a H
   refine Wn ?_
   refine bn (thn ?_)
   replace H:Hd a 64 [] [(0,_),(1,_),(4,_),(7,_)]:=H.pick [0,1,4,7]
   exact ⟨mm - 1,by omega,mm - 1,rfl,by omega,H,fun k h1 h2=>by by_cases e:k=mm;(subst e;exact hxy);exact hk k (by omega) h2,hC.trans hw⟩
  have hxy:X mm≠Y mm:=Df hb9
  refine We (thx (thx (bxe (thn (Sq (Wb (Sq ?_)))))))
  have hfin:mm=0\/X mm≠Y mm:=.inr hxy
  have hC:=hC.trans hw
  clear hw
  refine Qr (ls:= [_,_,_,_,_,_,_,_,_,_]) Qb (by kernel_rfl) (wq H (fun w2 hw2=>Ez.mv H rfl) rfl (jM rfl rfl (jL (fun a H w2 hw2=>Ez.ix80 H rfl rfl mm rfl (by omega)) rfl (jL (fun a H w2 hw2=>Ez.ld103 H rfl (hw2.cell (hC.cell (by rw [Nat.zero_add];exact hWx.cell (by omega))))) rfl (jM rfl rfl (jM rfl rfl (jL (fun a H w2 hw2=>Ez.ix80 H rfl rfl mm rfl (by omega)) rfl (jL (fun a H w2 hw2=>Ez.ld103 H rfl (hw2.cell (hC.cell (by rw [Nat.zero_add];exact hWy.cell (by omega))))) rfl (jL (fun a H w2 hw2=>Ez.lss H rfl rfl (rfl)) rfl (jA rfl rfl ?_))))))))));clear H a;intro a H
  refine wqe ?_
  intro w1 hw
  have hC:=hC.trans hw
  clear hw
  replace H:Hd a 64 [] [(0,_),(1,_),(4,_),(7,_),(44,_)]:=H.pick [0,1,4,7,44]
  refine Cs (H.o rfl) (fun hb4=>?_) (fun hb4=>?_)
  ·have hlt:X mm < Y mm:=Dt hb4
   refine Rl [_] (wl H (Ez.asn H rfl) rfl (kP [(4,_)] rfl ?_));clear H a;intro a H
   refine Wn ?_
   refine bn (thn (Wr ?_))
   refine rt1 H rfl rfl ?_
   refine ⟨?_,hC⟩
   have ht:=nv_top (X:=X) (Y:=Y) (i:=mm+1) n (by omega) (fun k h1 h2=>hk k (by omega) h2)
   first
    | (have hd:=Jn (X:=X) (Y:=Y) (i:=mm) (fun j hj=>hXu j (by omega)) (fun j hj=>hYu j (by omega)) hlt
       unfold cmpI;rw [if_pos (by omega)])
    | (have hd:=Jn (X:=Y) (Y:=X) (i:=mm) (fun j hj=>hYu j (by omega)) (fun j hj=>hXu j (by omega)) hgt
       unfold cmpI;rw [if_neg (by omega),if_pos (by omega)])
    | (have e0:mm=0:=by (rcases hfin with h | h;exact h;omega)
       subst e0
       simp only [nv,Nat.zero_add] at ht
       have e1:X 0=Y 0:=by omega
       unfold cmpI;rw [if_neg (by simp only [nv,e1] at ht;omega),if_neg (by simp only [nv,e1] at ht;omega)])
  have hlt:¬X mm < Y mm:=Df hb4
  refine Sq (Qr (ls:= [_,_,_,_,_,_,_,_,_,_]) Qb (by kernel_rfl) (wq H (fun w2 hw2=>Ez.mv H rfl) rfl (jM rfl rfl (jL (fun a H w2 hw2=>Ez.ix80 H rfl rfl mm rfl (by omega)) rfl (jL (fun a H w2 hw2=>Ez.ld103 H rfl (hw2.cell (hC.cell (by rw [Nat.zero_add];exact hWx.cell (by omega))))) rfl (jM rfl rfl (jM rfl rfl (jL (fun a H w2 hw2=>Ez.ix80 H rfl rfl mm rfl (by omega)) rfl (jL (fun a H w2 hw2=>Ez.ld103 H rfl (hw2.cell (hC.cell (by rw [Nat.zero_add];exact hWy.cell (by omega))))) rfl (jL (fun a H w2 hw2=>Ez.gtr H rfl rfl (rfl)) rfl (jA rfl rfl ?_)))))))))));clear H a;intro a H
  refine wqe ?_
  intro w1 hw
  have hC:=hC.trans hw
  clear hw
  replace H:Hd a 64 [] [(4,_),(54,_)]:=H.pick [4,54]
  refine Cs (H.o rfl) (fun hb5=>?_) (fun hb5=>?_)
  ·have hgt:Y mm < X mm:=Dt hb5
   refine Rl [_] (wl H (Ez.asn H rfl) rfl (kP [(4,_)] rfl ?_));clear H a;intro a H
   refine Wn ?_
   refine bn (thn (Wr ?_))
   refine rt1 H rfl rfl ?_
   refine ⟨?_,hC⟩
   have ht:=nv_top (X:=X) (Y:=Y) (i:=mm+1) n (by omega) (fun k h1 h2=>hk k (by omega) h2)
   first
    | (have hd:=Jn (X:=X) (Y:=Y) (i:=mm) (fun j hj=>hXu j (by omega)) (fun j hj=>hYu j (by omega)) hlt
       unfold cmpI;rw [if_pos (by omega)])
    | (have hd:=Jn (X:=Y) (Y:=X) (i:=mm) (fun j hj=>hYu j (by omega)) (fun j hj=>hXu j (by omega)) hgt
       unfold cmpI;rw [if_neg (by omega),if_pos (by omega)])
    | (have e0:mm=0:=by (rcases hfin with h | h;exact h;omega)
       subst e0
       simp only [nv,Nat.zero_add] at ht
       have e1:X 0=Y 0:=by omega
       unfold cmpI;rw [if_neg (by simp only [nv,e1] at ht;omega),if_neg (by simp only [nv,e1] at ht;omega)])
  have hgt:¬Y mm < X mm:=Df hb5
  refine Wk0 (bn (thn (Wr ?_)))
  refine rt1 H rfl rfl ?_
  refine ⟨?_,hC⟩
  have ht:=nv_top (X:=X) (Y:=Y) (i:=mm+1) n (by omega) (fun k h1 h2=>hk k (by omega) h2)
  first
   | (have hd:=Jn (X:=X) (Y:=Y) (i:=mm) (fun j hj=>hXu j (by omega)) (fun j hj=>hYu j (by omega)) hlt
      unfold cmpI;rw [if_pos (by omega)])
   | (have hd:=Jn (X:=Y) (Y:=X) (i:=mm) (fun j hj=>hYu j (by omega)) (fun j hj=>hXu j (by omega)) hgt
      unfold cmpI;rw [if_neg (by omega),if_pos (by omega)])
   | (have e0:mm=0:=by (rcases hfin with h | h;exact h;omega)
      subst e0
      simp only [nv,Nat.zero_add] at ht
      have e1:X 0=Y 0:=by omega
      unfold cmpI;rw [if_neg (by simp only [nv,e1] at ht;omega),if_neg (by simp only [nv,e1] at ht;omega)])
 refine Rl [_,_,_,_,_,_,_] (wl H (Ez.mv H rfl) rfl (kM rfl rfl (kL (fun a H=>Ez.neq (r:=true) H rfl rfl (by (simp;omega))) rfl (kM rfl rfl (kX rfl rfl rfl rfl rfl (kX rfl rfl rfl rfl rfl (kL (fun a H=>Ez.pkT H rfl rfl) rfl (kP [(0,_),(1,_),(4,_),(5,_),(6,_),(18,_)] rfl (kW ?_)))))))));clear H a;intro a H
 refine Ct (H.o rfl) (Sq (Wb (Sq (Rl [_,_,_,_] (wl H (Ez.mv H rfl) rfl (kM rfl rfl (kL (fun a H=>Ez.lss (r:=false) H rfl rfl (by (simp;omega))) rfl (kA rfl rfl (kP [(0,_),(1,_),(4,_),(5,_),(6,_),(19,_)] rfl (kW ?_))))))))));clear H a;intro a H
 refine Cf (H.o rfl) (Sq (Rl [_,_,_,_] (wl H (Ez.mv H rfl) rfl (kM rfl rfl (kL (fun a H=>Ez.gtr (r:=true) H rfl rfl (by (simp;omega))) rfl (kA rfl rfl (kP [(0,_),(1,_),(4,_),(5,_),(23,_)] rfl (kW ?_))))))));clear H a;intro a H
 refine Ct (H.o rfl) (Rl [_] (wl H (Ez.asn H rfl) rfl (kP [(0,_),(1,_),(4,_),(5,_)] rfl ?_)));clear H a;intro a H
 refine Wn ?_
 refine bn (thn (Wr (thr ?_)))
 refine rt1 H rfl rfl ?_
 refine ⟨?_,Cd.refl _⟩
 have:=Jx hXu hYu hNx hnm
 unfold cmpI;rw [if_neg (by omega),if_pos this]
theorem natMulAddWW (q qx:Option Addr) (n0 c0 n c:Nat) (Z X:Nat->Int) (y r:Int) (w:World) (hz:Sl w q n0 c0 Z) (hx:Sl w qx n c X) (hn:n < 100000000) (hy:U64 y) (hr:U64 r):
 Calls Tryz.prog 121 #[.slice q n0 c0,.slice qx n c,.int .u64 y,.int .u64 r] w fun e w'=>∃q' n' c' X',e=.returned (.slice q' n' c')/\Sl w' q' n' c' X'/\n'<=n+1/\nv X' n'=nv X n*y+r/\Nm X' n'/\Own w q q'/\Fr (TQ q) w w':=by
 refine Qd (vs:= [.slice q n0 c0,.slice qx n c,.int .u64 y,.int .u64 r]) Tryz.func121 rfl rfl ?_
 intro a H
 replace H:Hd a 37 [] [(0,.slice q n0 c0),(1,.slice qx n c),(2,.int .u64 y),(3,.int .u64 r)]:=H
 refine Sq (Rl [_] (wl H (Ez.asn H rfl) rfl (kW (kS (kR [_,_,_] (kM rfl rfl (kL (fun a H=>Ez.len80 H rfl) rfl (kA rfl rfl (kP [(0,_),(1,_),(2,_),(3,_),(8,_),(9,_)] rfl (kW (kS (kS ?_))))))))))));clear H a;intro a H
 by_cases hn0:n=0
 ·refine Rl [_,_,_,_,_,_] (wl H (Ez.mv H rfl) rfl (kL (fun a H=>Ez.eql (r:=true) H rfl rfl (by (simp;omega))) rfl (kM rfl rfl (kX rfl rfl rfl rfl rfl (kX rfl rfl rfl rfl rfl (kL (fun a H=>Ez.pkT H rfl rfl) rfl (kP [(0,_),(1,_),(2,_),(3,_),(8,_),(9,_),(17,_)] rfl (kW ?_))))))));clear H a;intro a H
  refine Ct (H.o rfl) (Sq (Rl [_,_,_,_] (wl H (Ez.mv H rfl) rfl (kM rfl rfl ?_))));clear H a;intro a H
  refine wk H cf116 (natSetWord q n0 c0 Z r w hz hr) rfl rfl ?_
  rintro _ w1 ⟨q',n',c',X',rfl,h1,h2,h3,h4,h5,h6⟩
  refine ⟨_,rfl,?_⟩;clear H a;intro a H
  refine wl H (Ez.asn H rfl) rfl (kP [(0,_),(1,_),(2,_),(3,_),(8,_),(9,_)] rfl (kW ?_));clear H a;intro a H
  refine Wr (thr ?_)
  refine rt1 H rfl rfl ?_
  exact ⟨q',n',c',X',rfl,h1,by omega,by rw [h3,hn0];simp [nv],h4,h5,h6⟩
 refine Rl [_,_,_,_,_,_] (wl H (Ez.mv H rfl) rfl (kL (fun a H=>Ez.eql (r:=false) H rfl rfl (by (simp;omega))) rfl (kM rfl rfl (kG (fun a H=>Ez.mv H rfl) rfl rfl rfl rfl rfl (kG (fun a H=>Ez.eql H rfl rfl (rfl)) rfl rfl rfl rfl rfl (kL (fun a H=>Ez.pkF H rfl rfl) rfl (kP [(0,_),(1,_),(2,_),(3,_),(8,_),(9,_),(17,_)] rfl (kW ?_))))))));clear H a;intro a H
 refine Cs (H.o rfl) (fun hb=>?_) (fun hb=>?_)
 ·have hy0:y=0:=Dt hb
  refine Sq (Rl [_,_,_,_] (wl H (Ez.mv H rfl) rfl (kM rfl rfl ?_)));clear H a;intro a H
  refine wk H cf116 (natSetWord q n0 c0 Z r w hz hr) rfl rfl ?_
  rintro _ w1 ⟨q',n',c',X',rfl,h1,h2,h3,h4,h5,h6⟩
  refine ⟨_,rfl,?_⟩;clear H a;intro a H
  refine wl H (Ez.asn H rfl) rfl (kP [(0,_),(1,_),(2,_),(3,_),(8,_),(9,_)] rfl (kW ?_));clear H a;intro a H
  refine Wr (thr ?_)
  refine rt1 H rfl rfl ?_
  exact ⟨q',n',c',X',rfl,h1,by omega,by rw [h3,hy0];simp,h4,h5,h6⟩
 have hy0:y≠0:=Df hb
 refine Wk0 (thn (Sq (Rl [_,_,_,_,_] (wl H (Ez.mv H rfl) rfl (kM rfl rfl (kL (fun a H=>Ez.addI (r:=((n+1:Nat):Int)) H rfl rfl (by omega) (by omega)) rfl ?_))))));clear H a;intro a H
 refine wk H cf82 (J9 q n0 c0 (n+1) Z w hz (by omega)) rfl rfl ?_
 rintro _ w1 ⟨q',c',X1,rfl,h1,h2,h3⟩
 refine ⟨_,rfl,?_⟩;clear H a;intro a H
 have hle:=h1.le
 have hlx:=hx.le
 obtain ⟨b,rfl,_,hW⟩:=h1.blk (by omega)
 obtain ⟨bx,rfl,_,hWx⟩:=(hx.frN h3).blk (by omega)
 refine wl H (Ez.asn H rfl) rfl (kP [(0,_),(1,_),(2,_),(3,_),(8,_),(9,_)] rfl (kW (kS (kR [_,_,_,_,_,_,_,_,_,_,_] (kM rfl rfl (kM rfl rfl (kM rfl rfl (kM rfl rfl (kL (fun a H=>Ez.slZ80 H rfl rfl rfl n rfl (by omega)) rfl (kM rfl rfl (kM rfl rfl (kM rfl rfl ?_))))))))))));clear H a;intro a H
 refine wk H cf138 (mulAddVWW b 0 c' bx 0 c n c' c X1 X y r w1 hW hWx (fun _=>rfl) (by omega) (by omega) (by omega) hy hr) rfl rfl ?_
 rintro _ w1 ⟨k,X2,rfl,h4,h5,h6,h7,h8⟩
 refine ⟨_,rfl,?_⟩;clear H a;intro a H
 refine wl H (Ez.ix80 H rfl rfl n rfl (by omega)) rfl ?_;clear H a;intro a H
 refine wls H (Ez.st103 H rfl rfl rfl (h4.cell (by omega)) (h4.fz _)) ?_;clear H;intro H
 refine kP [(0,_),(8,_)] rfl (kW (kS (kR [_,_,_] (kM rfl rfl ?_)))) a H;clear H a;intro a H
 refine wk H cf84 (Kc _ (n+1) c' (up X2 (0+n) k) _ (Sl.of (h4.set (j:=0+n) (by omega) h7) hle (by omega)) (by omega)) rfl rfl ?_
 rintro _ w1 ⟨m,rfl,k1,k2,k3,k4,rfl⟩
 refine ⟨_,rfl,?_⟩;clear H a;intro a H
 refine wl H (Ez.asn H rfl) rfl (kP [(8,_)] rfl (kW ?_));clear H a;intro a H
 refine Wr ?_
 refine rt1 H rfl rfl ?_
 refine ⟨_,m,c',_,rfl,k2,k1,?_,k4,h2,(h3.noT.trans ((h8.trans (Fr.bl _)).blq)).own h2⟩
 rw [k3,<-Qm,Qk,Jc _ _ _ _ _ (Nat.le_refl _),Qz,h6,Qm]
end
section
set_option maxRecDepth 8000
theorem Wk.alias {w0 w:World} {bx cx bz cz:Nat} {X Z Z':Nat->Int} (hx:Wk w0 bx cx X) (hz0:Wk w0 bz cz Z) (hz:Wk w bz cz Z') (hF:Fr (Bl bz) w0 w) (S:Nat->Prop) (hout:∀k,S k->Z' k=Z k):
 ∃X',Wk w bx cx X'/\∀k,k < cx->S k->X' k=X k:=by
 by_cases e:bx=bz
 ·subst e
  obtain ⟨ec,eX⟩:=hx.inj hz0
  subst ec
  exact ⟨Z',hz,fun k hk hs=>by rw [hout k hs,eX k hk]⟩
 exact ⟨X,hx.fr hF fun _ h=>e h,fun _ _ _=>rfl⟩
theorem rtD1 {P:Program} {fn:Func} {R:Ending->World->Prop} {a:Act} {w:World} {N:Nat} {l:Env} {t:Tmp} {v:Value} (H:Hd a N [] l) (h:fn.results=#[.tmp t]) (hv:lk l t=some v) (hR:R (.returned v) w):bodyPostD P fn R .ret a w:=by
 show Leaves P fn a.tmps R a.defers .returning w
 rw [H.df]
 refine ⟨v,?_,hR⟩
 rw [<-H.g _ _ hv];exact results_tmp h _ _ _
theorem rtD2 {P:Program} {fn:Func} {R:Ending->World->Prop} {a:Act} {w:World} {N:Nat} {l:Env} {t u:Tmp} {v x:Value} (H:Hd a N [] l) (h:fn.results=#[.tmp t,.tmp u]) (hv:lk l t=some v) (hx:lk l u=some x) (hR:R (.returned (.tuple #[v,x])) w):bodyPostD P fn R .ret a w:=by
 show Leaves P fn a.tmps R a.defers .returning w
 rw [H.df]
 refine ⟨_,?_,hR⟩
 rw [<-H.g _ _ hv,<-H.g _ _ hx];exact results_tmp2 h _ _ _
theorem Nm.congr {X X':Nat->Int} {n:Nat} (h:Nm X n) (e:∀j,j < n->X' j=X j):Nm X' n:=by
 rcases h with h | h
 ·exact .inl h
 rcases Nat.eq_zero_or_pos n with h0 | h0
 ·exact .inl h0
 exact .inr (by rw [e _ (by omega)];exact h)
set_option maxHeartbeats 1000000 in
theorem natAdd1 (q qx qy:Option Addr) (n0 c0 m cx n cy:Nat) (Z X Y:Nat->Int) (w:World) (hz:Sl w q n0 c0 Z) (hx:Sl w qx m cx X) (hy:Sl w qy n cy Y) (hm:m < 100000000) (hmn:n<=m) (hNx:Nm X m):
 Calls Tryz.prog 92 #[.slice q n0 c0,.slice qx m cx,.slice qy n cy] w fun e w'=>∃q' k c' X',e=.returned (.slice q' k c')/\Sl w' q' k c' X'/\k<=m+1/\nv X' k=nv X m+nv Y n/\Nm X' k/\Own w q q'/\Fr (TQ q) w w':=by
 obtain ⟨w0,hw0⟩:∃w0,w0=w:=⟨w,rfl⟩
 rw [<-hw0]
 rw [<-hw0] at hz hx hy
 clear hw0 w
 refine Qd (vs:= [.slice q n0 c0,.slice qx m cx,.slice qy n cy]) Tryz.func92 rfl rfl ?_
 intro a H
 replace H:Hd a 65 [] [(0,.slice q n0 c0),(1,.slice qx m cx),(2,.slice qy n cy)]:=H
 refine Sq (Rl [_] (wl H (Ez.asn H rfl) rfl (kW (kS (kR [_,_,_] (kM rfl rfl (kL (fun a H=>Ez.len80 H rfl) rfl (kA rfl rfl (kP [(0,_),(1,_),(2,_),(6,_),(7,_)] rfl (kW (kS (kR [_,_,_] (kM rfl rfl (kL (fun a H=>Ez.len80 H rfl) rfl (kA rfl rfl (kP [(0,_),(1,_),(2,_),(6,_),(7,_),(8,_)] rfl (kW (kS ?_))))))))))))))))));clear H a;intro a H
 refine Wb (Sq (Rl [_,_,_,_] (wl H (Ez.mv H rfl) rfl (kM rfl rfl (kL (fun a H=>Ez.lss (r:=false) H rfl rfl (by (simp;omega))) rfl (kA rfl rfl (kP [(0,_),(1,_),(2,_),(6,_),(7,_),(8,_),(14,_)] rfl (kW ?_))))))));clear H a;intro a H
 refine Cf (H.o rfl) (Sq (Rl [_,_,_] (wl H (Ez.mv H rfl) rfl (kL (fun a H=>Ez.eql H rfl rfl (rfl)) rfl (kA rfl rfl (kP [(0,_),(1,_),(2,_),(6,_),(7,_),(8,_),(22,_)] rfl (kW ?_)))))));clear H a;intro a H
 refine Cs (H.o rfl) (fun hb1=>?_) (fun hb1=>?_)
 ·have hm0:m=0:=by simp at hb1;omega
  refine Sq (Rl [_,_,_] (wl H (Ez.mv H rfl) rfl (kL (fun a H=>Ez.slH80 H rfl rfl 0 rfl (Nat.zero_le _)) rfl (kA rfl rfl (kP [(0,_),(1,_),(2,_),(6,_),(7,_),(8,_)] rfl (kW ?_))))));clear H a;intro a H
  refine Wr (bret (thr ?_))
  refine rt1 H rfl rfl ?_
  exact ⟨q,0,c0,Z,rfl,hz.cut (Nat.zero_le _),by omega,by (have hn0:n=0:=by omega);subst hm0;subst hn0;rfl,.inl rfl,Own.refl _ _,Fr.refl _ _⟩
 have hm0:0 < m:=by simp at hb1;omega
 refine Sq (Rl [_,_,_] (wl H (Ez.mv H rfl) rfl (kL (fun a H=>Ez.eql H rfl rfl (rfl)) rfl (kA rfl rfl (kP [(0,_),(1,_),(2,_),(6,_),(7,_),(8,_),(27,_)] rfl (kW ?_))))));clear H a;intro a H
 refine Cs (H.o rfl) (fun hb2=>?_) (fun hb2=>?_)
 ·have hn0:n=0:=by simp at hb2;omega
  refine Sq (Rl [_,_,_,_] (wl H (Ez.mv H rfl) rfl (kM rfl rfl ?_)));clear H a;intro a H
  refine wk H cf94 (natSet q qx n0 c0 m cx Z X w0 hz hx (by omega)) rfl rfl ?_
  rintro _ w1 ⟨q',c',X',rfl,h1,h2,h3,h4⟩
  refine ⟨_,rfl,?_⟩;clear H a;intro a H
  refine wl H (Ez.asn H rfl) rfl (kP [(0,_),(1,_),(2,_),(6,_),(7,_),(8,_)] rfl (kW ?_));clear H a;intro a H
  refine Wr (bret (thr ?_))
  refine rt1 H rfl rfl ?_
  exact ⟨q',m,c',X',rfl,h1,by omega,by rw [Ja m h2,hn0];simp [nv],hNx.congr h2,h3,h4⟩
 have hn0:0 < n:=by simp at hb2;omega
 refine Wk0 (bn (thn (Sq (Rl [_,_,_,_,_] (wl H (Ez.mv H rfl) rfl (kM rfl rfl (kL (fun a H=>Ez.addI (r:=((m+1:Nat):Int)) H rfl rfl (by omega) (by omega)) rfl ?_)))))));clear H a;intro a H
 refine wk H cf82 (J9 q n0 c0 (m+1) Z w0 hz (by omega)) rfl rfl ?_
 rintro _ w1 ⟨q',c',X1,rfl,h1,h2,h3⟩
 refine ⟨_,rfl,?_⟩;clear H a;intro a H
 have hle:=h1.le
 have hlx:=hx.le
 have hly:=hy.le
 obtain ⟨b,rfl,_,hW⟩:=h1.blk (by omega)
 obtain ⟨bx,rfl,_,hWx⟩:=(hx.frN h3).blk (by omega)
 obtain ⟨by_,rfl,_,hWy⟩:=(hy.frN h3).blk (by omega)
 obtain ⟨wm,hwm⟩:∃wm,wm=w1:=⟨_,rfl⟩
 rw [<-hwm]
 rw [<-hwm] at hW hWx hWy h3
 clear hwm h1 w1
 refine wl H (Ez.asn H rfl) rfl (kP [(0,_),(1,_),(2,_),(6,_),(7,_),(8,_)] rfl (kW (kS ?_)));clear H a;intro a H
 refine Jw [_,_,_,_,_,_,_,_,_] [_,_] Qb (by kernel_rfl) ?_
 intro w1 hw
 have hW1:=hW.heq hw.heap
 have hWx1:=hWx.heq hw.heap
 have hWy1:=hWy.heq hw.heap
 have hF1:Fr (Bl b) wm w1:=hw.fr _
 refine wst H (Ez.mv H rfl) rfl (iL (fun a H=>Ez.mv H rfl) rfl (iL (fun a H=>Ez.slH80 H rfl rfl n rfl (by omega)) rfl (iL (fun a H=>Ez.mv H rfl) rfl (iL (fun a H=>Ez.mv H rfl) rfl (iL (fun a H=>Ez.slH80 H rfl rfl n rfl (by omega)) rfl (iL (fun a H=>Ez.mv H rfl) rfl (iL (fun a H=>Ez.mv H rfl) rfl (iL (fun a H=>Ez.slH80 H rfl rfl n rfl (by omega)) rfl ?_))))))));clear H a;intro a H
 refine wste ?_
 refine wk H cf109 (addVV b 0 c' bx 0 cx by_ 0 cy n c' cx cy X1 X Y w1 hW1 hWx1 hWy1 (fun _=>rfl) (fun _=>rfl) (by omega) (by omega) (by omega) (by omega)) rfl rfl ?_
 rintro _ w1 ⟨k,Z1,rfl,a1,a2,a3,a4,a5⟩
 refine ⟨_,rfl,?_⟩;clear H a;intro a H
 have hF2:=hF1.trans a5
 clear hw hW1 hWx1 hWy1 hF1 a5
 refine wl H (Ez.asn H rfl) rfl (kP [(0,_),(1,_),(6,_),(7,_),(8,_),(9,_)] rfl (kW ?_));clear H a;intro a H
 refine Jf (fun a w=>∃(k:Int) (Z':Nat->Int),Hd a 65 [] [(0,.slice (some ⟨b,0,none⟩) (m+1) c'),(7,.int .i64 m),(9,.int .u64 k)]/\Wk w b c' Z'/\nv Z' m+k*BB ^ m=nv X m+nv Y n/\(0<=k/\k<=1)/\Fr (Bl b) wm w) ?_ ?_
 ·refine Sq (Rl [_,_,_] (wl H (Ez.mv H rfl) rfl (kM rfl rfl (kL (fun a H=>Ez.gtr H rfl rfl (rfl)) rfl (kP [(0,_),(1,_),(6,_),(7,_),(8,_),(9,_),(49,_)] rfl (kW ?_))))));clear H a;intro a H
  refine Cs (H.o rfl) (fun hb3=>?_) (fun hb3=>?_)
  ·have hmn2:n < m:=by simp at hb3;omega
   refine Jw [_,_,_,_,_,_,_,_] [_,_] Qb (by kernel_rfl) ?_
   intro w1 hw
   have a1':=a1.heq hw.heap
   have hF3:Fr (Bl b) wm w1:=hF2.trans (hw.fr _)
   obtain ⟨X2,hX2,eX2⟩:=hWx.alias hW a1' hF3 (fun k=>n<=k) (fun k hk=>a2 k (by omega))
   refine wst H (Ez.mv H rfl) rfl (iL (fun a H=>Ez.mv H rfl) rfl (iL (fun a H=>Ez.mv H rfl) rfl (iL (fun a H=>Ez.slLH80 H rfl rfl rfl n m rfl rfl (by omega) (by omega) (0+n) (m - n) (c' - n) (if_pos (by omega)) rfl rfl) rfl (iL (fun a H=>Ez.mv H rfl) rfl (iL (fun a H=>Ez.mv H rfl) rfl (iL (fun a H=>Ez.slL80 H rfl rfl n rfl (by omega) (by omega) (0+n) (m - n) (cx - n) (if_pos (by omega)) rfl rfl) rfl (iL (fun a H=>Ez.mv H rfl) rfl ?_)))))));clear H a;intro a H
   refine wste ?_
   refine wk H cf110 (addVW b (0+n) c' bx (0+n) cx (m - n) (c' - n) (cx - n) Z1 X2 k w1 a1' hX2 (by unfold U64;omega) (fun _=>rfl) (by omega) (by omega) (by omega) (by omega) (by omega) (by omega)) rfl rfl ?_
   rintro _ w1 ⟨k2,Z2,rfl,b1,b2,b3,b4,b5⟩
   refine ⟨_,rfl,?_⟩;clear H a;intro a H
   refine wl H (Ez.asn H rfl) rfl (kP [(0,_),(6,_),(7,_),(9,_)] rfl (kW (kP [(0,_),(7,_),(9,_)] rfl ?_)));clear H a;intro a H
   first
    | (refine ⟨k2,Z2,H,b1,?_,b4,hF3.trans b5⟩
       have e1:=Jd Z2 0 n (m - n)
       have e2:=Jd X 0 n (m - n)
       rw [show n+(m - n)=m by omega,Qm] at e1 e2
       have e3:nvo X2 (0+n) (m - n)=nvo X (0+n) (m - n):=Q4 fun j hj=>eX2 _ (by omega) (by omega)
       have e4:nvo Z2 0 n=nvo Z1 0 n:=Q4 fun j hj=>b2 _ (by omega)
       have e5:BB ^ m=BB ^ (m - n)*BB ^ n:=by rw [<-Int.pow_add,show m - n+n=m by omega]
       have e6:(nvo Z2 (0+n) (m - n)+k2*BB ^ (m - n))*BB ^ n=(nvo X (0+n) (m - n)+k)*BB ^ n:=by rw [b3,e3]
       simp only [Int.add_mul] at e6
       rw [Int.mul_assoc,<-e5] at e6
       rw [Qm Y] at a3
       rw [e1,e2,e4]
       omega)
    | (subst hmn2
       rw [Qm,Qm,Qm] at a3
       exact ⟨k,Z1,H,a1,a3,a4,hF2⟩)
  have hmn2:m=n:=by simp at hb3;omega
  refine Wk0 (thn ?_)
  replace H:Hd a 65 [] [(0,_),(7,_),(9,_)]:=H.pick [0,7,9]
  first
   | (refine ⟨k2,Z2,H,b1,?_,b4,hF3.trans b5⟩
      have e1:=Jd Z2 0 n (m - n)
      have e2:=Jd X 0 n (m - n)
      rw [show n+(m - n)=m by omega,Qm] at e1 e2
      have e3:nvo X2 (0+n) (m - n)=nvo X (0+n) (m - n):=Q4 fun j hj=>eX2 _ (by omega) (by omega)
      have e4:nvo Z2 0 n=nvo Z1 0 n:=Q4 fun j hj=>b2 _ (by omega)
      have e5:BB ^ m=BB ^ (m - n)*BB ^ n:=by rw [<-Int.pow_add,show m - n+n=m by omega]
      have e6:(nvo Z2 (0+n) (m - n)+k2*BB ^ (m - n))*BB ^ n=(nvo X (0+n) (m - n)+k)*BB ^ n:=by rw [b3,e3]
      simp only [Int.add_mul] at e6
      rw [Int.mul_assoc,<-e5] at e6
      rw [Qm Y] at a3
      rw [e1,e2,e4]
      omega)
   | (subst hmn2
      rw [Qm,Qm,Qm] at a3
      exact ⟨k,Z1,H,a1,a3,a4,hF2⟩)
 clear H a
 intro a w hJ
 obtain ⟨k,Z1,H,a1,a3,a4,hF2⟩:=hJ
 refine Sq (Rl [_,_,_,_,_] (wl H (Ez.mv H rfl) rfl (kM rfl rfl (kM rfl rfl (kL (fun a H=>Ez.ix80 H rfl rfl m rfl (by omega)) rfl ?_)))));clear H a;intro a H
 refine wls H (Ez.st103 H rfl rfl rfl (a1.cell (by omega)) (a1.fz _)) ?_;clear H;intro H
 refine kP [(0,_)] rfl (kW (kS (kR [_,_,_] (kM rfl rfl ?_)))) a H;clear H a;intro a H
 refine wk H cf84 (Kc _ (m+1) c' (up Z1 (0+m) k) _ (Sl.of (a1.set (j:=0+m) (by omega) (by unfold U64;omega)) hle (by omega)) (by omega)) rfl rfl ?_
 rintro _ w1 ⟨j,rfl,k1,k2,k3,k4,rfl⟩
 refine ⟨_,rfl,?_⟩;clear H a;intro a H
 refine wl H (Ez.asn H rfl) rfl (kP [(6,_)] rfl (kW ?_));clear H a;intro a H
 refine Wr ?_
 refine rt1 H rfl rfl ?_
 refine ⟨_,j,c',_,rfl,k2,k1,?_,k4,h2,(h3.noT.trans ((hF2.trans (Fr.bl _)).blq)).own h2⟩
 rw [k3,<-Qm,Qk,Jc _ _ _ _ _ (Nat.le_refl _),Qz,Qm];exact a3
theorem natAdd (q qx qy:Option Addr) (n0 c0 m cx n cy:Nat) (Z X Y:Nat->Int) (w:World) (hz:Sl w q n0 c0 Z) (hx:Sl w qx m cx X) (hy:Sl w qy n cy Y) (hm:m < 100000000) (hn:n < 100000000) (hNx:Nm X m) (hNy:Nm Y n):
 Calls Tryz.prog 92 #[.slice q n0 c0,.slice qx m cx,.slice qy n cy] w fun e w'=>∃q' k c' X',e=.returned (.slice q' k c')/\Sl w' q' k c' X'/\k<=max m n+1/\nv X' k=nv X m+nv Y n/\Nm X' k/\Own w q q'/\Fr (TQ q) w w':=by
 by_cases hmn:n<=m
 ·exact (natAdd1 q qx qy n0 c0 m cx n cy Z X Y w hz hx hy hm hmn hNx).mono fun _ _ ⟨q',k,c',X',h0,h1,h2,h3⟩=>⟨q',k,c',X',h0,h1,by omega,h3⟩
 refine Qd (vs:= [.slice q n0 c0,.slice qx m cx,.slice qy n cy]) Tryz.func92 rfl rfl ?_
 intro a H
 replace H:Hd a 65 [] [(0,.slice q n0 c0),(1,.slice qx m cx),(2,.slice qy n cy)]:=H
 refine Sq (Rl [_] (wl H (Ez.asn H rfl) rfl (kW (kS (kR [_,_,_] (kM rfl rfl (kL (fun a H=>Ez.len80 H rfl) rfl (kA rfl rfl (kP [(0,_),(1,_),(2,_),(6,_),(7,_)] rfl (kW (kS (kR [_,_,_] (kM rfl rfl (kL (fun a H=>Ez.len80 H rfl) rfl (kA rfl rfl (kP [(0,_),(1,_),(2,_),(6,_),(7,_),(8,_)] rfl (kW (kS ?_))))))))))))))))));clear H a;intro a H
 refine Wb (Sq (Rl [_,_,_,_] (wl H (Ez.mv H rfl) rfl (kM rfl rfl (kL (fun a H=>Ez.lss (r:=true) H rfl rfl (by (simp;omega))) rfl (kA rfl rfl (kP [(0,_),(1,_),(2,_),(6,_),(7,_),(8,_),(14,_)] rfl (kW ?_))))))));clear H a;intro a H
 refine Ct (H.o rfl) (Sq (Rl [_,_,_,_,_] (wl H (Ez.mv H rfl) rfl (kM rfl rfl (kM rfl rfl ?_)))));clear H a;intro a H
 refine wk H cf92 (natAdd1 q qy qx n0 c0 n cy m cx Z Y X w hz hy hx hn (by omega) hNy) rfl rfl ?_
 rintro _ w1 ⟨q',k,c',X',rfl,h1,h2,h3,h4,h5,h6⟩
 refine ⟨_,rfl,?_⟩;clear H a;intro a H
 refine wl H (Ez.asn H rfl) rfl (kP [(0,_),(1,_),(2,_),(6,_),(7,_),(8,_)] rfl (kW ?_));clear H a;intro a H
 refine Wr (bret (thr ?_))
 refine rt1 H rfl rfl ?_
 exact ⟨q',k,c',X',rfl,h1,by omega,by rw [h3];omega,h4,h5,h6⟩
set_option maxHeartbeats 1000000 in
theorem natSub (q qx qy:Option Addr) (n0 c0 m cx n cy:Nat) (Z X Y:Nat->Int) (w:World) (hz:Sl w q n0 c0 Z) (hx:Sl w qx m cx X) (hy:Sl w qy n cy Y) (hm:m < 100000000) (hmn:n<=m) (hNx:Nm X m) (hge:nv Y n<=nv X m):
 Calls Tryz.prog 93 #[.slice q n0 c0,.slice qx m cx,.slice qy n cy] w fun e w'=>∃q' k c' X',e=.returned (.slice q' k c')/\Sl w' q' k c' X'/\k<=m+1/\nv X' k=nv X m - nv Y n/\Nm X' k/\Own w q q'/\Fr (TQ q) w w':=by
 obtain ⟨w0,hw0⟩:∃w0,w0=w:=⟨w,rfl⟩
 rw [<-hw0]
 rw [<-hw0] at hz hx hy
 clear hw0 w
 refine Qd (vs:= [.slice q n0 c0,.slice qx m cx,.slice qy n cy]) Tryz.func93 rfl rfl ?_
 intro a H
 replace H:Hd a 59 [] [(0,.slice q n0 c0),(1,.slice qx m cx),(2,.slice qy n cy)]:=H
 refine Sq (Rl [_] (wl H (Ez.asn H rfl) rfl (kW (kS (kR [_,_,_] (kM rfl rfl (kL (fun a H=>Ez.len80 H rfl) rfl (kA rfl rfl (kP [(0,_),(1,_),(2,_),(6,_),(7,_)] rfl (kW (kS (kR [_,_,_] (kM rfl rfl (kL (fun a H=>Ez.len80 H rfl) rfl (kA rfl rfl (kP [(0,_),(1,_),(2,_),(6,_),(7,_),(8,_)] rfl (kW (kS ?_))))))))))))))))));clear H a;intro a H
 refine Wb (Sq (Rl [_,_,_,_] (wl H (Ez.mv H rfl) rfl (kM rfl rfl (kL (fun a H=>Ez.lss (r:=false) H rfl rfl (by (simp;omega))) rfl (kA rfl rfl (kP [(0,_),(1,_),(2,_),(6,_),(7,_),(8,_),(14,_)] rfl (kW ?_))))))));clear H a;intro a H
 refine Cf (H.o rfl) (Sq (Rl [_,_,_] (wl H (Ez.mv H rfl) rfl (kL (fun a H=>Ez.eql H rfl rfl (rfl)) rfl (kA rfl rfl (kP [(0,_),(1,_),(2,_),(6,_),(7,_),(8,_),(19,_)] rfl (kW ?_)))))));clear H a;intro a H
 refine Cs (H.o rfl) (fun hb1=>?_) (fun hb1=>?_)
 ·have hm0:m=0:=by simp at hb1;omega
  refine Sq (Rl [_,_,_] (wl H (Ez.mv H rfl) rfl (kL (fun a H=>Ez.slH80 H rfl rfl 0 rfl (Nat.zero_le _)) rfl (kA rfl rfl (kP [(0,_),(1,_),(2,_),(6,_),(7,_),(8,_)] rfl (kW ?_))))));clear H a;intro a H
  refine Wr (bret (thr ?_))
  refine rt1 H rfl rfl ?_
  exact ⟨q,0,c0,Z,rfl,hz.cut (Nat.zero_le _),by omega,by (have hn0:n=0:=by omega);subst hm0;subst hn0;rfl,.inl rfl,Own.refl _ _,Fr.refl _ _⟩
 have hm0:0 < m:=by simp at hb1;omega
 refine Sq (Rl [_,_,_] (wl H (Ez.mv H rfl) rfl (kL (fun a H=>Ez.eql H rfl rfl (rfl)) rfl (kA rfl rfl (kP [(0,_),(1,_),(2,_),(6,_),(7,_),(8,_),(24,_)] rfl (kW ?_))))));clear H a;intro a H
 refine Cs (H.o rfl) (fun hb2=>?_) (fun hb2=>?_)
 ·have hn0:n=0:=by simp at hb2;omega
  refine Sq (Rl [_,_,_,_] (wl H (Ez.mv H rfl) rfl (kM rfl rfl ?_)));clear H a;intro a H
  refine wk H cf94 (natSet q qx n0 c0 m cx Z X w0 hz hx (by omega)) rfl rfl ?_
  rintro _ w1 ⟨q',c',X',rfl,h1,h2,h3,h4⟩
  refine ⟨_,rfl,?_⟩;clear H a;intro a H
  refine wl H (Ez.asn H rfl) rfl (kP [(0,_),(1,_),(2,_),(6,_),(7,_),(8,_)] rfl (kW ?_));clear H a;intro a H
  refine Wr (bret (thr ?_))
  refine rt1 H rfl rfl ?_
  exact ⟨q',m,c',X',rfl,h1,by omega,by rw [Ja m h2,hn0];simp [nv],hNx.congr h2,h3,h4⟩
 have hn0:0 < n:=by simp at hb2;omega
 refine Wk0 (bn (thn (Sq (Rl [_,_,_,_] (wl H (Ez.mv H rfl) rfl (kM rfl rfl ?_))))));clear H a;intro a H
 refine wk H cf82 (J9 q n0 c0 (m) Z w0 hz (by omega)) rfl rfl ?_
 rintro _ w1 ⟨q',c',X1,rfl,h1,h2,h3⟩
 refine ⟨_,rfl,?_⟩;clear H a;intro a H
 have hle:=h1.le
 have hlx:=hx.le
 have hly:=hy.le
 obtain ⟨b,rfl,_,hW⟩:=h1.blk (by omega)
 obtain ⟨bx,rfl,_,hWx⟩:=(hx.frN h3).blk (by omega)
 obtain ⟨by_,rfl,_,hWy⟩:=(hy.frN h3).blk (by omega)
 obtain ⟨wm,hwm⟩:∃wm,wm=w1:=⟨_,rfl⟩
 rw [<-hwm]
 rw [<-hwm] at hW hWx hWy h3
 clear hwm h1 w1
 refine wl H (Ez.asn H rfl) rfl (kP [(0,_),(1,_),(2,_),(6,_),(7,_),(8,_)] rfl (kW (kS ?_)));clear H a;intro a H
 refine Jw [_,_,_,_,_,_,_,_,_] [_,_] Qb (by kernel_rfl) ?_
 intro w1 hw
 have hW1:=hW.heq hw.heap
 have hWx1:=hWx.heq hw.heap
 have hWy1:=hWy.heq hw.heap
 have hF1:Fr (Bl b) wm w1:=hw.fr _
 refine wst H (Ez.mv H rfl) rfl (iL (fun a H=>Ez.mv H rfl) rfl (iL (fun a H=>Ez.slH80 H rfl rfl n rfl (by omega)) rfl (iL (fun a H=>Ez.mv H rfl) rfl (iL (fun a H=>Ez.mv H rfl) rfl (iL (fun a H=>Ez.slH80 H rfl rfl n rfl (by omega)) rfl (iL (fun a H=>Ez.mv H rfl) rfl (iL (fun a H=>Ez.mv H rfl) rfl (iL (fun a H=>Ez.slH80 H rfl rfl n rfl (by omega)) rfl ?_))))))));clear H a;intro a H
 refine wste ?_
 refine wk H cf111 (subVV b 0 c' bx 0 cx by_ 0 cy n c' cx cy X1 X Y w1 hW1 hWx1 hWy1 (fun _=>rfl) (fun _=>rfl) (by omega) (by omega) (by omega) (by omega)) rfl rfl ?_
 rintro _ w1 ⟨k,Z1,rfl,a1,a2,a3,a4,a5⟩
 refine ⟨_,rfl,?_⟩;clear H a;intro a H
 have hF2:=hF1.trans a5
 clear hw hW1 hWx1 hWy1 hF1 a5
 refine wl H (Ez.asn H rfl) rfl (kP [(0,_),(1,_),(6,_),(7,_),(8,_),(9,_)] rfl (kW ?_));clear H a;intro a H
 refine Jf (fun a w=>∃(k:Int) (Z':Nat->Int),Hd a 59 [] [(0,.slice (some ⟨b,0,none⟩) (m) c'),(9,.int .u64 k)]/\Wk w b c' Z'/\nv Z' m - k*BB ^ m=nv X m - nv Y n/\(0<=k/\k<=1)/\Fr (Bl b) wm w) ?_ ?_
 ·refine Sq (Rl [_,_,_] (wl H (Ez.mv H rfl) rfl (kM rfl rfl (kL (fun a H=>Ez.gtr H rfl rfl (rfl)) rfl (kP [(0,_),(1,_),(6,_),(8,_),(9,_),(45,_)] rfl (kW ?_))))));clear H a;intro a H
  refine Cs (H.o rfl) (fun hb3=>?_) (fun hb3=>?_)
  ·have hmn2:n < m:=by simp at hb3;omega
   refine Jw [_,_,_,_,_,_,_] [_,_] Qb (by kernel_rfl) ?_
   intro w1 hw
   have a1':=a1.heq hw.heap
   have hF3:Fr (Bl b) wm w1:=hF2.trans (hw.fr _)
   obtain ⟨X2,hX2,eX2⟩:=hWx.alias hW a1' hF3 (fun k=>n<=k) (fun k hk=>a2 k (by omega))
   refine wst H (Ez.mv H rfl) rfl (iL (fun a H=>Ez.mv H rfl) rfl (iL (fun a H=>Ez.slL80 H rfl rfl n rfl (by omega) (by omega) (0+n) (m - n) (c' - n) (if_pos (by omega)) rfl rfl) rfl (iL (fun a H=>Ez.mv H rfl) rfl (iL (fun a H=>Ez.mv H rfl) rfl (iL (fun a H=>Ez.slL80 H rfl rfl n rfl (by omega) (by omega) (0+n) (m - n) (cx - n) (if_pos (by omega)) rfl rfl) rfl (iL (fun a H=>Ez.mv H rfl) rfl ?_))))));clear H a;intro a H
   refine wste ?_
   refine wk H cf112 (subVW b (0+n) c' bx (0+n) cx (m - n) (c' - n) (cx - n) Z1 X2 k w1 a1' hX2 (by unfold U64;omega) (fun _=>rfl) (by omega) (by omega) (by omega) (by omega) (by omega) (by omega)) rfl rfl ?_
   rintro _ w1 ⟨k2,Z2,rfl,b1,b2,b3,b4,b5⟩
   refine ⟨_,rfl,?_⟩;clear H a;intro a H
   refine wl H (Ez.asn H rfl) rfl (kP [(0,_),(6,_),(9,_)] rfl (kW (kP [(0,_),(9,_)] rfl ?_)));clear H a;intro a H
   first
    | (refine ⟨k2,Z2,H,b1,?_,b4,hF3.trans b5⟩
       have e1:=Jd Z2 0 n (m - n)
       have e2:=Jd X 0 n (m - n)
       rw [show n+(m - n)=m by omega,Qm] at e1 e2
       have e3:nvo X2 (0+n) (m - n)=nvo X (0+n) (m - n):=Q4 fun j hj=>eX2 _ (by omega) (by omega)
       have e4:nvo Z2 0 n=nvo Z1 0 n:=Q4 fun j hj=>b2 _ (by omega)
       have e5:BB ^ m=BB ^ (m - n)*BB ^ n:=by rw [<-Int.pow_add,show m - n+n=m by omega]
       have e6:(nvo Z2 (0+n) (m - n) - k2*BB ^ (m - n))*BB ^ n=(nvo X (0+n) (m - n) - k)*BB ^ n:=by rw [b3,e3]
       simp only [Int.sub_mul] at e6
       rw [Int.mul_assoc,<-e5] at e6
       rw [Qm Y] at a3
       rw [e1,e2,e4]
       omega)
    | (subst hmn2
       rw [Qm,Qm,Qm] at a3
       exact ⟨k,Z1,H,a1,a3,a4,hF2⟩)
  have hmn2:m=n:=by simp at hb3;omega
  refine Wk0 (thn ?_)
  replace H:Hd a 59 [] [(0,_),(9,_)]:=H.pick [0,9]
  first
   | (refine ⟨k2,Z2,H,b1,?_,b4,hF3.trans b5⟩
      have e1:=Jd Z2 0 n (m - n)
      have e2:=Jd X 0 n (m - n)
      rw [show n+(m - n)=m by omega,Qm] at e1 e2
      have e3:nvo X2 (0+n) (m - n)=nvo X (0+n) (m - n):=Q4 fun j hj=>eX2 _ (by omega) (by omega)
      have e4:nvo Z2 0 n=nvo Z1 0 n:=Q4 fun j hj=>b2 _ (by omega)
      have e5:BB ^ m=BB ^ (m - n)*BB ^ n:=by rw [<-Int.pow_add,show m - n+n=m by omega]
      have e6:(nvo Z2 (0+n) (m - n) - k2*BB ^ (m - n))*BB ^ n=(nvo X (0+n) (m - n) - k)*BB ^ n:=by rw [b3,e3]
      simp only [Int.sub_mul] at e6
      rw [Int.mul_assoc,<-e5] at e6
      rw [Qm Y] at a3
      rw [e1,e2,e4]
      omega)
   | (subst hmn2
      rw [Qm,Qm,Qm] at a3
      exact ⟨k,Z1,H,a1,a3,a4,hF2⟩)
 clear H a
 intro a w hJ
 obtain ⟨k,Z1,H,a1,a3,a4,hF2⟩:=hJ
 refine Sq (Sq ?_)
 have hk0:k=0:=by
  rcases (show k=0\/k=1 by omega) with h | h
  ·exact h
  exfalso
  rw [h,Int.one_mul] at a3
  have:=Kn m (fun j hj=>a1.u j (by omega))
  omega
 refine Rl [_,_] (wl H (Ez.mv H rfl) rfl (kL (fun a H=>Ez.neq (r:=false) H rfl rfl (by (simp;exact hk0))) rfl (kP [(0,_),(55,_)] rfl (kW ?_))));clear H a;intro a H
 refine Cf (H.o rfl) (Wk0 (thn (Sq (Rl [_,_,_] (wl H (Ez.mv H rfl) rfl ?_)))));clear H a;intro a H
 refine wk H cf84 (Kc _ m c' Z1 _ (Sl.of a1 hle (by omega)) (by omega)) rfl rfl ?_
 rintro _ w1 ⟨j,rfl,k1,k2,k3,k4,rfl⟩
 refine ⟨_,rfl,?_⟩;clear H a;intro a H
 refine wl H (Ez.asn H rfl) rfl (kP [(6,_)] rfl (kW ?_));clear H a;intro a H
 refine Wr ?_
 refine rt1 H rfl rfl ?_
 refine ⟨_,j,c',_,rfl,k2,by omega,?_,k4,h2,(h3.noT.trans (hF2.blq)).own h2⟩
 rw [k3,<-a3,hk0];simp
def Sh (q q':Option Addr):Prop:=q=q'/\q≠none
noncomputable instance (q q':Option Addr):Decidable (Sh q q'):=Classical.propDecidable _
theorem Sh.of_not {w:World} {q q':Option Addr} {n c n' c':Nat} {X Y:Nat->Int} (hx:Sl w q n c X) (hy:Sl w q' n' c' Y) (h:¬Sh q q') {k j j':Nat} (h1:TQ q k j) (h2:TQ q' k j'):False:=by
 rcases hx with ⟨h0,_⟩ | ⟨b,h0,_⟩
 ·rw [h0] at h1;exact Q9 h1
 rcases hy with ⟨g0,_⟩ | ⟨b',g0,_⟩
 ·rw [g0] at h2;exact Q9 h2
 subst h0;subst g0
 rw [Qt] at h1 h2
 subst h1;subst h2
 exact h ⟨rfl,by simp⟩
theorem natAlias (qx qy:Option Addr) (n cx m cy:Nat) (X Y:Nat->Int) (w:World) (hx:Sl w qx n cx X) (hy:Sl w qy m cy Y):
 Calls Tryz.prog 85 #[.slice qx n cx,.slice qy m cy] w fun e w'=>e=.returned (.bool (decide (Sh qx qy)))/\Cd w w':=by
 refine Qd (vs:= [.slice qx n cx,.slice qy m cy]) Tryz.func85 rfl rfl ?_
 intro a H
 replace H:Hd a 32 [] [(0,.slice qx n cx),(1,.slice qy m cy)]:=H
 refine Sq (Rl [_] (wl H (Ez.asn H rfl) rfl (kW (kS ?_))));clear H a;intro a H
 rcases (show cx=0\/(0 < cx/\cy=0)\/(0 < cx/\0 < cy) by omega) with hc | hc | hc
 ·refine Qr (ls:= [_,_,_,_,_,_,_,_,_,_,_,_,_,_,_,_,_,_,_,_,_,_,_,_,_,_,_,_]) Qb (by kernel_rfl) (wq H (fun w2 hw2=>Ez.mv H rfl) rfl (jL (fun a H w2 hw2=>Ez.cap80 H rfl) rfl (jL (fun a H w2 hw2=>Ez.gtr (r:=false) H rfl rfl (by (simp;omega))) rfl (jM rfl rfl ?_))));clear H a;intro a H
  refine wqx H rfl rfl rfl rfl rfl ?_;clear H a;intro a H
  refine wqx H rfl rfl rfl rfl rfl ?_;clear H a;intro a H
  refine wqx H rfl rfl rfl rfl rfl ?_;clear H a;intro a H
  refine wq H (fun w2 hw2=>Ez.pkF H rfl rfl) rfl (jM rfl rfl ?_);clear H a;intro a H
  refine wqx H rfl rfl rfl rfl rfl ?_;clear H a;intro a H
  refine wqx H rfl rfl rfl rfl rfl ?_;clear H a;intro a H
  refine wqx H rfl rfl rfl rfl rfl ?_;clear H a;intro a H
  refine wqx H rfl rfl rfl rfl rfl ?_;clear H a;intro a H
  refine wqx H rfl rfl rfl rfl rfl ?_;clear H a;intro a H
  refine wqx H rfl rfl rfl rfl rfl ?_;clear H a;intro a H
  refine wqx H rfl rfl rfl rfl rfl ?_;clear H a;intro a H
  refine wqx H rfl rfl rfl rfl rfl ?_;clear H a;intro a H
  refine wqx H rfl rfl rfl rfl rfl ?_;clear H a;intro a H
  refine wqx H rfl rfl rfl rfl rfl ?_;clear H a;intro a H
  refine wqx H rfl rfl rfl rfl rfl ?_;clear H a;intro a H
  refine wqx H rfl rfl rfl rfl rfl ?_;clear H a;intro a H
  refine wqx H rfl rfl rfl rfl rfl ?_;clear H a;intro a H
  refine wqx H rfl rfl rfl rfl rfl ?_;clear H a;intro a H
  refine wqx H rfl rfl rfl rfl rfl ?_;clear H a;intro a H
  refine wqx H rfl rfl rfl rfl rfl ?_;clear H a;intro a H
  refine wqx H rfl rfl rfl rfl rfl ?_;clear H a;intro a H
  refine wq H (fun w2 hw2=>Ez.pkF H rfl rfl) rfl (jA rfl rfl ?_);clear H a;intro a H
  refine wqe ?_
  intro w1 hw
  skip
  replace H:Hd a 32 [] [(4,_)]:=H.pick [4]
  refine Wr ?_
  refine rt1 H rfl rfl ?_
  refine ⟨?_,hw⟩
  rw [decide_eq_false]
  rintro ⟨h1,h2⟩
  subst h1
  rcases hx with ⟨h0,_⟩ | ⟨b,_,_,h3,_⟩
  ·exact h2 h0
  omega
 ·refine Qr (ls:= [_,_,_,_,_,_,_,_,_,_,_,_,_,_,_,_,_,_,_,_,_,_,_,_,_,_,_,_]) Qb (by kernel_rfl) (wq H (fun w2 hw2=>Ez.mv H rfl) rfl (jL (fun a H w2 hw2=>Ez.cap80 H rfl) rfl (jL (fun a H w2 hw2=>Ez.gtr (r:=true) H rfl rfl (by (simp;omega))) rfl (jM rfl rfl ?_))));clear H a;intro a H
  refine wqg H (fun w2 hw2=>Ez.mv H rfl) rfl rfl rfl rfl rfl ?_;clear H a;intro a H
  refine wqg H (fun w2 hw2=>Ez.cap80 H rfl) rfl rfl rfl rfl rfl ?_;clear H a;intro a H
  refine wqg H (fun w2 hw2=>Ez.gtr (r:=false) H rfl rfl (by (simp;omega))) rfl rfl rfl rfl rfl ?_;clear H a;intro a H
  refine wq H (fun w2 hw2=>Ez.pkT H rfl rfl) rfl (jM rfl rfl ?_);clear H a;intro a H
  refine wqx H rfl rfl rfl rfl rfl ?_;clear H a;intro a H
  refine wqx H rfl rfl rfl rfl rfl ?_;clear H a;intro a H
  refine wqx H rfl rfl rfl rfl rfl ?_;clear H a;intro a H
  refine wqx H rfl rfl rfl rfl rfl ?_;clear H a;intro a H
  refine wqx H rfl rfl rfl rfl rfl ?_;clear H a;intro a H
  refine wqx H rfl rfl rfl rfl rfl ?_;clear H a;intro a H
  refine wqx H rfl rfl rfl rfl rfl ?_;clear H a;intro a H
  refine wqx H rfl rfl rfl rfl rfl ?_;clear H a;intro a H
  refine wqx H rfl rfl rfl rfl rfl ?_;clear H a;intro a H
  refine wqx H rfl rfl rfl rfl rfl ?_;clear H a;intro a H
  refine wqx H rfl rfl rfl rfl rfl ?_;clear H a;intro a H
  refine wqx H rfl rfl rfl rfl rfl ?_;clear H a;intro a H
  refine wqx H rfl rfl rfl rfl rfl ?_;clear H a;intro a H
  refine wqx H rfl rfl rfl rfl rfl ?_;clear H a;intro a H
  refine wqx H rfl rfl rfl rfl rfl ?_;clear H a;intro a H
  refine wqx H rfl rfl rfl rfl rfl ?_;clear H a;intro a H
  refine wqx H rfl rfl rfl rfl rfl ?_;clear H a;intro a H
  refine wq H (fun w2 hw2=>Ez.pkF H rfl rfl) rfl (jA rfl rfl ?_);clear H a;intro a H
  refine wqe ?_
  intro w1 hw
  skip
  replace H:Hd a 32 [] [(4,_)]:=H.pick [4]
  refine Wr ?_
  refine rt1 H rfl rfl ?_
  refine ⟨?_,hw⟩
  rw [decide_eq_false]
  rintro ⟨h1,h2⟩
  subst h1
  rcases hy with ⟨h0,_⟩ | ⟨b,_,_,h3,_⟩
  ·exact h2 h0
  omega
 obtain ⟨bx,rfl,_,hWx⟩:=hx.blk hc.1
 obtain ⟨by_,rfl,_,hWy⟩:=hy.blk hc.2
 obtain ⟨i103,hi103,hs103⟩:=info103
 have hcm1:=hWx.m
 have hcm2:=hWy.m
 refine Qr (ls:= [_,_,_,_,_,_,_,_,_,_,_,_,_,_,_,_,_,_,_,_,_,_,_,_,_,_,_,_]) Qb (by kernel_rfl) (wq H (fun w2 hw2=>Ez.mv H rfl) rfl (jL (fun a H w2 hw2=>Ez.cap80 H rfl) rfl (jL (fun a H w2 hw2=>Ez.gtr (r:=true) H rfl rfl (by (simp;omega))) rfl (jM rfl rfl ?_))));clear H a;intro a H
 refine wqg H (fun w2 hw2=>Ez.mv H rfl) rfl rfl rfl rfl rfl ?_;clear H a;intro a H
 refine wqg H (fun w2 hw2=>Ez.cap80 H rfl) rfl rfl rfl rfl rfl ?_;clear H a;intro a H
 refine wqg H (fun w2 hw2=>Ez.gtr (r:=true) H rfl rfl (by (simp;omega))) rfl rfl rfl rfl rfl ?_;clear H a;intro a H
 refine wq H (fun w2 hw2=>Ez.pkT H rfl rfl) rfl (jM rfl rfl ?_);clear H a;intro a H
 refine wqg H (fun w2 hw2=>Ez.mv H rfl) rfl rfl rfl rfl rfl ?_;clear H a;intro a H
 refine wqg H (fun w2 hw2=>Ez.mv H rfl) rfl rfl rfl rfl rfl ?_;clear H a;intro a H
 refine wqg H (fun w2 hw2=>Ez.cap80 H rfl) rfl rfl rfl rfl rfl ?_;clear H a;intro a H
 refine wqg H (fun w2 hw2=>Ez.slZ80 H rfl rfl rfl cx rfl (by omega)) rfl rfl rfl rfl rfl ?_;clear H a;intro a H
 refine wqg H (fun w2 hw2=>Ez.mv H rfl) rfl rfl rfl rfl rfl ?_;clear H a;intro a H
 refine wqg H (fun w2 hw2=>Ez.cap80 H rfl) rfl rfl rfl rfl rfl ?_;clear H a;intro a H
 refine wqg H (fun w2 hw2=>Ez.subI (r:=((cx - 1:Nat):Int)) H rfl rfl (by omega) (by omega)) rfl rfl rfl rfl rfl ?_;clear H a;intro a H
 refine wqg H (fun w2 hw2=>Ez.ix80 H rfl rfl (cx - 1) rfl (by omega)) rfl rfl rfl rfl rfl ?_;clear H a;intro a H
 refine wqg H (fun w2 hw2=>Ez.mv H rfl) rfl rfl rfl rfl rfl ?_;clear H a;intro a H
 refine wqg H (fun w2 hw2=>Ez.mv H rfl) rfl rfl rfl rfl rfl ?_;clear H a;intro a H
 refine wqg H (fun w2 hw2=>Ez.cap80 H rfl) rfl rfl rfl rfl rfl ?_;clear H a;intro a H
 refine wqg H (fun w2 hw2=>Ez.slZ80 H rfl rfl rfl cy rfl (by omega)) rfl rfl rfl rfl rfl ?_;clear H a;intro a H
 refine wqg H (fun w2 hw2=>Ez.mv H rfl) rfl rfl rfl rfl rfl ?_;clear H a;intro a H
 refine wqg H (fun w2 hw2=>Ez.cap80 H rfl) rfl rfl rfl rfl rfl ?_;clear H a;intro a H
 refine wqg H (fun w2 hw2=>Ez.subI (r:=((cy - 1:Nat):Int)) H rfl rfl (by omega) (by omega)) rfl rfl rfl rfl rfl ?_;clear H a;intro a H
 refine wqg H (fun w2 hw2=>Ez.ix80 H rfl rfl (cy - 1) rfl (by omega)) rfl rfl rfl rfl rfl ?_;clear H a;intro a H
 refine wqg H (fun w2 hw2=>Ez.eqlP H rfl rfl ptrFacts hi103 hs103 (by rw [hw2.heap];exact hWx.blk) (by rw [hw2.heap];exact hWy.blk) rfl) rfl rfl rfl rfl rfl ?_;clear H a;intro a H
 refine wq H (fun w2 hw2=>Ez.pkT H rfl rfl) rfl (jA rfl rfl ?_);clear H a;intro a H
 refine wqe ?_
 intro w1 hw
 skip
 replace H:Hd a 32 [] [(4,_)]:=H.pick [4]
 refine Wr ?_
 refine rt1 H rfl rfl ?_
 refine ⟨?_,hw⟩
 congr 2
 refine decide_eq_decide.2 ⟨fun h=>?_,fun h=>?_⟩
 ·injection h with h1 h2
  subst h1
  exact ⟨rfl,by simp⟩
 obtain ⟨h1,_⟩:=h
 injection h1 with h1
 injection h1 with h1
 subst h1
 have:=(hWx.inj hWy).1
 subst this;rfl
end
section
set_option maxRecDepth 8000
section
variable {P:Program} {ops:Array Oper} {Q:Exit->Act->World->Prop} {md:Region.Mode}
def headB (md:Region.Mode) (ops:Array Oper):Nat->Nat->Array Bool->Bool
 | 0,_,_=>true
 | n+1,k,listed=>Region.free md ops listed k && (Region.ready md ops listed).contains k && headB md ops n (k+1) (listed.setIfInBounds k true)
def markB:Nat->Nat->Array Bool->Array Bool
 | 0,_,listed=>listed
 | n+1,k,listed=>markB n (k+1) (listed.setIfInBounds k true)
def pureTailB (ops:Array Oper) (n:Nat):Bool:=
 Region.noSelect ops && headB .any ops n 0 (Array.replicate ops.size false) && decide (n<=ops.size) && Region.seqB .any ops (ops.size - n) n (markB n 0 (Array.replicate ops.size false))
def wpPure (P:Program) (ops:Array Oper) (Q:Act->Prop):List Oper->Act->Prop
 | [],a=>Q a
 | o::rest,a=>∃v,o.dst.isSome=true/\YieldsIf P ops (fun _=>True) o v a/\wpPure P ops Q rest (a.put o.dst v)
theorem heldT:∀(fuel:Nat) (listed:Array Bool) (a:Act) (w:World),wpAny P md ops Q fuel listed a w->wpAnyH P md ops Q (fun _=>True) fuel listed a w
 | 0,_,_,_,h=>h
 | fuel+1,_,_,_,h=>⟨h.1,fun i hi=>wpOp_mono (fun a' w' h'=>⟨trivial,heldT fuel _ a' w' h'⟩) (h.2 i hi)⟩
theorem wpAnyH_pure (hs:Region.noSelect ops=true) (hQ:∀c d v a w,Q (.panic c) (Act.put a (some d) v) w->Q (.panic c) a w):∀(l:List Oper) (k g:Nat) (listed:Array Bool) (a:Act) (w:World),(∀j,j < l.length->l[j]?=ops[k+j]?)->
 headB md ops l.length k listed=true->wpPure P ops (fun a'=>wpAnyH P md ops Q (fun _=>True) g (markB l.length k listed) a' w) l a->wpAnyH P md ops Q (fun _=>True) (l.length+g) listed a w
 | [],k,g,listed,a,w,_,_,h=>by simpa [markB,wpPure] using h
 | o::rest,k,g,listed,a,w,hl,hB,h=>by
   obtain ⟨v,hd,hy,h⟩:=h
   simp only [List.length_cons,headB,Bool.and_eq_true] at hB
   obtain ⟨⟨hf,hr⟩,hB⟩:=hB
   have h0:ops[k]?=some o:=by simpa using (hl 0 (by simp)).symm
   obtain ⟨d,hd⟩:=Option.isSome_iff_exists.1 hd
   have ih:=wpAnyH_pure hs hQ rest (k+1) g (listed.setIfInBounds k true) (a.put o.dst v) w (fun j hj=>by have:=hl (j+1) (by simpa using hj);simpa [Nat.add_assoc,Nat.add_comm 1 j] using this) hB h
   rw [show (o::rest).length+g=(rest.length+g)+1 by simp;omega]
   exact wpAnyH_take h0 hs hf hr (by rw [hd];exact fun c a w=>hQ c d v a w) hy trivial ih
theorem regionP {id:Nat} {a:Act} {w:World} (l1 l2:List Oper) (hm:P.follows .mixedOrders=true) (hQ:∀c d v a w,Q (.panic c) (Act.put a (some d) v) w->Q (.panic c) a w) (hB:pureTailB (l1++l2).toArray l1.length=true)
 (h:∀w1,Cd w w1->wpPure P (l1++l2).toArray (fun a'=>wpList P (l1++l2).toArray Q l2 a' w1) l1 a):(Code.region id (l1++l2).toArray true).wp P Q a w:=by
 simp only [pureTailB,Bool.and_eq_true,decide_eq_true_eq] at hB
 obtain ⟨⟨⟨hs,hh⟩,hn⟩,hq⟩:=hB
 refine wp_region_held (S:=fun _=>True) hm ?_
 have hp:=h { w with drawn:=w.drawn+1} ⟨1,rfl⟩
 have hsz:(l1++l2).toArray.size=l1.length+l2.length:=by simp
 rw [hsz]
 refine wpAnyH_pure hs hQ l1 0 l2.length _ a _ (fun j hj=>by simp [List.getElem?_append_left hj]) (by rw [<-hsz];exact hh) ?_
 have mono:∀(l:List Oper) (a:Act) (Q1 Q2:Act->Prop),(∀a,Q1 a->Q2 a)->wpPure P (l1++l2).toArray Q1 l a->wpPure P (l1++l2).toArray Q2 l a:=by
  intro l
  induction l with
  | nil=>intro a Q1 Q2 hq h;exact hq _ h
  | cons o l ih=>intro a Q1 Q2 hq h;obtain ⟨v,h1,h2,h3⟩:=h;exact ⟨v,h1,h2,ih _ _ _ hq h3⟩
 refine mono _ _ _ _ (fun a' h'=>?_) hp
 refine heldT _ _ _ _ ?_
 rw [<-hsz]
 exact wpAny_of_seq l2 l1.length _ a' _ (fun j=>by simp [List.getElem?_append_right (Nat.le_add_right _ _)]) (by rw [hsz,Nat.add_sub_cancel_left] at hq;rw [hsz];exact hq) h'
end
section
variable {P:Program} {ops:Array Oper} {Q:Act->Prop} {a:Act} {rest:List Oper} {op:Op} {d:Nat} {ty:TypeId} {pos:String} {after:Array Edge} {N:Nat} {ds:List Deferred} {l:Env} {v:Value}
theorem wpu (H:Hd a N ds l) (hr:∀w,(execOp a.eval ⟨some d,op,ty,pos,after,none⟩).run P w=.ok (.value v) w) (hd:Nat.blt d N=true)
 (h:∀a',Hd a' N ds ((d,v)::l)->wpPure P ops Q rest a'):wpPure P ops Q (⟨some d,op,ty,pos,after,none⟩::rest) a:=
 ⟨v,rfl,.inl ⟨by simp [Region.wanted],fun w _=>hr w⟩,h _ (H.put v hd)⟩
theorem wpue (h:Q a):wpPure P ops Q [] a:=h
end
end
section
set_option maxRecDepth 8000
theorem Sl.cd {w w':World} {q:Option Addr} {n c:Nat} {X:Nat->Int} (h:Sl w q n c X) (hC:Cd w w'):Sl w' q n c X:=h.frN (hC.fr _)
theorem nvo_zeros {X:Nat->Int} {o:Nat}:∀n,(∀j,j < n->X (o+j)=0)->nvo X o n=0
 | 0,_=>rfl
 | n+1,h=>by rw [Qk,nvo_zeros n (fun j hj=>h j (by omega)),h n (by omega)];simp
set_option maxHeartbeats 1000000 in
theorem basicMul (bz cz bx cx by_ cy lz m n mx my:Nat) (Z X Y:Nat->Int) (w:World) (hz:Wk w bz cz Z) (hx:Wk w bx cx X) (hy:Wk w by_ cy Y) (hbx:bx≠bz) (hby:by_≠bz) (hlz:m+n<=lz) (hlc:lz<=cz) (hmx:m<=cx) (hny:n<=cy) (hm:m < 100000000) (hn:n < 100000000) (hmn:0 < m+n):
 Calls Tryz.prog 159 #[.slice (some ⟨bz,0,none⟩) lz cz,.slice (some ⟨bx,0,none⟩) m mx,.slice (some ⟨by_,0,none⟩) n my] w fun e w'=>∃Z',e=.returned (.tuple #[])/\Wk w' bz cz Z'/\(∀k,m+n<=k->Z' k=Z k)/\nv Z' (m+n)=nv X m*nv Y n/\Fr (Bl bz) w w':=by
 obtain ⟨w0,hw0⟩:∃w0,w0=w:=⟨w,rfl⟩
 rw [<-hw0]
 rw [<-hw0] at hz hx hy
 clear hw0 w
 refine Qd (vs:= [.slice (some ⟨bz,0,none⟩) lz cz,.slice (some ⟨bx,0,none⟩) m mx,.slice (some ⟨by_,0,none⟩) n my]) Tryz.func159 rfl rfl ?_
 intro a H
 replace H:Hd a 48 [] [(0,.slice (some ⟨bz,0,none⟩) lz cz),(1,.slice (some ⟨bx,0,none⟩) m mx),(2,.slice (some ⟨by_,0,none⟩) n my)]:=H
 refine Sq (Rl [_,_,_,_,_,_,_,_] (wl H (Ez.mv H rfl) rfl (kM rfl rfl (kL (fun a H=>Ez.len80 H rfl) rfl (kM rfl rfl (kL (fun a H=>Ez.len80 H rfl) rfl (kL (fun a H=>Ez.addI (r:=((m+n:Nat):Int)) H rfl rfl (by omega) (by omega)) rfl (kL (fun a H=>Ez.slZ80 H rfl rfl rfl (m+n) rfl (by omega)) rfl ?_))))))));clear H a;intro a H
 obtain ⟨w2,e2,hz1,hF1⟩:=Ez.clearW (x:=.tmp 14) (T:=80) (d:=none) (ty:=0) (pos:=_) (after:=_) (g:=none) H rfl (.inr rfl) hz (by omega) hmn
 refine wlv H (e2) ?_;clear e2 H;intro H
 refine kP [(0,_),(1,_),(2,_)] rfl (kW (kS (kR [_,_,_] (kM rfl rfl (kL (fun a H=>Ez.len80 H rfl) rfl (kM rfl rfl (kP [(0,_),(1,_),(15,_),(16,_),(17,_)] rfl (kW ?_)))))))) a H;clear H a;intro a H
 refine Wb ?_
 refine Qo (fun mm a w=>∃(i:Nat) (Z':Nat->Int),mm=n - i/\i<=n/\Hd a 48 [] [(0,.slice (some ⟨bz,0,none⟩) lz cz),(1,.slice (some ⟨bx,0,none⟩) m mx),(15,.slice (some ⟨by_,0,none⟩) n my),(16,.int .i64 n),(17,.int .i64 i)]/\Wk w bz cz Z'/\(∀k,m+n<=k->Z' k=Z k)/\(∀k,m+i<=k->k < m+n->Z' k=0)/\nvo Z' 0 (i+m)=nvo X 0 m*nvo Y 0 i/\Fr (Bl bz) w0 w) (n) ?_ ?_
 ·replace H:Hd a 48 [] [(0,_),(1,_),(15,_),(16,_),(17,_)]:=H.pick [0,1,15,16,17]
  refine ⟨0,_,rfl,Nat.zero_le _,H,hz1,fun k hk=>cp_out (by omega),fun k h1 h2=>?_,?_,hF1⟩
  ·have:=cp_in (Z:=Z) (oz:=0) (X:=fun _=>(0:Int)) (ox:=0) h2;simpa using this
  rw [Nat.zero_add,nvo_zeros m (fun j hj=>(cp_in (Z:=Z) (oz:=0) (X:=fun _=>(0:Int)) (ox:=0) (by omega)))];simp [nvo,nv]
 clear H a
 intro mm a w hI
 clear hF1 hz1
 obtain ⟨i,Z',rfl,hi,H,hz1,hout,hzero,hsum,hF1⟩:=hI
 refine Sq (Rl [_] (wl H (Ez.lss H rfl rfl (rfl)) rfl (kW (kS ?_))));clear H a;intro a H
 refine Cs (H.o rfl) (fun hb=>?_) (fun hb=>?_)
 ·have hlt:i < n:=by simpa using hb
  have hy1:=(hy.fr hF1 (fun _ h=>hby h)).cell (j:=i) (by omega)
  have uy:=hy.u i (by omega)
  refine Wk0 (thn (Sq (Wb (Sq (Rl [_,_,_,_,_] (wl H (Ez.mv H rfl) rfl (kL (fun a H=>Ez.ix80 H rfl rfl i rfl (by omega)) rfl (kL (fun a H=>Ez.ld103 H rfl ((by rw [Nat.zero_add];exact hy1))) rfl (kA rfl rfl (kA rfl rfl (kP [(0,_),(1,_),(6,_),(7,_),(15,_),(16,_),(17,_)] rfl (kW (kS (kR [_,_] (kM rfl rfl (kL (fun a H=>Ez.neq H rfl rfl (rfl)) rfl (kP [(0,_),(1,_),(6,_),(7,_),(15,_),(16,_),(17,_),(23,_)] rfl (kW ?_))))))))))))))))));clear H a;intro a H
  refine Cs (H.o rfl) (fun hb2=>?_) (fun hb2=>?_)
  ·have hd0:Y i≠0:=by simpa using hb2
   refine regionP [_,_,_,_,_,_,_,_,_,_,_,_,_,_,_,_,_,_,_,_,_] [_,_,_] Qb (fun _ _ _ _ _ h=>h) (by kernel_rfl) ?_
   intro w1 hw
   have hz2:=hz1.heq hw.heap
   have hF2:=hF1.trans (hw.fr _)
   have hx2:=hx.fr hF2 (fun _ h=>hbx h)
   clear hw
   refine wpu H (fun w2=>Ez.mv H rfl) rfl ?_;clear H a;intro a H
   refine wpu H (fun w2=>Ez.mv H rfl) rfl ?_;clear H a;intro a H
   refine wpu H (fun w2=>Ez.len80 H rfl) rfl ?_;clear H a;intro a H
   refine wpu H (fun w2=>Ez.mv H rfl) rfl ?_;clear H a;intro a H
   refine wpu H (fun w2=>Ez.addI (r:=((m+i:Nat):Int)) H rfl rfl (by omega) (by omega)) rfl ?_;clear H a;intro a H
   refine wpu H (fun w2=>Ez.mv H rfl) rfl ?_;clear H a;intro a H
   refine wpu H (fun w2=>Ez.mv H rfl) rfl ?_;clear H a;intro a H
   refine wpu H (fun w2=>Ez.mv H rfl) rfl ?_;clear H a;intro a H
   refine wpu H (fun w2=>Ez.mv H rfl) rfl ?_;clear H a;intro a H
   refine wpu H (fun w2=>Ez.len80 H rfl) rfl ?_;clear H a;intro a H
   refine wpu H (fun w2=>Ez.addI (r:=((i+m:Nat):Int)) H rfl rfl (by omega) (by omega)) rfl ?_;clear H a;intro a H
   refine wpu H (fun w2=>Ez.slLH80 H rfl rfl rfl i (i+m) rfl rfl (by omega) (by omega) (if i < cz then 0+i else 0) (i+m - i) (cz - i) rfl rfl rfl) rfl ?_;clear H a;intro a H
   refine wpu H (fun w2=>Ez.mv H rfl) rfl ?_;clear H a;intro a H
   refine wpu H (fun w2=>Ez.mv H rfl) rfl ?_;clear H a;intro a H
   refine wpu H (fun w2=>Ez.mv H rfl) rfl ?_;clear H a;intro a H
   refine wpu H (fun w2=>Ez.mv H rfl) rfl ?_;clear H a;intro a H
   refine wpu H (fun w2=>Ez.len80 H rfl) rfl ?_;clear H a;intro a H
   refine wpu H (fun w2=>Ez.addI (r:=((i+m:Nat):Int)) H rfl rfl (by omega) (by omega)) rfl ?_;clear H a;intro a H
   refine wpu H (fun w2=>Ez.slLH80 H rfl rfl rfl i (i+m) rfl rfl (by omega) (by omega) (if i < cz then 0+i else 0) (i+m - i) (cz - i) rfl rfl rfl) rfl ?_;clear H a;intro a H
   refine wpu H (fun w2=>Ez.mv H rfl) rfl ?_;clear H a;intro a H
   refine wpu H (fun w2=>Ez.mv H rfl) rfl ?_;clear H a;intro a H
   refine wpue ?_
   rw [if_pos (show i < cz by omega),show i+m - i=m by omega] at H
   refine wk H cf174 (addMulVVWW bz (0+i) cz bz (0+i) cz bx 0 cx m (cz - i) (cz - i) mx Z' Z' X (Y i) 0 w1 hz2 hz2 hx2 (fun _=>rfl) (fun h=>absurd h hbx) (by omega) (by omega) (by omega) (by omega) uy ⟨by decide,by decide⟩) rfl rfl ?_
   rintro _ w1 ⟨k,Z2,rfl,a1,a2,a3,a4,a5⟩
   refine ⟨_,rfl,?_⟩;clear H a;intro a H
   refine wl H (Ez.ix80 H rfl rfl (m+i) rfl (by omega)) rfl ?_;clear H a;intro a H
   refine wls H (Ez.st103 H rfl rfl rfl (a1.cell (by omega)) (a1.fz _)) ?_;clear H;intro H
   replace H:Hd a 48 [] [(0,_),(1,_),(15,_),(16,_),(17,_)]:=H.pick [0,1,15,16,17]
   refine Wn ?_
   obtain ⟨Z5,hZ5⟩:∃Z5,Z5=up Z2 (0+(m+i)) k:=⟨_,rfl⟩
   have hz5:=a1.set (j:=0+(m+i)) (by omega) a4
   rw [<-hZ5] at hz5
   have hF5:=(hF2.trans a5).trans (Fr.bl (b:=bz) (j:=0+(m+i)) (.int .u64 k))
   have ho5:∀j,m+n<=j->Z5 j=Z j:=fun j hj=>by rw [hZ5,Qx (by omega),a2 j (by omega),hout j hj]
   have hzr5:∀j,m+(i+1)<=j->j < m+n->Z5 j=0:=fun j h1 h2=>by rw [hZ5,Qx (by omega),a2 j (by omega),hzero j (by omega) h2]
   have hs5:nvo Z5 0 (i+1+m)=nvo X 0 m*nvo Y 0 (i+1):=by
    have e1:nvo Z5 0 (i+m)=nvo Z2 0 (i+m):=by rw [hZ5];exact Jc _ _ _ _ _ (by omega)
    have e2:Z5 (0+(i+m))=k:=by rw [hZ5,show 0+(i+m)=0+(m+i) by omega,Qz]
    have e3:=Jd Z2 0 i m
    have e4:nvo Z2 0 i=nvo Z' 0 i:=Q4 fun j hj=>a2 _ (by omega)
    have e5:=Jd Z' 0 i m
    have e6:(nvo Z2 (0+i) m+k*BB ^ m)*BB ^ i=(nvo Z' (0+i) m+nvo X 0 m*Y i+0)*BB ^ i:=by rw [a3]
    simp only [Int.add_mul,Int.zero_mul,Int.add_zero] at e6
    rw [show i+1+m=(i+m)+1 by omega,Qk,e1,e2,e3,e4,Qk Y,Nat.zero_add,Int.mul_add,<-hsum,e5,<-Int.mul_assoc]
    rw [Int.mul_assoc k,<-Int.pow_add,Nat.add_comm m i] at e6
    rw [Nat.zero_add] at e6 ⊢
    omega
   refine bn (thn (Rl [_,_] (wl H (Ez.addI (r:=((i+1:Nat):Int)) H rfl rfl (by omega) (by omega)) rfl (kM rfl rfl (kP [(0,_),(1,_),(15,_),(16,_),(17,_)] rfl (kW (kP [(0,_),(1,_),(15,_),(16,_),(17,_)] rfl ?_)))))));clear H a;intro a H
   first
    | exact close1
    | exact ⟨n - (i+1),by omega,i+1,Z5,rfl,by omega,H,hz5,ho5,hzr5,hs5,hF5⟩
  have hd0:Y i=0:=by simpa using hb2
  obtain ⟨Z5,hZ5⟩:∃Z5,Z5=Z':=⟨_,rfl⟩
  have hz5:=hz1;rw [<-hZ5] at hz5
  have ho5:∀k,m+n<=k->Z5 k=Z k:=by rw [hZ5];exact hout
  have hzr5:∀k,m+(i+1)<=k->k < m+n->Z5 k=0:=by rw [hZ5];exact fun k h1 h2=>hzero k (by omega) h2
  have hs5:nvo Z5 0 (i+1+m)=nvo X 0 m*nvo Y 0 (i+1):=by
   rw [hZ5,show i+1+m=(i+m)+1 by omega,Qk,hsum,Qk,Nat.zero_add,Nat.zero_add,hd0,hzero (i+m) (by omega) (by omega)]
   simp
  have hF5:=hF1
  refine Wk0 (bn (thn (Rl [_,_] (wl H (Ez.addI (r:=((i+1:Nat):Int)) H rfl rfl (by omega) (by omega)) rfl (kM rfl rfl (kP [(0,_),(1,_),(15,_),(16,_),(17,_)] rfl (kW (kP [(0,_),(1,_),(15,_),(16,_),(17,_)] rfl ?_))))))));clear H a;intro a H
  first
   | exact close1
   | exact ⟨n - (i+1),by omega,i+1,Z5,rfl,by omega,H,hz5,ho5,hzr5,hs5,hF5⟩
 have hge0:¬i < n:=by simpa using hb
 have hge:i=n:=by omega
 subst hge
 refine We (thx (thx (bxe ?_)))
 refine rtn0 H rfl ?_
 exact ⟨Z',rfl,hz1,hout,by rw [<-Qm,Nat.add_comm m,hsum,Qm,Qm],hF1⟩
set_option maxHeartbeats 1000000 in
theorem natMul1 (q qx qy:Option Addr) (n0 c0 m cx n cy:Nat) (Z X Y:Nat->Int) (w:World) (hz:Sl w q n0 c0 Z) (hx:Sl w qx m cx X) (hy:Sl w qy n cy Y) (hg:w.cell? ⟨4,0,none⟩=some (.int .i64 40)) (hmn:n<=m) (hm:m < 40):
 Calls Tryz.prog 140 #[.slice q n0 c0,.pointer none,.slice qx m cx,.slice qy n cy] w fun e w'=>∃q' k c' X',e=.returned (.slice q' k c')/\Sl w' q' k c' X'/\k<=m+n+1/\nv X' k=nv X m*nv Y n/\Nm X' k/\Own w q q'/\Fr (TQ q) w w':=by
 obtain ⟨w0,hw0⟩:∃w0,w0=w:=⟨w,rfl⟩
 rw [<-hw0]
 rw [<-hw0] at hz hx hy hg
 clear hw0 w
 refine enterD (vs:= [.slice q n0 c0,.pointer none,.slice qx m cx,.slice qy n cy]) Tryz.func140 rfl rfl ?_
 intro a H
 replace H:Hd a 121 [] [(0,.slice q n0 c0),(1,.pointer none),(2,.slice qx m cx),(3,.slice qy n cy)]:=H
 refine Sq (Rl [_] (wl H (Ez.asn H rfl) rfl (kW (kS (kR [_,_,_] (kM rfl rfl (kL (fun a H=>Ez.len80 H rfl) rfl (kA rfl rfl (kP [(0,_),(1,_),(2,_),(3,_),(8,_),(9,_)] rfl (kW (kS (kR [_,_,_] (kM rfl rfl (kL (fun a H=>Ez.len80 H rfl) rfl (kA rfl rfl (kP [(0,_),(1,_),(2,_),(3,_),(8,_),(9,_),(10,_)] rfl (kW (kS ?_))))))))))))))))));clear H a;intro a H
 refine Wb (Sq (Rl [_,_,_,_] (wl H (Ez.mv H rfl) rfl (kM rfl rfl (kL (fun a H=>Ez.lss (r:=false) H rfl rfl (by (simp;omega))) rfl (kA rfl rfl (kP [(0,_),(1,_),(2,_),(3,_),(8,_),(9,_),(10,_),(17,_)] rfl (kW ?_))))))));clear H a;intro a H
 refine Cf (H.o rfl) (Sq ?_)
 by_cases hm0:m=0
 ·refine Rl [_,_,_,_,_,_,_] (wl H (Ez.mv H rfl) rfl (kL (fun a H=>Ez.eql (r:=true) H rfl rfl (by (simp;omega))) rfl (kM rfl rfl (kX rfl rfl rfl rfl rfl (kX rfl rfl rfl rfl rfl (kL (fun a H=>Ez.pkT H rfl rfl) rfl (kA rfl rfl (kP [(0,_),(1,_),(2,_),(3,_),(8,_),(9,_),(10,_),(26,_)] rfl (kW ?_)))))))));clear H a;intro a H
  refine Ct (H.o rfl) (Sq (Rl [_,_,_] (wl H (Ez.mv H rfl) rfl (kL (fun a H=>Ez.slH80 H rfl rfl 0 rfl (Nat.zero_le _)) rfl (kA rfl rfl (kP [(0,_),(1,_),(2,_),(3,_),(8,_),(9,_),(10,_)] rfl (kW ?_)))))));clear H a;intro a H
  refine Wr (bret (thr ?_))
  refine rtD1 H rfl rfl ?_
  exact ⟨q,0,c0,Z,rfl,hz.cut (Nat.zero_le _),by omega,by subst hm0;simp [nv],.inl rfl,Own.refl _ _,Fr.refl _ _⟩
 refine Rl [_,_,_,_,_,_,_] (wl H (Ez.mv H rfl) rfl (kL (fun a H=>Ez.eql (r:=false) H rfl rfl (by (simp;omega))) rfl (kM rfl rfl (kG (fun a H=>Ez.mv H rfl) rfl rfl rfl rfl rfl (kG (fun a H=>Ez.eql H rfl rfl (rfl)) rfl rfl rfl rfl rfl (kL (fun a H=>Ez.pkF H rfl rfl) rfl (kA rfl rfl (kP [(0,_),(1,_),(2,_),(3,_),(8,_),(9,_),(10,_),(26,_)] rfl (kW ?_)))))))));clear H a;intro a H
 refine Cs (H.o rfl) (fun hb1=>?_) (fun hb1=>?_)
 ·have hn0:n=0:=by simp at hb1;omega
  refine Sq (Rl [_,_,_] (wl H (Ez.mv H rfl) rfl (kL (fun a H=>Ez.slH80 H rfl rfl 0 rfl (Nat.zero_le _)) rfl (kA rfl rfl (kP [(0,_),(1,_),(2,_),(3,_),(8,_),(9,_),(10,_)] rfl (kW ?_))))));clear H a;intro a H
  refine Wr (bret (thr ?_))
  refine rtD1 H rfl rfl ?_
  exact ⟨q,0,c0,Z,rfl,hz.cut (Nat.zero_le _),by omega,by subst hn0;simp [nv],.inl rfl,Own.refl _ _,Fr.refl _ _⟩
 have hn0:0 < n:=by simp at hb1;omega
 refine Sq (Rl [_,_,_] (wl H (Ez.mv H rfl) rfl (kL (fun a H=>Ez.eql H rfl rfl (rfl)) rfl (kA rfl rfl (kP [(0,_),(1,_),(2,_),(3,_),(8,_),(9,_),(10,_),(35,_)] rfl (kW ?_))))));clear H a;intro a H
 refine Cs (H.o rfl) (fun hb2=>?_) (fun hb2=>?_)
 ·have hn1:n=1:=by simp at hb2;omega
  subst hn1
  refine Sq ?_
  have hly:=hy.le
  obtain ⟨by_,rfl,_,hWy⟩:=hy.blk (by omega)
  have uy:=hWy.u 0 (by omega)
  refine Rl [_,_,_,_,_,_,_] (wl H (Ez.mv H rfl) rfl (kM rfl rfl (kM rfl rfl (kL (fun a H=>Ez.ix80 H rfl rfl 0 rfl (by omega)) rfl (kL (fun a H=>Ez.ld103 H rfl ((hWy.cell (by omega)))) rfl ?_)))));clear H a;intro a H
  refine wk H cf121 (natMulAddWW q qx n0 c0 m cx Z X (Y 0) 0 w0 hz hx (by omega) uy ⟨by decide,by decide⟩) rfl rfl ?_
  rintro _ w1 ⟨q',k,c',X',rfl,h1,h2,h3,h4,h5,h6⟩
  refine ⟨_,rfl,?_⟩;clear H a;intro a H
  refine wl H (Ez.asn H rfl) rfl (kP [(0,_),(1,_),(2,_),(3,_),(8,_),(9,_),(10,_)] rfl (kW ?_));clear H a;intro a H
  refine Wr (bret (thr ?_))
  refine rtD1 H rfl rfl ?_
  exact ⟨q',k,c',X',rfl,h1,by omega,by rw [h3];simp [nv],h4,h5,h6⟩
 have hn1:2<=n:=by simp at hb2;omega
 refine Wk0 (bn (thn ?_))
 refine Jf (fun a w=>∃(q1:Option Addr) (n1 c1:Nat) (Z1:Nat->Int),Hd a 121 [] [(0,.slice q1 n1 c1),(2,.slice qx m cx),(3,.slice qy n cy),(9,.int .i64 m),(10,.int .i64 n)]/\Sl w0 q1 n1 c1 Z1/\Own w0 q q1/\(¬Sh q1 qx/\¬Sh q1 qy)/\Cd w0 w) ?_ ?_
 ·refine Sq ?_
  rcases (show Sh q qx\/(¬Sh q qx/\Sh q qy)\/(¬Sh q qx/\¬Sh q qy) from by by_cases h1:Sh q qx <;> by_cases h2:Sh q qy <;> simp [h1,h2]) with hs | hs | hs
  ·have hlx:=hx.le
   have hly:=hy.le
   refine Rl [_,_,_,_,_,_,_,_] (wl H (Ez.mv H rfl) rfl (kM rfl rfl ?_));clear H a;intro a H
   refine wk H cf85 (natAlias q qx n0 c0 m cx Z X w0 hz hx) rfl rfl ?_
   rintro _ w1 ⟨rfl,hC1⟩
   refine ⟨_,rfl,?_⟩;clear H a;intro a H
   rw [decide_eq_true hs] at H
   refine wl H (Ez.mv H rfl) rfl (kX rfl rfl rfl rfl rfl (kX rfl rfl rfl rfl rfl (kX rfl rfl rfl rfl rfl (kL (fun a H=>Ez.pkT H rfl rfl) rfl (kP [(0,_),(1,_),(2,_),(3,_),(8,_),(9,_),(10,_),(51,_)] rfl (kW ?_))))));clear H a;intro a H
   refine Ct (H.o rfl) (Rl [_] (wl H (Ez.asn H rfl) rfl (kP [(0,_),(1,_),(2,_),(3,_),(8,_),(9,_),(10,_)] rfl (kW (kP [(0,_),(2,_),(3,_),(9,_),(10,_)] rfl ?_)))));clear H a;intro a H
   first | exact ⟨q,n0,c0,Z,H,hz,Own.refl _ _,hs,hC1⟩ | exact ⟨none,0,0,Z,H,Sl.nil _ _,Own.nilq _ _,⟨fun h=>h.2 rfl,fun h=>h.2 rfl⟩,hC1⟩
  ·have hlx:=hx.le
   have hly:=hy.le
   refine Rl [_,_,_,_,_,_,_,_] (wl H (Ez.mv H rfl) rfl (kM rfl rfl ?_));clear H a;intro a H
   refine wk H cf85 (natAlias q qx n0 c0 m cx Z X w0 hz hx) rfl rfl ?_
   rintro _ w1 ⟨rfl,hC1⟩
   refine ⟨_,rfl,?_⟩;clear H a;intro a H
   rw [decide_eq_false hs.1] at H
   refine wl H (Ez.mv H rfl) rfl (kG (fun a H=>Ez.mv H rfl) rfl rfl rfl rfl rfl (kG (fun a H=>Ez.mv H rfl) rfl rfl rfl rfl rfl ?_));clear H a;intro a H
   refine wkg H cf85 (natAlias q qy n0 c0 n cy Z Y w1 (hz.cd hC1) (hy.cd hC1)) rfl rfl rfl rfl rfl rfl ?_
   rintro _ w1 ⟨rfl,hC2⟩
   refine ⟨_,rfl,?_⟩;clear H a;intro a H
   rw [decide_eq_true hs.2] at H
   have hC1:=hC1.trans hC2
   refine wl H (Ez.pkF H rfl rfl) rfl (kP [(0,_),(1,_),(2,_),(3,_),(8,_),(9,_),(10,_),(51,_)] rfl (kW ?_));clear H a;intro a H
   refine Ct (H.o rfl) (Rl [_] (wl H (Ez.asn H rfl) rfl (kP [(0,_),(1,_),(2,_),(3,_),(8,_),(9,_),(10,_)] rfl (kW (kP [(0,_),(2,_),(3,_),(9,_),(10,_)] rfl ?_)))));clear H a;intro a H
   first | exact ⟨q,n0,c0,Z,H,hz,Own.refl _ _,hs,hC1⟩ | exact ⟨none,0,0,Z,H,Sl.nil _ _,Own.nilq _ _,⟨fun h=>h.2 rfl,fun h=>h.2 rfl⟩,hC1⟩
  have hlx:=hx.le
  have hly:=hy.le
  refine Rl [_,_,_,_,_,_,_,_] (wl H (Ez.mv H rfl) rfl (kM rfl rfl ?_));clear H a;intro a H
  refine wk H cf85 (natAlias q qx n0 c0 m cx Z X w0 hz hx) rfl rfl ?_
  rintro _ w1 ⟨rfl,hC1⟩
  refine ⟨_,rfl,?_⟩;clear H a;intro a H
  rw [decide_eq_false hs.1] at H
  refine wl H (Ez.mv H rfl) rfl (kG (fun a H=>Ez.mv H rfl) rfl rfl rfl rfl rfl (kG (fun a H=>Ez.mv H rfl) rfl rfl rfl rfl rfl ?_));clear H a;intro a H
  refine wkg H cf85 (natAlias q qy n0 c0 n cy Z Y w1 (hz.cd hC1) (hy.cd hC1)) rfl rfl rfl rfl rfl rfl ?_
  rintro _ w1 ⟨rfl,hC2⟩
  refine ⟨_,rfl,?_⟩;clear H a;intro a H
  rw [decide_eq_false hs.2] at H
  have hC1:=hC1.trans hC2
  refine wl H (Ez.pkF H rfl rfl) rfl (kP [(0,_),(1,_),(2,_),(3,_),(8,_),(9,_),(10,_),(51,_)] rfl (kW ?_));clear H a;intro a H
  refine Cf (H.o rfl) (Wk0 (thn ?_))
  replace H:Hd a 121 [] [(0,_),(2,_),(3,_),(9,_),(10,_)]:=H.pick [0,2,3,9,10]
  first | exact ⟨q,n0,c0,Z,H,hz,Own.refl _ _,hs,hC1⟩ | exact ⟨none,0,0,Z,H,Sl.nil _ _,Own.nilq _ _,⟨fun h=>h.2 rfl,fun h=>h.2 rfl⟩,hC1⟩
 clear H a
 intro a w hJ
 obtain ⟨q1,n1,c1,Z1,H,hz1,ho1,hns,hC⟩:=hJ
 refine Sq (Rl [_,_,_,_,_,_] (wl H (Ez.mv H rfl) rfl (kM rfl rfl (kM rfl rfl (kL (fun a H=>Ez.addI (r:=((m+n:Nat):Int)) H rfl rfl (by omega) (by omega)) rfl ?_)))));clear H a;intro a H
 refine wk H cf82 (J9 q1 n1 c1 (m+n) Z1 w (hz1.cd hC) (by omega)) rfl rfl ?_
 rintro _ w1 ⟨q',c',X1,rfl,h1,h2,h3⟩
 refine ⟨_,rfl,?_⟩;clear H a;intro a H
 have hle:=h1.le
 have hlx:=hx.le
 have hly:=hy.le
 obtain ⟨b,rfl,_,hW⟩:=h1.blk (by omega)
 obtain ⟨bx,hqx,_,hWx⟩:=((hx.cd hC).frN h3).blk (by omega)
 obtain ⟨by_,hqy,_,hWy⟩:=((hy.cd hC).frN h3).blk (by omega)
 have hbx:bx≠b:=fun e=>by
  rcases h2 b 0 (Qt.2 rfl) with h | h
  ·exact Sh.of_not hz1 hx hns.1 h (show TQ qx b 0 by rw [hqx,e];exact Qt.2 rfl)
  have:=(hx.cd hC).lt (show TQ qx b 0 by rw [hqx,e];exact Qt.2 rfl);omega
 have hby:by_≠b:=fun e=>by
  rcases h2 b 0 (Qt.2 rfl) with h | h
  ·exact Sh.of_not hz1 hy hns.2 h (show TQ qy b 0 by rw [hqy,e];exact Qt.2 rfl)
  have:=(hy.cd hC).lt (show TQ qy b 0 by rw [hqy,e];exact Qt.2 rfl);omega
 have hg1:=h3.someCell ((hC.cell hg)) (fun f=>f)
 rw [hqx,hqy] at H
 refine wl H (Ez.asn H rfl) rfl (kP [(0,_),(2,_),(3,_),(9,_),(10,_)] rfl (kW (kS (kS (kR [_,_,_] (kM rfl rfl (kL (fun a H=>Ez.ld3 H rfl (hg1)) rfl (kL (fun a H=>Ez.lss (r:=true) H rfl rfl (by (simp;omega))) rfl (kP [(0,_),(2,_),(3,_),(9,_),(10,_),(59,_)] rfl (kW ?_))))))))));clear H a;intro a H
 refine Ct (H.o rfl) (Sq (Rl [_,_,_,_] (wl H (Ez.mv H rfl) rfl (kM rfl rfl (kM rfl rfl ?_)))));clear H a;intro a H
 refine wk H cf159 (basicMul b c' bx cx by_ cy (m+n) m n cx cy X1 X Y w1 hW hWx hWy hbx hby (Nat.le_refl _) (by omega) (by omega) (by omega) (by omega) (by omega) (by omega)) rfl rfl ?_
 rintro _ w1 ⟨Z',rfl,a1,a2,a3,a4⟩
 refine ⟨_,rfl,?_⟩;clear H a;intro a H
 refine kP [(0,_),(2,_),(3,_),(9,_),(10,_)] rfl (kW (kS (kR [_,_,_] (kM rfl rfl ?_)))) a H;clear H a;intro a H
 refine wk H cf84 (Kc _ (m+n) c' Z' _ (Sl.of a1 hle (by omega)) (by omega)) rfl rfl ?_
 rintro _ w1 ⟨j,rfl,k1,k2,k3,k4,rfl⟩
 refine ⟨_,rfl,?_⟩;clear H a;intro a H
 refine wl H (Ez.asn H rfl) rfl (kP [(0,_),(2,_),(3,_),(8,_),(9,_),(10,_)] rfl (kW ?_));clear H a;intro a H
 refine Wr (thr ?_)
 refine rtD1 H rfl rfl ?_
 refine ⟨_,j,c',Z',rfl,k2,by omega,by rw [k3,a3],k4,ho1.trans h2 (by rw [hC.heap];exact Nat.le_refl _),?_⟩
 exact (((hC.fr _).trans (h3.noT)).trans a4.blq).own (ho1.trans h2 (by rw [hC.heap];exact Nat.le_refl _))
theorem natMul (q qx qy:Option Addr) (n0 c0 m cx n cy:Nat) (Z X Y:Nat->Int) (w:World) (hz:Sl w q n0 c0 Z) (hx:Sl w qx m cx X) (hy:Sl w qy n cy Y) (hg:w.cell? ⟨4,0,none⟩=some (.int .i64 40)) (hm:m < 40) (hn:n < 40):
 Calls Tryz.prog 140 #[.slice q n0 c0,.pointer none,.slice qx m cx,.slice qy n cy] w fun e w'=>∃q' k c' X',e=.returned (.slice q' k c')/\Sl w' q' k c' X'/\k<=m+n+1/\nv X' k=nv X m*nv Y n/\Nm X' k/\Own w q q'/\Fr (TQ q) w w':=by
 by_cases hmn:n<=m
 ·exact natMul1 q qx qy n0 c0 m cx n cy Z X Y w hz hx hy hg hmn hm
 refine enterD (vs:= [.slice q n0 c0,.pointer none,.slice qx m cx,.slice qy n cy]) Tryz.func140 rfl rfl ?_
 intro a H
 replace H:Hd a 121 [] [(0,.slice q n0 c0),(1,.pointer none),(2,.slice qx m cx),(3,.slice qy n cy)]:=H
 refine Sq (Rl [_] (wl H (Ez.asn H rfl) rfl (kW (kS (kR [_,_,_] (kM rfl rfl (kL (fun a H=>Ez.len80 H rfl) rfl (kA rfl rfl (kP [(0,_),(1,_),(2,_),(3,_),(8,_),(9,_)] rfl (kW (kS (kR [_,_,_] (kM rfl rfl (kL (fun a H=>Ez.len80 H rfl) rfl (kA rfl rfl (kP [(0,_),(1,_),(2,_),(3,_),(8,_),(9,_),(10,_)] rfl (kW (kS ?_))))))))))))))))));clear H a;intro a H
 refine Wb (Sq (Rl [_,_,_,_] (wl H (Ez.mv H rfl) rfl (kM rfl rfl (kL (fun a H=>Ez.lss (r:=true) H rfl rfl (by (simp;omega))) rfl (kA rfl rfl (kP [(0,_),(1,_),(2,_),(3,_),(8,_),(9,_),(10,_),(17,_)] rfl (kW ?_))))))));clear H a;intro a H
 refine Ct (H.o rfl) (Sq (Rl [_,_,_,_,_,_] (wl H (Ez.mv H rfl) rfl (kM rfl rfl (kM rfl rfl (kM rfl rfl ?_))))));clear H a;intro a H
 refine wk H cf140 (natMul1 q qy qx n0 c0 n cy m cx Z Y X w hz hy hx hg (by omega) hn) rfl rfl ?_
 rintro _ w1 ⟨q',k,c',X',rfl,h1,h2,h3,h4,h5,h6⟩
 refine ⟨_,rfl,?_⟩;clear H a;intro a H
 refine wl H (Ez.asn H rfl) rfl (kP [(0,_),(1,_),(2,_),(3,_),(8,_),(9,_),(10,_)] rfl (kW ?_));clear H a;intro a H
 refine Wr (bret (thr ?_))
 refine rtD1 H rfl rfl ?_
 exact ⟨q',k,c',X',rfl,h1,by omega,by rw [h3,Int.mul_comm],h4,h5,h6⟩
theorem natDivW (q qx:Option Addr) (n0 c0 m cx y:Nat) (Z X:Nat->Int) (w:World) (hz:Sl w q n0 c0 Z) (hx:Sl w qx m cx X) (hm:m < 100000000) (hy:y < 18446744073709551616) (hy0:0 < y) (hNx:Nm X m):
 Calls Tryz.prog 115 #[.slice q n0 c0,.slice qx m cx,.int .u64 y] w fun e w'=>∃q' k c' X' r,e=.returned (.tuple #[.slice q' k c',.int .u64 r])/\Sl w' q' k c' X'/\k<=m/\nv X m=nv X' k*y+r/\(0<=r/\r < y)/\Nm X' k/\Own w q q'/\Fr (TQ q) w w':=by
 refine Qd (vs:= [.slice q n0 c0,.slice qx m cx,.int .u64 y]) Tryz.func115 rfl rfl ?_
 intro a H
 replace H:Hd a 35 [] [(0,.slice q n0 c0),(1,.slice qx m cx),(2,.int .u64 y)]:=H
 refine Sq (Rl [_,_] (wl H (Ez.asn H rfl) rfl (kA rfl rfl (kW (kS (kR [_,_,_] (kM rfl rfl (kL (fun a H=>Ez.len80 H rfl) rfl (kA rfl rfl (kP [(0,_),(1,_),(2,_),(6,_),(7,_),(8,_)] rfl (kW (kS ?_))))))))))));clear H a;intro a H
 refine Wb (Sq (Rl [_,_,_] (wl H (Ez.mv H rfl) rfl (kL (fun a H=>Ez.eql (r:=false) H rfl rfl (by (simp;omega))) rfl (kA rfl rfl (kP [(0,_),(1,_),(2,_),(6,_),(7,_),(8,_),(11,_)] rfl (kW ?_)))))));clear H a;intro a H
 refine Cf (H.o rfl) (Sq (Rl [_,_,_] (wl H (Ez.mv H rfl) rfl (kL (fun a H=>Ez.eql H rfl rfl (rfl)) rfl (kA rfl rfl (kP [(0,_),(1,_),(2,_),(6,_),(7,_),(8,_),(15,_)] rfl (kW ?_)))))));clear H a;intro a H
 refine Cs (H.o rfl) (fun hb1=>?_) (fun hb1=>?_)
 ·have hy1:y=1:=by simp at hb1;omega
  refine Sq (Rl [_,_,_,_] (wl H (Ez.mv H rfl) rfl (kM rfl rfl ?_)));clear H a;intro a H
  refine wk H cf94 (natSet q qx n0 c0 m cx Z X w hz hx (by omega)) rfl rfl ?_
  rintro _ w1 ⟨q',c',X',rfl,h1,h2,h3,h4⟩
  refine ⟨_,rfl,?_⟩;clear H a;intro a H
  refine wl H (Ez.asn H rfl) rfl (kP [(0,_),(1,_),(2,_),(6,_),(7,_),(8,_)] rfl (kW ?_));clear H a;intro a H
  refine Wr (bret (thr ?_))
  refine rt2 H rfl rfl rfl ?_
  exact ⟨q',m,c',X',0,rfl,h1,Nat.le_refl _,by rw [Ja m h2,hy1];simp,by omega,hNx.congr h2,h3,h4⟩
 have hy1:2<=y:=by simp at hb1;omega
 refine Sq (Rl [_,_,_] (wl H (Ez.mv H rfl) rfl (kL (fun a H=>Ez.eql H rfl rfl (rfl)) rfl (kA rfl rfl (kP [(0,_),(1,_),(2,_),(6,_),(7,_),(8,_),(21,_)] rfl (kW ?_))))));clear H a;intro a H
 refine Cs (H.o rfl) (fun hb2=>?_) (fun hb2=>?_)
 ·have hm0:m=0:=by simp at hb2;omega
  refine Sq (Rl [_,_,_] (wl H (Ez.mv H rfl) rfl (kL (fun a H=>Ez.slH80 H rfl rfl 0 rfl (Nat.zero_le _)) rfl (kA rfl rfl (kP [(0,_),(1,_),(2,_),(6,_),(7,_),(8,_)] rfl (kW ?_))))));clear H a;intro a H
  refine Wr (bret (thr ?_))
  refine rt2 H rfl rfl rfl ?_
  exact ⟨q,0,c0,Z,0,rfl,hz.cut (Nat.zero_le _),by omega,by subst hm0;simp [nv],by omega,.inl rfl,Own.refl _ _,Fr.refl _ _⟩
 have hm0:0 < m:=by simp at hb2;omega
 refine Wk0 (bn (thn (Sq (Rl [_,_,_,_] (wl H (Ez.mv H rfl) rfl (kM rfl rfl ?_))))));clear H a;intro a H
 refine wk H cf82 (J9 q n0 c0 m Z w hz (by omega)) rfl rfl ?_
 rintro _ w1 ⟨q',c',X1,rfl,h1,h2,h3⟩
 refine ⟨_,rfl,?_⟩;clear H a;intro a H
 have hle:=h1.le
 have hlx:=hx.le
 obtain ⟨b,rfl,_,hW⟩:=h1.blk (by omega)
 obtain ⟨bx,rfl,_,hWx⟩:=(hx.frN h3).blk (by omega)
 refine wl H (Ez.asn H rfl) rfl (kP [(0,_),(1,_),(2,_),(6,_),(7,_)] rfl (kW (kS (kR [_,_,_,_,_] (kM rfl rfl (kM rfl rfl (kM rfl rfl ?_)))))));clear H a;intro a H
 refine wk H cf128 (divWVW b 0 c' bx 0 cx m c' cx y X1 X 0 w1 hW hWx (fun _=>rfl) (by omega) (by omega) (by omega) (by omega) hy (by omega)) rfl rfl ?_
 rintro _ w1 ⟨r,Z1,rfl,a1,a2,a3,a4,a5⟩
 refine ⟨_,rfl,?_⟩;clear H a;intro a H
 refine wl H (Ez.asn H rfl) rfl (kP [(0,_),(6,_),(7,_)] rfl (kW (kS (kR [_,_,_] (kM rfl rfl ?_)))));clear H a;intro a H
 refine wk H cf84 (Kc _ m c' Z1 _ (Sl.of a1 hle (by omega)) (by omega)) rfl rfl ?_
 rintro _ w1 ⟨j,rfl,k1,k2,k3,k4,rfl⟩
 refine ⟨_,rfl,?_⟩;clear H a;intro a H
 refine wl H (Ez.asn H rfl) rfl (kP [(6,_),(7,_)] rfl (kW ?_));clear H a;intro a H
 refine Wr ?_
 refine rt2 H rfl rfl rfl ?_
 refine ⟨_,j,c',Z1,r,rfl,k2,k1,?_,a4,k4,h2,(h3.noT.trans a5.blq).own h2⟩
 rw [k3];rw [Qm,Qm] at a3;omega
end
section
set_option maxRecDepth 8000
theorem Wk.grown (w:World) (n g:Nat) (hg:n<=g) (hm:g<=9223372036854775807):
 Wk (w.drew.alloc (.cells (Builtin.zeroCells (Value.int .u64 0).cells n++Builtin.zeroCells (Value.int .u64 0).cells (g - n)) 103)) w.heap.size g (fun _=>0):=by
 refine ⟨?_,fun _ _=>⟨by decide,by decide⟩,hm⟩
 have e:Builtin.zeroCells (Value.int .u64 0).cells n++Builtin.zeroCells (Value.int .u64 0).cells (g - n)=Array.ofFn fun j:Fin g=>Value.int .u64 ((fun _=>0:Nat->Int) j):=by
  apply Array.ext
  ·simp [size_zeroCells,Value.cells];omega
  intro i h1 h2
  rw [Array.getElem_append]
  simp only [Builtin.zeroCells,Array.getElem_map,Array.getElem_range,Array.getElem_ofFn,Value.cells]
  split
  ·show #[Value.int .u64 0][i % 1]! =_
   rw [Nat.mod_one];rfl
  show #[Value.int .u64 0][_ % 1]! =_
  rw [Nat.mod_one];rfl
 rw [e]
 exact heap_alloc_new w.drew _
namespace Ez
section
variable {a:Act} {N:Nat} {ds:List Deferred} {l:Env} {w:World} {d:Option Nat} {ty:TypeId} {pos:String} {after:Array Edge} {g:Option (Nat × Bool)}
theorem apz (H:Hd a N ds l) {x y:Operand} {i:Int} {T:TypeId} (hT:T=79\/T=80) (h:ov l x=some (.slice none 0 0)) (h':ov l y=some (.int .i64 i)) (n:Nat) (hi:i=(n:Int)) (h0:0 < n) (hn:n < 1000000000):
 ∃w' c,(execOp a.eval ⟨d,.call { callee:=.builtin .append,args:=#[x,y],argTypes:=#[T,3]},ty,pos,after,g⟩).run Tryz.prog w=.ok (.value (.slice (some ⟨w.heap.size,0,none⟩) n c)) w'/\
  n<=c/\Wk w' w.heap.size c (fun _=>0)/\Fr NoT w w':=by
 subst hi
 obtain ⟨ti,h1,h2,h3,h4⟩:=word_info
 have hu:Tryz.prog.underlying T=some (.slice 103):=by rcases hT with rfl | rfl <;> kernel_rfl
 have happ:=Lib.run_append_nil_zeros (P:=Tryz.prog) w T 3 ty 103 ti (.int .u64 0) .i64 .i64 hu (by kernel_rfl) h1 h2 n h0 (by rw [h4];omega) (by omega) (by rw [h3];omega)
 have hcapge:n<=grownCap w n 0 103:=grownCap_ge w _ 0 103
 have hcaple:grownCap w n 0 103<=maxLen:=grownCap_le_maxLen w _ 0 103 (by unfold maxLen;omega)
 refine ⟨_,grownCap w n 0 103,?_,hcapge,Wk.grown w n _ hcapge (by unfold maxLen at hcaple;omega),(((Fr.refl NoT w).drew).alloc _)⟩
 have e:=H.o h
 have e':=H.o h'
 revert e e';generalize a.eval=ρ;intro e e'
 have hm:(#[x,y]:Array Operand).map ρ=#[.slice none 0 0,.int .i64 n]:=by simp [e,e']
 simp only [execOp,resolve,invoke,hm,Sem.run_bind,Sem.run_pure,Result.andThen,builtin,happ]
theorem al175:(execOp a.eval ⟨d,.alloc 175,ty,pos,after,g⟩).run Tryz.prog w=.ok (.value (.pointer (some ⟨w.heap.size,0,none⟩))) (w.alloc (.cells #[.slice none 0 0] 175)):=by
 simp only [execOp];go_simp
theorem bld156:(execOp a.eval ⟨d,.build 156 #[],ty,pos,after,g⟩).run Tryz.prog w=.ok (.value (.agg #[.pointer none])) w:=by
 simp only [execOp];go_simp
theorem box156 (H:Hd a N ds l) {x:Operand} (h:ov l x=some (.agg #[.pointer none])):(execOp a.eval ⟨d,.box 156 x,ty,pos,after,g⟩).run Tryz.prog w=.ok (.value (.pointer (some ⟨w.heap.size,0,none⟩))) (w.alloc (.cells #[.pointer none] 156)):=by
 have e:=H.o h
 simp only [execOp,e];go_simp
theorem eqN (H:Hd a N ds l) {x y:Operand} {T u:TypeId} {q:Option Addr} {r:Bool} (hT:T=133\/T=154) (h:ov l x=some (.pointer q)) (h':ov l y=some (.pointer none)) (hr:q.isNone=r):(execOp a.eval ⟨d,.binOp .eql T x y u,ty,pos,after,g⟩).run Tryz.prog w=.ok (.value (.bool r)) w:=by
 have e:=H.o h
 have e':=H.o h'
 subst hr
 rcases hT with rfl | rfl <;> cases q <;> (simp only [execOp,e,e'];go_simp)
theorem neN (H:Hd a N ds l) {x y:Operand} {T u:TypeId} {q:Option Addr} {r:Bool} (hT:T=133\/T=154) (h:ov l x=some (.pointer q)) (h':ov l y=some (.pointer none)) (hr:q.isSome=r):(execOp a.eval ⟨d,.binOp .neq T x y u,ty,pos,after,g⟩).run Tryz.prog w=.ok (.value (.bool r)) w:=by
 have e:=H.o h
 have e':=H.o h'
 subst hr
 rcases hT with rfl | rfl <;> cases q <;> (simp only [execOp,e,e'];go_simp)
theorem slLHM79 (H:Hd a N ds l) {x y z u:Operand} {b n c:Nat} {k k' k'':IntKind} {i i' i'':Int} (h:ov l x=some (.slice (some ⟨b,0,none⟩) n c)) (h':ov l y=some (.int k i)) (h'':ov l z=some (.int k' i')) (h3:ov l u=some (.int k'' i'')) (hi:i=0) (j:Nat) (hj:i'=(j:Int)) (hj':i''=(j:Int)) (hn:j<=c) (h0:0 < c):
 (execOp a.eval ⟨d,.slice 79 x (some y) (some z) (some u),ty,pos,after,g⟩).run Tryz.prog w=.ok (.value (.slice (some ⟨b,0,none⟩) j j)) w:=by
 have e:=H.o h
 have e':=H.o h'
 have e'':=H.o h''
 have e3:=H.o h3
 subst hi;subst hj;subst hj'
 have q2:(Instr.sliceAt 79 (.slice (some ⟨b,0,none⟩) n c) (some (.int k 0)) (some (.int k' (j:Int))) (some (.int k'' (j:Int)))).run Tryz.prog w=.ok (.slice (some ⟨b,0,none⟩) j j) w:=by
  have h1:(j:Int)<=(c:Int):=by omega
  have h2:¬(c:Int) < (j:Int):=by omega
  go_simp
  all_goals (try simp [sliced,Addr.add,Instr.sliceAt])
  all_goals (try omega)
 simp only [execOp,e,e',e'',e3,Option.map,Sem.run_bind,q2,Result.andThen];rfl
theorem dfr (H:Hd a N ds l) {f:FuncId} {xs:Array Operand} {ts:Array TypeId} {vs:List Value} (hx:xs.toList.map (ov l)=vs.map some):
 (execOp a.eval ⟨d,.defer { callee:=.value (.func f),args:=xs,argTypes:=ts},ty,pos,after,g⟩).run Tryz.prog w=.ok (.defer { target:=.fn (.func f) #[],args:=vs.toArray}) w:=by
 have hm:xs.map a.eval=vs.toArray:=by
  apply Array.toList_inj.mp
  simp only [Array.toList_map]
  revert hx;generalize xs.toList=L;intro hx
  have:∀(L:List Operand) (vs:List Value),L.map (ov l)=vs.map some->L.map a.eval=vs:=by
   intro L;induction L with
   | nil=>intro vs h;cases vs <;> simp_all
   | cons y ys ih=>
     intro vs h
     cases vs with
     | nil=>simp at h
     | cons v vs=>simp only [List.map_cons,List.cons.injEq] at h ⊢;exact ⟨H.o h.1,ih vs h.2⟩
  exact this L vs hx
 simp [execOp,resolve,hm,Deferred.ofValue,Act.eval]
end
end Ez
theorem enterX {P:Program} {f:FuncId} {fn:Func} {c:Code} {vs:List Value} {w:World} {u:FrameMode} {R:Ending->World->Prop} (hf:P.funcs[f]?=some fn) (hb:fn.body=some c) (hn:Nat.ble vs.length fn.ntmps=true)
 (h:∀a:Act,Hd a fn.ntmps [] (args0 0 vs)->c.wp P (bodyPost P fn R) a w):CallsD P f vs.toArray u w fun e u' w'=>u'=u/\R e w':=
 callsD_of_wp hf hb (h _ (enter_hd vs fn.ntmps (by simpa using hn)))
theorem leave {fn:Func} {R:Ending->World->Prop} {tmps:Array Value} {w:World} {f:FuncId} {vs:Array Value} {ds:List Deferred} {S:World->Prop}
 (hF:∀args w,(callFunc f args).run Tryz.prog w=.ok (.enter f args) w) (hc:CallsD Tryz.prog f vs .returning w fun e u' w'=>u'=.returning/\e=.returned (.tuple #[])/\S w')
 (h:∀w',S w'->Leaves Tryz.prog fn tmps R ds .returning w'):Leaves Tryz.prog fn tmps R (⟨.fn (.func f) #[],vs⟩::ds) .returning w:=by
 refine leaves_cons (f:=f) (args:=vs) (by simp) ?_ ?_
 ·simp [invoke,hF]
 refine hc.mono ?_
 rintro _ _ w' ⟨rfl,rfl,hS⟩
 exact h w' hS
theorem lvd {fn:Func} {R:Ending->World->Prop} {a:Act} {w:World} {N:Nat} {ds:List Deferred} {l:Env} (H:Hd a N ds l) (h:Leaves Tryz.prog fn a.tmps R ds .returning w):bodyPostD Tryz.prog fn R .ret a w:=by
 show Leaves Tryz.prog fn a.tmps R a.defers .returning w
 rw [H.df];exact h
theorem lvn {fn:Func} {R:Ending->World->Prop} {a:Act} {w:World} {N:Nat} {ds:List Deferred} {l:Env} (H:Hd a N ds l) (h:Leaves Tryz.prog fn a.tmps R ds .returning w):bodyPostD Tryz.prog fn R .normal a w:=by
 show Leaves Tryz.prog fn a.tmps R a.defers .returning w
 rw [H.df];exact h
theorem lv2 {fn:Func} {R:Ending->World->Prop} {a:Act} {w:World} {N:Nat} {ds:List Deferred} {l:Env} {t u:Tmp} {v x:Value} (H:Hd a N ds l) (h:fn.results=#[.tmp t,.tmp u]) (hv:lk l t=some v) (hx:lk l u=some x) (hR:R (.returned (.tuple #[v,x])) w):Leaves Tryz.prog fn a.tmps R [] .returning w:=by
 refine ⟨.tuple #[v,x],?_,hR⟩
 rw [<-H.g _ _ hv,<-H.g _ _ hx];exact results_tmp2 h _ _ _
theorem lv0 {fn:Func} {R:Ending->World->Prop} {a:Act} {w:World} {N:Nat} {ds:List Deferred} {l:Env} (H:Hd a N ds l) (h:fn.results=#[]) (hR:R (.returned (.tuple #[])) w):Leaves Tryz.prog fn a.tmps R [] .returning w:=
 ⟨.tuple #[],results_none h _ _ _,hR⟩
def StN (w:World) (bs:Nat):Prop:=w.cell? ⟨bs,0,none⟩=some (.pointer none)/\w.frozen? ⟨bs,0,none⟩=false
def Stk (B:Nat) (w:World) (bs:Nat):Prop:=StN w bs\/∃bi q n c,w.cell? ⟨bs,0,none⟩=some (.pointer (some ⟨bi,0,none⟩))/\B<=bi/\bi≠bs/\w.cell? ⟨bi,0,none⟩=some (.slice q n c)/\w.frozen? ⟨bi,0,none⟩=false
def Hi (B:Nat):Nat->Nat->Prop:=fun k _=>B<=k
theorem StN.fr {w w':World} {bs:Nat} {T:Nat->Nat->Prop} (h:StN w bs) (hF:Fr T w w') (hT:¬T bs 0):StN w' bs:=
 ⟨hF.someCell h.1 hT,by rw [hF.frozen _ _ (Bl0 w _ h.1)];exact h.2⟩
theorem Stk.fr {w w':World} {bs B:Nat} {T:Nat->Nat->Prop} (h:Stk B w bs) (hF:Fr T w w') (hT:¬T bs 0) (hT':∀k,B<=k->k < w.heap.size->T k 0->False):Stk B w' bs:=by
 rcases h with h | ⟨bi,q,n,c,h1,h2,h3,h4,h5⟩
 ·exact .inl (h.fr hF hT)
 have hlt:=Bl0 w _ h4
 exact .inr ⟨bi,q,n,c,hF.someCell h1 hT,h2,h3,hF.someCell h4 (fun ht=>hT' bi h2 hlt ht),by rw [hF.frozen _ _ hlt];exact h5⟩
theorem Stk.mono {B B':Nat} {w:World} {bs:Nat} (h:Stk B w bs) (hB:B'<=B):Stk B' w bs:=by
 rcases h with h | ⟨bi,q,n,c,h1,h2,h3⟩
 ·exact .inl h
 exact .inr ⟨bi,q,n,c,h1,by omega,h3⟩
theorem Fr.hi {T:Nat->Nat->Prop} {w w1 w2:World} (h:Fr T w w1) (h':Fr (Hi w.heap.size) w1 w2):Fr T w w2:=
 (((h.mono (T:=fun k o=>T k o\/w.heap.size<=k) fun _ _ _ ht=>.inl ht).trans (h'.mono fun _ _ _ ht=>.inr ht))).mono fun k o hk ht=>by
   rcases ht with ht | ht
   ·exact ht
   omega
theorem Fr.plus {T:Nat->Nat->Prop} {w w1 w2:World} {b:Nat} (h:Fr T w w1) (h':Fr (Bl b) w1 w2) (hb:w.heap.size<=b):Fr T w w2:=
 h.hi (h'.mono fun k o _ ht=>by have:k=b:=ht;show w.heap.size<=k;omega)
end
section
set_option maxRecDepth 8000
theorem newCell (w:World) (v:Value) (t:TypeId) {b:Nat} (hb:b=w.heap.size):(w.alloc (.cells #[v] t)).cell? ⟨b,0,none⟩=some v/\(w.alloc (.cells #[v] t)).frozen? ⟨b,0,none⟩=false:=by
 have h:(w.alloc (.cells #[v] t)).heap[b]?=some (.cells #[v] t (0,0)):=by rw [hb];exact heap_alloc_new w _
 exact ⟨by simp [World.cell?,h],by simp [World.frozen?,h]⟩
theorem getStack (w:World):
 Calls Tryz.prog 117 #[] w fun e w'=>∃bs,e=.returned (pz bs)/\w.heap.size<=bs/\StN w' bs/\Fr NoT w w':=by
 refine Qd (vs:= []) Tryz.func117 rfl rfl ?_
 intro a H
 replace H:Hd a 3 [] []:=H
 refine Sq (Rl [_] (wl H (Ez.asn H rfl) rfl (kW (kS (kR [_,_,_] (kL (fun a H=>Ez.bld156) rfl (kL (fun a H=>Ez.box156 H rfl) rfl (kA rfl rfl (kP [(0,_)] rfl (kW ?_))))))))));clear H a;intro a H
 refine Wr ?_
 refine rt1 H rfl rfl ?_
 refine ⟨_,rfl,Nat.le_refl _,newCell w _ _ rfl,(Fr.refl NoT w).alloc _⟩
theorem siFree (bi n c:Nat) (q:Option Addr) (w:World) (hc:w.cell? ⟨bi,0,none⟩=some (.slice q n c)) (hf:w.frozen? ⟨bi,0,none⟩=false):
 Calls Tryz.prog 129 #[pz bi] w fun e w'=>e=.returned (.tuple #[])/\w'=w.setCell ⟨bi,0,none⟩ (.slice q 0 c):=by
 refine Qd (vs:= [pz bi]) Tryz.func129 rfl rfl ?_
 intro a H
 replace H:Hd a 10 [] [(0,pz bi)]:=H
 refine Rl [_,_,_,_,_,_,_,_,_] (wl H (Ez.mv H rfl) rfl (kM rfl rfl (kN rfl rfl (kL (fun a H=>Ez.fa175_0 H rfl) rfl (kL (fun a H=>Ez.ld79 H rfl (by assumption)) rfl (kL (fun a H=>Ez.slH79 H rfl rfl 0 rfl (Nat.zero_le _)) rfl (kN rfl rfl (kL (fun a H=>Ez.fa175_0 H rfl) rfl ?_))))))));clear H a;intro a H
 refine wls H (Ez.st79 H rfl rfl rfl hc hf) ?_;clear H;intro H
 replace H:Hd a 10 [] []:=H.pick []
 refine Wn ?_
 refine rtn0 H rfl ?_
 exact ⟨rfl,rfl⟩
theorem siRestore (bi n c:Nat) (q:Option Addr) (w:World) (hc:w.cell? ⟨bi,0,none⟩=some (.slice q n c)) (hf:w.frozen? ⟨bi,0,none⟩=false):
 Calls Tryz.prog 148 #[pz bi,.int .i64 0] w fun e w'=>e=.returned (.tuple #[])/\w'=w.setCell ⟨bi,0,none⟩ (.slice q 0 c):=by
 refine Qd (vs:= [pz bi,.int .i64 0]) Tryz.func148 rfl rfl ?_
 intro a H
 replace H:Hd a 13 [] [(0,pz bi),(1,.int .i64 0)]:=H
 refine Rl [_,_,_,_,_,_,_,_,_,_] (wl H (Ez.mv H rfl) rfl (kM rfl rfl (kN rfl rfl (kL (fun a H=>Ez.fa175_0 H rfl) rfl (kL (fun a H=>Ez.ld79 H rfl (by assumption)) rfl (kM rfl rfl (kL (fun a H=>Ez.slH79 H rfl rfl 0 rfl (Nat.zero_le _)) rfl (kN rfl rfl (kL (fun a H=>Ez.fa175_0 H rfl) rfl ?_)))))))));clear H a;intro a H
 refine wls H (Ez.st79 H rfl rfl rfl hc hf) ?_;clear H;intro H
 replace H:Hd a 13 [] []:=H.pick []
 refine Wn ?_
 refine rtn0 H rfl ?_
 exact ⟨rfl,rfl⟩
theorem Stk.setI {B:Nat} {w:World} {bs bi:Nat} {q:Option Addr} {n c n':Nat} (h1:w.cell? ⟨bs,0,none⟩=some (.pointer (some ⟨bi,0,none⟩))) (h2:B<=bi) (h3:bi≠bs) (h4:w.cell? ⟨bi,0,none⟩=some (.slice q n c)) (h5:w.frozen? ⟨bi,0,none⟩=false):
 Stk B (w.setCell ⟨bi,0,none⟩ (.slice q n' c)) bs/\Fr (Hi B) w (w.setCell ⟨bi,0,none⟩ (.slice q n' c)):=by
 refine ⟨.inr ⟨bi,q,n',c,?_,h2,h3,?_,?_⟩,(Fr.refl (Hi B) w).setCell (fun _=>h2) _⟩
 ·rw [Co _ _ _ _ (by intro e;injection e with e;exact h3 e)];exact h1
 ·exact World.cell?_setCell_same _ _ _ (by rw [h4])
 rw [World.frozen?_setCell];exact h5
def Kp (w w':World):Prop:=∀b c X,0 < c->Wk w b c X->Wk w' b c X
theorem Kp.refl (w:World):Kp w w:=fun _ _ _ _ h=>h
theorem Kp.setS {w:World} {bi:Nat} {q:Option Addr} {n c:Nat} {v:Value} (h:w.cell? ⟨bi,0,none⟩=some (.slice q n c)):Kp w (w.setCell ⟨bi,0,none⟩ v):=fun b c X hc hW=>hW.other (p:=⟨bi,0,none⟩) (fun e=>by
 have e:b=bi:=e
 subst e
 rw [hW.cell (j:=0) hc] at h;cases h) v
theorem Sl.kp {w w':World} {q:Option Addr} {n c:Nat} {X:Nat->Int} (h:Sl w q n c X) (hk:Kp w w'):Sl w' q n c X:=by
 rcases h with h | ⟨b,h0,h1,hc,h2⟩
 ·exact .inl h
 exact .inr ⟨b,h0,h1,hc,hk _ _ _ hc h2⟩
theorem stkFree (bs B:Nat) (w:World) (hS:Stk B w bs):
 CallsD Tryz.prog 118 #[.pointer (some ⟨bs,0,none⟩)] .returning w fun e u w'=>u=.returning/\e=.returned (.tuple #[])/\Fr (Hi B) w w'/\Kp w w':=by
 refine enterX (vs:= [.pointer (some ⟨bs,0,none⟩)]) Tryz.func118 rfl rfl ?_
 intro a H
 replace H:Hd a 11 [] [(0,.pointer (some ⟨bs,0,none⟩))]:=H
 refine Sq ?_
 rcases hS with ⟨hc,hfz⟩ | ⟨bi,q,n,c,hc,hB,hne,hci,hfi⟩
 ·refine Rl [_,_,_,_,_] (wl H (Ez.mv H rfl) rfl (kN rfl rfl (kL (fun a H=>Ez.fa156_0 H rfl) rfl (kL (fun a H=>Ez.ld154 H rfl (hc)) rfl (kA rfl rfl (kP [(2,_)] rfl (kW (kS (kR [_,_] (kM rfl rfl (kL (fun a H=>Ez.neN H (.inr rfl) rfl rfl (r:=false) rfl) rfl (kP [(2,_),(8,_)] rfl (kW ?_)))))))))))));clear H a;intro a H
  refine Cf (H.o rfl) (Wk0 ?_)
  refine rtn0 H rfl ?_
  exact ⟨rfl,Fr.refl _ _,Kp.refl _⟩
 refine Rl [_,_,_,_,_] (wl H (Ez.mv H rfl) rfl (kN rfl rfl (kL (fun a H=>Ez.fa156_0 H rfl) rfl (kL (fun a H=>Ez.ld154 H rfl (hc)) rfl (kA rfl rfl (kP [(2,_)] rfl (kW (kS (kR [_,_] (kM rfl rfl (kL (fun a H=>Ez.neN H (.inr rfl) rfl rfl (r:=true) rfl) rfl (kP [(2,_),(8,_)] rfl (kW ?_)))))))))))));clear H a;intro a H
 refine Ct (H.o rfl) (Rl [_,_] (wl H (Ez.mv H rfl) rfl ?_));clear H a;intro a H
 refine wk H cf129 (siFree bi n c q w hci hfi) rfl rfl ?_
 rintro _ w1 ⟨rfl,rfl⟩
 refine ⟨_,rfl,?_⟩;clear H a;intro a H
 replace H:Hd a 11 [] []:=H.pick []
 refine Wn ?_
 refine rtn0 H rfl ?_
 exact ⟨rfl,(Stk.setI hc hB hne hci hfi).2,Kp.setS hci⟩
theorem stkRestore (bs B:Nat) (w:World) (hS:Stk B w bs):
 CallsD Tryz.prog 130 #[.pointer (some ⟨bs,0,none⟩),.int .i64 0] .returning w fun e u w'=>u=.returning/\e=.returned (.tuple #[])/\Stk B w' bs/\Fr (Hi B) w w'/\Kp w w':=by
 refine enterX (vs:= [.pointer (some ⟨bs,0,none⟩),.int .i64 0]) Tryz.func130 rfl rfl ?_
 intro a H
 replace H:Hd a 14 [] [(0,.pointer (some ⟨bs,0,none⟩)),(1,.int .i64 0)]:=H
 refine Sq ?_
 rcases hS with ⟨hc,hfz⟩ | ⟨bi,q,n,c,hc,hB,hne,hci,hfi⟩
 ·refine Rl [_,_,_,_,_] (wl H (Ez.mv H rfl) rfl (kN rfl rfl (kL (fun a H=>Ez.fa156_0 H rfl) rfl (kL (fun a H=>Ez.ld154 H rfl (hc)) rfl (kA rfl rfl (kP [(1,_),(4,_)] rfl (kW (kS (kS (kR [_,_] (kM rfl rfl (kL (fun a H=>Ez.eqN H (.inr rfl) rfl rfl (r:=true) rfl) rfl (kP [(1,_),(4,_),(10,_)] rfl (kW ?_))))))))))))));clear H a;intro a H
  refine Ct (H.o rfl) (Wr (thr ?_))
  refine rt0 H rfl ?_
  exact ⟨rfl,.inl ⟨hc,hfz⟩,Fr.refl _ _,Kp.refl _⟩
 refine Rl [_,_,_,_,_] (wl H (Ez.mv H rfl) rfl (kN rfl rfl (kL (fun a H=>Ez.fa156_0 H rfl) rfl (kL (fun a H=>Ez.ld154 H rfl (hc)) rfl (kA rfl rfl (kP [(1,_),(4,_)] rfl (kW (kS (kS (kR [_,_] (kM rfl rfl (kL (fun a H=>Ez.eqN H (.inr rfl) rfl rfl (r:=false) rfl) rfl (kP [(1,_),(4,_),(10,_)] rfl (kW ?_))))))))))))));clear H a;intro a H
 refine Cf (H.o rfl) (Wk0 (thn (Rl [_,_,_] (wl H (Ez.mv H rfl) rfl (kM rfl rfl ?_)))));clear H a;intro a H
 refine wk H cf148 (siRestore bi n c q w hci hfi) rfl rfl ?_
 rintro _ w1 ⟨rfl,rfl⟩
 refine ⟨_,rfl,?_⟩;clear H a;intro a H
 replace H:Hd a 14 [] []:=H.pick []
 refine Wn ?_
 refine rtn0 H rfl ?_
 exact ⟨rfl,(Stk.setI hc hB hne hci hfi).1,(Stk.setI hc hB hne hci hfi).2,Kp.setS hci⟩
theorem stkSave (bs:Nat) (w:World) (hS:StN w bs):
 Calls Tryz.prog 131 #[pz bs] w fun e w'=>e=.returned (.int .i64 0)/\w=w':=by
 refine Qd (vs:= [pz bs]) Tryz.func131 rfl rfl ?_
 intro a H
 replace H:Hd a 12 [] [(0,pz bs)]:=H
 refine Sq (Rl [_] (wl H (Ez.asn H rfl) rfl (kW (kS (kR [_,_,_,_,_] (kM rfl rfl (kN rfl rfl (kL (fun a H=>Ez.fa156_0 H rfl) rfl (kL (fun a H=>Ez.ld154 H rfl (hS.1)) rfl (kA rfl rfl (kP [(2,_),(3,_)] rfl (kW (kS (kS (kR [_,_] (kM rfl rfl (kL (fun a H=>Ez.eqN H (.inr rfl) rfl rfl (r:=true) rfl) rfl (kP [(2,_),(3,_),(9,_)] rfl (kW ?_)))))))))))))))))));clear H a;intro a H
 refine Ct (H.o rfl) (Sq (Rl [_] (wl H (Ez.asn H rfl) rfl (kP [(2,_),(3,_)] rfl (kW ?_)))));clear H a;intro a H
 refine Wr (thr ?_)
 refine rt1 H rfl rfl ?_
 exact ⟨rfl,rfl⟩
theorem grow80 (n:Nat) (w:World) (h0:0 < n) (hn:n < 1000000):
 Calls Tryz.prog 150 #[.slice none 0 0,.int .i64 n] w fun e w'=>∃b c,e=.returned (.slice (some ⟨b,0,none⟩) 0 c)/\w.heap.size<=b/\n<=c/\Wk w' b c (fun _=>0)/\Fr NoT w w':=by
 refine Qd (vs:= [.slice none 0 0,.int .i64 n]) Tryz.func150 rfl rfl ?_
 intro a H
 replace H:Hd a 27 [] [(0,.slice none 0 0),(1,.int .i64 n)]:=H
 refine Sq (Rl [_] (wl H (Ez.asn H rfl) rfl (kW (kS (kS (kR [_,_] (kM rfl rfl (kL (fun a H=>Ez.lss (r:=false) H rfl rfl (by (simp))) rfl (kP [(0,_),(1,_),(4,_),(6,_)] rfl (kW ?_))))))))));clear H a;intro a H
 refine Cf (H.o rfl) (Wk0 (thn (Sq (Sq (Rl [_,_,_,_,_,_,_,_] (wl H (Ez.mv H rfl) rfl (kM rfl rfl (kL (fun a H=>Ez.cap80 H rfl) rfl (kM rfl rfl (kL (fun a H=>Ez.len80 H rfl) rfl (kL (fun a H=>Ez.subI (r:=(0:Int)) H rfl rfl (by omega) (by omega)) rfl (kL (fun a H=>Ez.subI (r:=(n:Int)) H rfl rfl (by omega) (by omega)) rfl (kA rfl rfl (kP [(0,_),(1,_),(4,_)] rfl (kW (kS (kR [_,_] (kM rfl rfl (kL (fun a H=>Ez.gtr (r:=true) H rfl rfl (by (simp;omega))) rfl (kP [(0,_),(1,_),(4,_),(16,_)] rfl (kW ?_)))))))))))))))))))));clear H a;intro a H
 refine Ct (H.o rfl) (Rl [_,_,_,_,_,_,_,_,_,_] (wl H (Ez.mv H rfl) rfl (kM rfl rfl (kL (fun a H=>Ez.cap80 H rfl) rfl (kL (fun a H=>Ez.slH80 H rfl rfl 0 rfl (Nat.zero_le _)) rfl (kM rfl rfl ?_))))));clear H a;intro a H
 obtain ⟨w2,c,e2,hc,hW,hF⟩:=Ez.apz (x:=.tmp 20) (y:=.tmp 21) (T:=80) (d:=some 22) (ty:=80) (pos:=_) (after:=_) (g:=none) H (.inr rfl) rfl rfl n rfl h0 (by omega)
 refine wl H (e2) rfl ?_;clear e2 H a;intro a H
 refine wl H (Ez.mv H rfl) rfl (kL (fun a H=>Ez.len80 H rfl) rfl (kL (fun a H=>Ez.slH80 H rfl rfl 0 rfl (Nat.zero_le _)) rfl (kA rfl rfl (kP [(0,_),(4,_)] rfl (kW (kS (kR [_,_] (kM rfl rfl (kA rfl rfl (kP [(4,_)] rfl (kW ?_)))))))))));clear H a;intro a H
 refine Wr ?_
 refine rt1 H rfl rfl ?_
 exact ⟨_,c,rfl,Nat.le_refl _,hc,hW,hF⟩
theorem grow79 (n:Nat) (w:World) (h0:0 < n) (hn:n < 1000000):
 Calls Tryz.prog 170 #[.slice none 0 0,.int .i64 n] w fun e w'=>∃b c,e=.returned (.slice (some ⟨b,0,none⟩) 0 c)/\w.heap.size<=b/\n<=c/\Wk w' b c (fun _=>0)/\Fr NoT w w':=by
 refine Qd (vs:= [.slice none 0 0,.int .i64 n]) Tryz.func170 rfl rfl ?_
 intro a H
 replace H:Hd a 27 [] [(0,.slice none 0 0),(1,.int .i64 n)]:=H
 refine Sq (Rl [_] (wl H (Ez.asn H rfl) rfl (kW (kS (kS (kR [_,_] (kM rfl rfl (kL (fun a H=>Ez.lss (r:=false) H rfl rfl (by (simp))) rfl (kP [(0,_),(1,_),(4,_),(6,_)] rfl (kW ?_))))))))));clear H a;intro a H
 refine Cf (H.o rfl) (Wk0 (thn (Sq (Sq (Rl [_,_,_,_,_,_,_,_] (wl H (Ez.mv H rfl) rfl (kM rfl rfl (kL (fun a H=>Ez.cap79 H rfl) rfl (kM rfl rfl (kL (fun a H=>Ez.len79 H rfl) rfl (kL (fun a H=>Ez.subI (r:=(0:Int)) H rfl rfl (by omega) (by omega)) rfl (kL (fun a H=>Ez.subI (r:=(n:Int)) H rfl rfl (by omega) (by omega)) rfl (kA rfl rfl (kP [(0,_),(1,_),(4,_)] rfl (kW (kS (kR [_,_] (kM rfl rfl (kL (fun a H=>Ez.gtr (r:=true) H rfl rfl (by (simp;omega))) rfl (kP [(0,_),(1,_),(4,_),(16,_)] rfl (kW ?_)))))))))))))))))))));clear H a;intro a H
 refine Ct (H.o rfl) (Rl [_,_,_,_,_,_,_,_,_,_] (wl H (Ez.mv H rfl) rfl (kM rfl rfl (kL (fun a H=>Ez.cap79 H rfl) rfl (kL (fun a H=>Ez.slH79 H rfl rfl 0 rfl (Nat.zero_le _)) rfl (kM rfl rfl ?_))))));clear H a;intro a H
 obtain ⟨w2,c,e2,hc,hW,hF⟩:=Ez.apz (x:=.tmp 20) (y:=.tmp 21) (T:=79) (d:=some 22) (ty:=79) (pos:=_) (after:=_) (g:=none) H (.inl rfl) rfl rfl n rfl h0 (by omega)
 refine wl H (e2) rfl ?_;clear e2 H a;intro a H
 refine wl H (Ez.mv H rfl) rfl (kL (fun a H=>Ez.len79 H rfl) rfl (kL (fun a H=>Ez.slH79 H rfl rfl 0 rfl (Nat.zero_le _)) rfl (kA rfl rfl (kP [(0,_),(4,_)] rfl (kW (kS (kR [_,_] (kM rfl rfl (kA rfl rfl (kP [(4,_)] rfl (kW ?_)))))))))));clear H a;intro a H
 refine Wr ?_
 refine rt1 H rfl rfl ?_
 exact ⟨_,c,rfl,Nat.le_refl _,hc,hW,hF⟩
theorem siNat5 (bi:Nat) (w:World) (hc:w.cell? ⟨bi,0,none⟩=some (.slice none 0 0)) (hf:w.frozen? ⟨bi,0,none⟩=false):
 Calls Tryz.prog 151 #[pz bi,.int .i64 5] w fun e w'=>∃b c q n' c2 X,e=.returned (.slice (some ⟨b,0,none⟩) 5 5)/\w.heap.size<=b/\5<=c/\Wk w' b c X/\w'.cell? ⟨bi,0,none⟩=some (.slice q n' c2)/\Fr (Bl bi) w w':=by
 refine Qd (vs:= [pz bi,.int .i64 5]) Tryz.func151 rfl rfl ?_
 intro a H
 replace H:Hd a 53 [] [(0,pz bi),(1,.int .i64 5)]:=H
 refine Sq (Rl [_] (wl H (Ez.asn H rfl) rfl (kW (kS (kR [_,_,_,_] (kM rfl rfl (kL (fun a H=>Ez.addI (r:=(8:Int)) H rfl rfl (by omega) (by omega)) rfl (kL (fun a H=>Ez.andNot (r:=(8:Int)) H rfl rfl (by rfl)) rfl (kA rfl rfl (kP [(0,_),(1,_),(4,_),(5,_)] rfl (kW (kS (kR [_,_,_,_,_,_] (kM rfl rfl (kN rfl rfl (kL (fun a H=>Ez.fa175_0 H rfl) rfl (kL (fun a H=>Ez.ld79 H rfl (by assumption)) rfl (kL (fun a H=>Ez.len79 H rfl) rfl (kA rfl rfl (kP [(0,_),(1,_),(4,_),(5,_),(6,_)] rfl (kW (kS (kR [_,_,_,_,_,_,_,_,_,_] (kM rfl rfl (kM rfl rfl (kN rfl rfl (kL (fun a H=>Ez.fa175_0 H rfl) rfl ?_)))))))))))))))))))))))))));clear H a;intro a H
 refine wl H (Ez.ld79 H rfl (by assumption)) rfl (kM rfl rfl ?_);clear H a;intro a H
 refine wk H cf170 (grow79 8 w (by omega) (by omega)) rfl rfl ?_
 rintro _ w1 ⟨b,c,rfl,hb,hcc,hW,hF⟩
 refine ⟨_,rfl,?_⟩;clear H a;intro a H
 have hbi:=Bl0 w _ hc
 have hc1:=hF.someCell hc (fun f=>f)
 have hf1:=(hF.frozen bi 0 hbi).trans hf
 have hbb:b≠bi:=by have:bi < w.heap.size:=hbi;omega
 refine wl H (Ez.nc H rfl) rfl (kL (fun a H=>Ez.fa175_0 H rfl) rfl ?_);clear H a;intro a H
 refine wls H (Ez.st79 H rfl rfl rfl hc1 hf1) ?_;clear H;intro H
 refine kP [(0,_),(1,_),(4,_),(5,_),(6,_)] rfl (kW ?_) a H;clear H a;intro a H
 have hW2:=hW.other (p:=⟨bi,0,none⟩) hbb (.slice (some ⟨b,0,none⟩) 0 c)
 have hF2:Fr (Bl bi) w (w1.setCell ⟨bi,0,none⟩ (.slice (some ⟨b,0,none⟩) 0 c)):=hF.noT.trans (Fr.bl _)
 have hc2:=World.cell?_setCell_same w1 ⟨bi,0,none⟩ (.slice (some ⟨b,0,none⟩) 0 c) (by rw [hc1])
 have hf2:(w1.setCell ⟨bi,0,none⟩ (.slice (some ⟨b,0,none⟩) 0 c)).frozen? ⟨bi,0,none⟩=false:=by rw [World.frozen?_setCell];exact hf1
 generalize w1.setCell ⟨bi,0,none⟩ (.slice (some ⟨b,0,none⟩) 0 c)=w2 at hW2 hF2 hc2 hf2
 refine Sq (Rl [_,_,_,_,_,_,_,_,_,_,_,_] (wl H (Ez.mv H rfl) rfl (kM rfl rfl (kN rfl rfl (kL (fun a H=>Ez.fa175_0 H rfl) rfl (kL (fun a H=>Ez.ld79 H rfl (by assumption)) rfl (kM rfl rfl (kM rfl rfl (kL (fun a H=>Ez.addI (r:=(8:Int)) H rfl rfl (by omega) (by omega)) rfl (kL (fun a H=>Ez.slH79 H rfl rfl 8 rfl hcc) rfl (kN rfl rfl (kL (fun a H=>Ez.fa175_0 H rfl) rfl ?_))))))))))));clear H a;intro a H
 refine wls H (Ez.st79 H rfl rfl rfl hc2 hf2) ?_;clear H;intro H
 refine kP [(0,_),(1,_),(4,_),(6,_)] rfl (kW ?_) a H;clear H a;intro a H
 have hW3:=hW2.other (p:=⟨bi,0,none⟩) hbb (.slice (some ⟨b,0,none⟩) 8 c)
 have hF3:=hF2.trans (Fr.bl (b:=bi) (j:=0) (.slice (some ⟨b,0,none⟩) 8 c))
 have hc3:=World.cell?_setCell_same w2 ⟨bi,0,none⟩ (.slice (some ⟨b,0,none⟩) 8 c) (by rw [hc2])
 generalize w2.setCell ⟨bi,0,none⟩ (.slice (some ⟨b,0,none⟩) 8 c)=w3 at hW3 hF3 hc3
 refine Sq (Rl [_,_,_,_,_,_,_,_,_,_,_,_,_] (wl H (Ez.mv H rfl) rfl (kN rfl rfl (kL (fun a H=>Ez.fa175_0 H rfl) rfl (kL (fun a H=>Ez.ld79 H rfl (by assumption)) rfl (kM rfl rfl (kM rfl rfl (kM rfl rfl (kL (fun a H=>Ez.addI (r:=(5:Int)) H rfl rfl (by omega) (by omega)) rfl (kM rfl rfl (kM rfl rfl (kL (fun a H=>Ez.addI (r:=(5:Int)) H rfl rfl (by omega) (by omega)) rfl (kL (fun a H=>Ez.slLHM79 H rfl rfl rfl rfl rfl 5 rfl rfl (by omega) (by omega)) rfl (kA rfl rfl (kP [(1,_),(4,_),(7,_)] rfl (kW (kS (kS (kR [_,_] (kM rfl rfl (kL (fun a H=>Ez.gtr (r:=true) H rfl rfl (by simp)) rfl (kP [(4,_),(7,_),(49,_)] rfl (kW ?_)))))))))))))))))))))));clear H a;intro a H
 refine Ct (H.o rfl) (Rl [_,_,_] (wl H (Ez.mv H rfl) rfl (kL (fun a H=>Ez.ix79 H rfl rfl 0 rfl (by omega)) rfl ?_)));clear H a;intro a H
 refine wls H (Ez.st103 H rfl rfl rfl (hW3.cell (by omega)) (hW3.fz _)) ?_;clear H;intro H
 refine kP [(4,_),(7,_)] rfl (kW (kS (kR [_,_] (kM rfl rfl (kA rfl rfl (kP [(4,_)] rfl (kW ?_))))))) a H;clear H a;intro a H
 refine Wr ?_
 refine rt1 H rfl rfl ?_
 refine ⟨b,c,some ⟨b,0,none⟩,8,c,_,rfl,hb,by omega,hW3.set (j:=0+0) (by omega) ⟨by decide,by decide⟩,?_,hF3.setCell (fun h=>absurd h (by omega)) _⟩
 ·rw [Co _ _ _ _ (by intro e;injection e with e;exact hbb e)];exact hc3
theorem stkNat (bs n:Nat) (w:World) (hS:StN w bs) (h0:0 < n) (hn:n<=5):
 Calls Tryz.prog 132 #[pz bs,.int .i64 n] w fun e w'=>∃b c c' X,e=.returned (.slice (some ⟨b,0,none⟩) n c')/\w.heap.size<=b/\n<=c'/\c'<=c/\Wk w' b c X/\Stk w.heap.size w' bs/\Fr (Bl bs) w w'/\(n<=4->Fr NoT w w'):=by
 refine Qd (vs:= [pz bs,.int .i64 n]) Tryz.func132 rfl rfl ?_
 intro a H
 replace H:Hd a 33 [] [(0,pz bs),(1,.int .i64 n)]:=H
 refine Sq (Rl [_] (wl H (Ez.asn H rfl) rfl (kW (kS (kR [_,_,_,_,_] (kM rfl rfl (kN rfl rfl (kL (fun a H=>Ez.fa156_0 H rfl) rfl (kL (fun a H=>Ez.ld154 H rfl (hS.1)) rfl (kA rfl rfl (kP [(0,_),(1,_),(4,_),(5,_)] rfl (kW (kS (kS (kR [_,_] (kM rfl rfl (kL (fun a H=>Ez.eqN H (.inr rfl) rfl rfl (r:=true) rfl) rfl (kP [(0,_),(1,_),(4,_),(5,_),(12,_)] rfl (kW ?_)))))))))))))))))));clear H a;intro a H
 refine Ct (H.o rfl) (Sq (Sq ?_))
 by_cases h4:n<=4
 ·refine Rl [_,_] (wl H (Ez.mv H rfl) rfl (kL (fun a H=>Ez.leq (r:=true) H rfl rfl (by (simp;omega))) rfl (kP [(0,_),(1,_),(4,_),(5,_),(14,_)] rfl (kW ?_))));clear H a;intro a H
  refine Ct (H.o rfl) (Sq (Rl [_,_,_] (wl H (Ez.mv H rfl) rfl ?_)));clear H a;intro a H
  refine wk H cf150 (grow80 n w (by omega) (by omega)) rfl rfl ?_
  rintro _ w1 ⟨b,c,rfl,hb,hcc,hW,hF⟩
  refine ⟨_,rfl,?_⟩;clear H a;intro a H
  refine wl H (Ez.asn H rfl) rfl (kP [(0,_),(1,_),(4,_),(5,_),(6,_)] rfl (kW (kS (kR [_,_,_,_] (kM rfl rfl (kM rfl rfl (kL (fun a H=>Ez.slH80 H rfl rfl n rfl hcc) rfl (kA rfl rfl (kP [(0,_),(1,_),(4,_),(5,_),(6,_)] rfl (kW (kS (kS (kR [_,_] (kM rfl rfl (kL (fun a H=>Ez.gtr (r:=true) H rfl rfl (by (simp;omega))) rfl (kP [(0,_),(1,_),(4,_),(5,_),(6,_),(21,_)] rfl (kW ?_)))))))))))))))));clear H a;intro a H
  refine Ct (H.o rfl) (Rl [_,_,_] (wl H (Ez.mv H rfl) rfl (kL (fun a H=>Ez.ix80 H rfl rfl 0 rfl (by omega)) rfl ?_)));clear H a;intro a H
  refine wls H (Ez.st103 H rfl rfl rfl (hW.cell (by omega)) (hW.fz _)) ?_;clear H;intro H
  refine kP [(0,_),(1,_),(4,_),(5,_),(6,_)] rfl (kW (kS (kR [_,_] (kM rfl rfl (kA rfl rfl (kP [(0,_),(1,_),(4,_),(5,_)] rfl (kW ?_))))))) a H;clear H a;intro a H
  refine Wr (thr (thr ?_))
  refine rt1 H rfl rfl ?_
  have hF2:Fr NoT w (w1.setCell ⟨b,0+0,none⟩ (.int .u64 11259375)):=hF.setCell (fun h=>absurd h (by omega)) _
  exact ⟨b,c,c,_,rfl,hb,hcc,Nat.le_refl _,hW.set (j:=0+0) (by omega) ⟨by decide,by decide⟩,.inl (hS.fr hF2 (fun f=>f)),hF2.noT,fun _=>hF2⟩
 refine Rl [_,_] (wl H (Ez.mv H rfl) rfl (kL (fun a H=>Ez.leq (r:=false) H rfl rfl (by (simp;omega))) rfl (kP [(0,_),(1,_),(4,_),(5,_),(14,_)] rfl (kW ?_))));clear H a;intro a H
 refine Cf (H.o rfl) (Wk0 (thn (Sq ?_)))
 have h5:n=5:=by omega
 subst h5
 have hbs:bs < w.heap.size:=Bl0 w _ hS.1
 refine Rl [_,_] (wl H (Ez.al175) rfl (kA rfl rfl (kP [(0,_),(1,_),(4,_),(5,_)] rfl (kW (kR [_,_,_,_,_] (kM rfl rfl (kM rfl rfl (kN rfl rfl (kL (fun a H=>Ez.fa156_0 H rfl) rfl ?_)))))))));clear H a;intro a H
 refine wls H (Ez.st154 H rfl rfl rfl (((Fr.refl NoT w).alloc _).someCell hS.1 (fun f=>f)) ((((Fr.refl NoT w).alloc _).frozen _ _ hbs).trans hS.2)) ?_;clear H;intro H
 refine kP [(1,_),(4,_),(5,_)] rfl (kW ?_) a H;clear H a;intro a H
 obtain ⟨bi,hbi⟩:∃bi,bi=w.heap.size:=⟨_,rfl⟩
 have hF1:Fr (Bl bs) w ((w.alloc (.cells #[.slice none 0 0] 175)).setCell ⟨bs,0,none⟩ (.pointer (some ⟨w.heap.size,0,none⟩))):=(((Fr.refl (Bl bs) w).alloc _)).trans (Fr.bl _)
 have hne:bi≠bs:=by omega
 have hci:((w.alloc (.cells #[.slice none 0 0] 175)).setCell ⟨bs,0,none⟩ (.pointer (some ⟨w.heap.size,0,none⟩))).cell? ⟨bi,0,none⟩=some (.slice none 0 0):=by
  rw [Co _ _ _ _ (by intro e;injection e with e;exact hne e.symm)];exact (newCell w _ _ hbi).1
 have hfi:((w.alloc (.cells #[.slice none 0 0] 175)).setCell ⟨bs,0,none⟩ (.pointer (some ⟨w.heap.size,0,none⟩))).frozen? ⟨bi,0,none⟩=false:=by
  rw [World.frozen?_setCell];exact (newCell w _ _ hbi).2
 have hcs:((w.alloc (.cells #[.slice none 0 0] 175)).setCell ⟨bs,0,none⟩ (.pointer (some ⟨w.heap.size,0,none⟩))).cell? ⟨bs,0,none⟩=some (pz bi):=by
  rw [World.cell?_setCell_same _ _ _ (by rw [((Fr.refl NoT w).alloc _).someCell hS.1 (fun f=>f)]),hbi]
 rw [<-hbi] at H
 have hbz:bi < ((w.alloc (.cells #[.slice none 0 0] 175)).setCell ⟨bs,0,none⟩ (.pointer (some ⟨w.heap.size,0,none⟩))).heap.size:=Bl0 _ _ hci
 generalize (w.alloc (.cells #[.slice none 0 0] 175)).setCell ⟨bs,0,none⟩ (.pointer (some ⟨w.heap.size,0,none⟩))=w2 at hF1 hci hfi hcs hbz
 refine Sq (Rl [_,_,_,_] (wl H (Ez.mv H rfl) rfl (kM rfl rfl ?_)));clear H a;intro a H
 refine wk H cf151 (siNat5 bi w2 hci hfi) rfl rfl ?_
 rintro _ w1 ⟨b,c,q,n',c2,X,rfl,hb,hcc,hW,hc9,hF⟩
 refine ⟨_,rfl,?_⟩;clear H a;intro a H
 refine wl H (Ez.asn H rfl) rfl (kP [(4,_)] rfl (kW ?_));clear H a;intro a H
 refine Wr ?_
 refine rt1 H rfl rfl ?_
 refine ⟨b,c,5,X,rfl,Nat.le_trans hF1.size hb,by omega,by omega,hW,.inr ⟨bi,q,n',c2,hF.someCell hcs (fun h=>hne h.symm),by omega,hne,hc9,?_⟩,hF1.plus hF (by omega),fun h=>absurd h (by omega)⟩
 ·rw [hF.frozen _ _ hbz];exact hfi
end
section
set_option maxRecDepth 8000
section
variable {B P T V Q R N a b u2 vl:Int}
theorem kd_step (hP:0 < P) (hV:(a*B+b)*P<=V) (hT:T < (N*B+u2+1)*P) (hQ:0<=Q) (hqr:Q*a+R=N) (hgt:R*B+u2 < Q*b):T < Q*V:=by
 have h1:Q*((a*B+b)*P)<=Q*V:=Ml hV hQ
 have h2:N*B+u2+1<=Q*(a*B+b):=by
  have e:Q*(a*B+b)=(Q*a)*B+Q*b:=by rw [Int.mul_add,Int.mul_assoc]
  have e2:N*B=(Q*a)*B+R*B:=by rw [<-hqr,Int.add_mul]
  omega
 have h3:=Mr h2 (Int.le_of_lt hP)
 rw [Int.mul_assoc] at h3
 omega
theorem kd_exit (hP:0 < P) (hV0:0<=V) (hV:V<=(a*B+b+1)*P) (hT:(N*B+u2)*P<=T) (hT0:0<=T) (hQ:0<=Q) (hQa:Q<=a*B+b+1) (hqr:Q*a+R=N) (hle:Q*b<=R*B+u2):(Q - 1)*V<=T:=by
 by_cases h0:Q=0
 ·subst h0;simp;omega
 have h1:(Q - 1)*V<=(Q - 1)*((a*B+b+1)*P):=Ml hV (by omega)
 have h2:(Q - 1)*(a*B+b+1)<=N*B+u2:=by
  have e:(Q - 1)*(a*B+b+1)=(Q*a)*B+Q*b+Q - (a*B+b+1):=by
   rw [Int.sub_mul,Int.mul_add,Int.mul_add,Int.mul_assoc];omega
  have e2:N*B=(Q*a)*B+R*B:=by rw [<-hqr,Int.add_mul]
  omega
 have h3:=Mr h2 (Int.le_of_lt hP)
 rw [Int.mul_assoc] at h3
 omega
theorem kd_first (hP:0 < P) (hB:0 < B) (ha:0 < a) (hb:0<=b) (hV:(a*B+b)*P<=V) (hT:T < (N*B+u2+1)*P) (hu:u2 < B) (hN:0<=N):T < (N / a+1)*V:=by
 have h1:N+1<=(N / a+1)*a:=by
  have:=Int.mul_ediv_add_emod N a
  have:=El N ha
  rw [Int.add_mul,Int.one_mul,Int.mul_comm];omega
 have h2:N*B+u2+1<=(N+1)*B:=by rw [Int.add_mul,Int.one_mul];omega
 have h3:(N+1)*B<=((N / a+1)*a)*B:=Mr h1 (Int.le_of_lt hB)
 have h4:=Mr (Int.le_trans h2 h3) (Int.le_of_lt hP)
 have h5:(a*B)*P<=V:=by
  have:(a*B)*P<=(a*B+b)*P:=Mr (by omega) (Int.le_of_lt hP)
  omega
 have h6:0<=N / a:=Int.ediv_nonneg hN (by omega)
 have h7:=Ml h5 (show 0<=N / a+1 by omega)
 rw [Int.mul_assoc (N / a+1),Int.mul_assoc (N / a+1)] at h4
 omega
theorem kd_top (hP:0 < P) (hB:2<=B) (h2a:B<=2*a+2) (hb:b < B) (hV:V<=(a*B+b+1)*P) (u1:Int) (hu1:0<=u1) (hu2:0<=u2) (hT:((a*B+u1)*B+u2)*P<=T):(B - 2)*V<=T:=by
 have h1:V<=((a+1)*B)*P:=by
  have:(a*B+b+1)*P<=((a+1)*B)*P:=Mr (by rw [Int.add_mul,Int.one_mul];omega) (Int.le_of_lt hP)
  omega
 have h2:=Ml h1 (show 0<=B - 2 by omega)
 have h3:(B - 2)*(a+1)<=a*B:=by
  rw [Int.sub_mul,Int.mul_add,Int.mul_one,Int.mul_comm B a];omega
 have h4:=Mr h3 (show 0<=B by omega)
 have h5:(a*B)*B<=(a*B+u1)*B+u2:=by
  have:=Mn hu1 (show 0<=B by omega)
  rw [Int.add_mul];omega
 have h6:=Mr (Int.le_trans h4 h5) (Int.le_of_lt hP)
 have e:(B - 2)*((a+1)*B*P)=(B - 2)*(a+1)*B*P:=by simp only [Int.mul_assoc]
 omega
end
theorem nvo_two {X:Nat->Int} {j n:Nat} (hn:2<=n) (hX:∀i,i < n->U64 (X (j+i))) (u0:Int):
 ((u0*BB+X (j+n - 1))*BB+X (j+n - 2))*BB ^ (n - 2)<=nvo X j n+u0*BB ^ n/\nvo X j n+u0*BB ^ n < ((u0*BB+X (j+n - 1))*BB+X (j+n - 2)+1)*BB ^ (n - 2):=by
 obtain ⟨k,rfl⟩:∃k,n=k+2:=⟨n - 2,by omega⟩
 have h1:=J1 (X:=X) (o:=j) (n:=k) (fun i hi=>hX i (by omega))
 have h2:=nvo_lt (X:=X) (o:=j) (n:=k) (fun i hi=>hX i (by omega))
 rw [show j+(k+2) - 1=j+(k+1) by omega,show j+(k+2) - 2=j+k by omega,show k+2 - 2=k by omega,Qk X j (k+1),Qk X j k]
 have e1:BB ^ (k+1)=BB*BB ^ k:=by rw [Int.pow_succ,Int.mul_comm]
 have e2:BB ^ (k+2)=BB*(BB*BB ^ k):=by rw [show k+2=(k+1)+1 by omega,Int.pow_succ,Int.mul_comm,e1]
 rw [e1,e2]
 generalize BB ^ k=p at*
 have e3:((u0*BB+X (j+(k+1)))*BB+X (j+k))*p=u0*(BB*(BB*p))+X (j+(k+1))*(BB*p)+X (j+k)*p:=by
  simp only [Int.add_mul,Int.mul_assoc]
 constructor
 ·omega
 rw [Int.add_mul _ 1 p,e3];omega
def D3 (a b c:Nat):Nat->Nat->Prop:=fun k _=>k=a\/k=b\/k=c
theorem Stk.frW {w w':World} {B bs b c:Nat} {X:Nat->Int} (h:Stk B w bs) (hW:Wk w b c X) (hc:0 < c) (hF:Fr (Bl b) w w'):Stk B w' bs:=by
 have hcell:=hW.cell (j:=0) hc
 have key:∀k v,w.cell? ⟨k,0,none⟩=some v->(∀kk x,v≠.int kk x)->¬Bl b k 0:=fun k v hk hv e=>by
  have:k=b:=e
  subst this
  rw [hcell] at hk
  exact hv _ _ (Option.some.inj hk).symm
 rcases h with h | ⟨bi,q,n,c',h1,h2,h3,h4,h5⟩
 ·exact .inl (h.fr hF (key bs _ h.1 (by intro _ _ e;cases e)))
 have hlt:=Bl0 w _ h4
 exact .inr ⟨bi,q,n,c',hF.someCell h1 (key _ _ h1 (by intro _ _ e;cases e)),h2,h3,hF.someCell h4 (key _ _ h4 (by intro _ _ e;cases e)),by rw [hF.frozen _ _ hlt];exact h5⟩
theorem StN.ne {w:World} {bs b c:Nat} {X:Nat->Int} (h:StN w bs) (hW:Wk w b c X) (hc:0 < c):b≠bs:=by
 rintro rfl
 have:=hW.cell (j:=0) hc
 rw [h.1] at this;cases this
structure DS (w0:World) (bq bu bv bh bs cq cu cv ch:Nat) (V:Nat->Int) (w:World) (Q X Y:Nat->Int):Prop where
 q:Wk w bq cq Q
 u:Wk w bu cu X
 v:Wk w bv cv V
 h:Wk w bh ch Y
 s:Stk w0.heap.size w bs
 f:Fr (D3 bq bu bs) w0 w
 nqu:bq≠bu
 nqv:bq≠bv
 nuv:bu≠bv
 nqh:bq≠bh
 nuh:bu≠bh
 nvh:bv≠bh
 nh:w0.heap.size<=bh
 c:0 < cq/\0 < cu/\0 < cv/\0 < ch
section
variable {w0 w w':World} {bq bu bv bh bs cq cu cv ch:Nat} {V Q X Y Z:Nat->Int}
theorem DS.wq (h:DS w0 bq bu bv bh bs cq cu cv ch V w Q X Y) (hW:Wk w' bq cq Z) (hF:Fr (Bl bq) w w'):DS w0 bq bu bv bh bs cq cu cv ch V w' Z X Y:=
 ⟨hW,h.u.fr hF (fun _ e=>h.nqu (Eq.symm e)),h.v.fr hF (fun _ e=>h.nqv (Eq.symm e)),h.h.fr hF (fun _ e=>h.nqh (Eq.symm e)),h.s.frW h.q h.c.1 hF,h.f.trans (hF.mono fun k o _ e=>.inl e),h.nqu,h.nqv,h.nuv,h.nqh,h.nuh,h.nvh,h.nh,h.c⟩
theorem DS.wu (h:DS w0 bq bu bv bh bs cq cu cv ch V w Q X Y) (hW:Wk w' bu cu Z) (hF:Fr (Bl bu) w w'):DS w0 bq bu bv bh bs cq cu cv ch V w' Q Z Y:=
 ⟨h.q.fr hF (fun _ e=>h.nqu e),hW,h.v.fr hF (fun _ e=>h.nuv (Eq.symm e)),h.h.fr hF (fun _ e=>h.nuh (Eq.symm e)),h.s.frW h.u h.c.2.1 hF,h.f.trans (hF.mono fun k o _ e=>.inr (.inl e)),h.nqu,h.nqv,h.nuv,h.nqh,h.nuh,h.nvh,h.nh,h.c⟩
theorem DS.wh (h:DS w0 bq bu bv bh bs cq cu cv ch V w Q X Y) (hW:Wk w' bh ch Z) (hF:Fr (Bl bh) w w'):DS w0 bq bu bv bh bs cq cu cv ch V w' Q X Z:=
 ⟨h.q.fr hF (fun _ e=>h.nqh e),h.u.fr hF (fun _ e=>h.nuh e),h.v.fr hF (fun _ e=>h.nvh e),hW,h.s.frW h.h h.c.2.2.2 hF,h.f.plus hF h.nh,h.nqu,h.nqv,h.nuv,h.nqh,h.nuh,h.nvh,h.nh,h.c⟩
theorem DS.cd (h:DS w0 bq bu bv bh bs cq cu cv ch V w Q X Y) (hC:Cd w w'):DS w0 bq bu bv bh bs cq cu cv ch V w' Q X Y:=
 ⟨h.q.heq hC.heap,h.u.heq hC.heap,h.v.heq hC.heap,h.h.heq hC.heap,h.s.fr (hC.fr NoT) (fun f=>f) (fun _ _ _ f=>f),h.f.trans (hC.fr _),h.nqu,h.nqv,h.nuv,h.nqh,h.nuh,h.nvh,h.nh,h.c⟩
end
def KQ (T V q:Int):Prop:=0<=q/\q < 18446744073709551616/\T < (q+1)*V/\(q - 1)*V<=T
theorem kd_zero {q y r N:Int} (hq:0<=q) (hr:0<=r) (hy:0 < y) (h:q*y+r=N) (hN:N < y):q=0:=by
 by_cases h1:1<=q
 ·have:=Mr h1 (Int.le_of_lt hy)
  omega
 omega
theorem kd_x {x1 x2 q b:Int} (h:x1*18446744073709551616+x2=q*b) (hx1:U64 x1) (hx2:U64 x2) (hb:U64 b) (hq:1<=q):
 (x2 < b->U64 ((x1 - 1) % 18446744073709551616)/\U64 ((x2 - b) % 18446744073709551616)/\(x1 - 1) % 18446744073709551616*18446744073709551616+(x2 - b) % 18446744073709551616=(q - 1)*b)/\
 (¬x2 < b->U64 x1/\U64 ((x2 - b) % 18446744073709551616)/\x1*18446744073709551616+(x2 - b) % 18446744073709551616=(q - 1)*b):=by
 unfold U64 at*
 have h1:=Mr hq hb.1
 rw [Int.one_mul] at h1
 have e:(q - 1)*b=q*b - b:=by rw [Int.sub_mul,Int.one_mul]
 rw [e,<-h]
 constructor <;> intro hlt <;> (refine ⟨by omega,by omega,by omega⟩)
theorem kd_facts {X V:Nat->Int} {j n m:Nat} {y u0:Int} (hn:2<=n) (hX:∀k,k < m+n->U64 (X k)) (hV:∀k,k < n->U64 (V k)) (hy:V (n - 1)=y) (hy0:0 < y) (hj:j<=m) (hR:nvo X (j+1) (m+n - (j+1)) < nv V n)
 (hu0:(j=m/\u0=0)\/(j < m/\u0=X (j+n))):
 ∃T,0<=T/\T < 18446744073709551616*nv V n/\U64 u0/\u0<=y/\(∀rr,((j < m/\rr=n+1)\/(j=m/\rr=n))->T=nvo X j rr/\nvo X (j+rr) (m+n - (j+rr))=0)/\
  ((u0*18446744073709551616+X (j+n - 1))*18446744073709551616+X (j+n - 2))*BB ^ (n - 2)<=T/\T < ((u0*18446744073709551616+X (j+n - 1))*18446744073709551616+X (j+n - 2)+1)*BB ^ (n - 2)/\
  (y*18446744073709551616+V (n - 2))*BB ^ (n - 2)<=nv V n/\nv V n<=(y*18446744073709551616+V (n - 2)+1)*BB ^ (n - 2)/\0 < nv V n:=by
 have tX:=nvo_two (X:=X) (j:=j) hn (fun i hi=>hX _ (by omega)) u0
 have tV:=nvo_two (X:=V) (j:=0) hn (fun i hi=>hV _ (by omega)) 0
 rw [Nat.zero_add,Qm,hy] at tV
 simp only [Int.zero_mul,Int.zero_add,Int.add_zero] at tV
 have hP:=Q3 (n - 2)
 have hVp:0 < nv V n:=by
  have:=nv_ge (X:=V) (n:=n) (by omega) hV (by rw [hy];omega)
  have:=Q3 (n - 1)
  omega
 have hu0u:U64 u0:=by
  rcases hu0 with ⟨_,h⟩ | ⟨h1,h⟩
  ·rw [h];exact ⟨by decide,by decide⟩
  rw [h];exact hX _ (by omega)
 have hnn:=J1 (X:=X) (o:=j) (n:=n) (fun i hi=>hX _ (by omega))
 have hT0:0<=nvo X j n+u0*BB ^ n:=by
  have:=Mn hu0u.1 (Int.le_of_lt (Q3 n))
  omega
 have hrr:∀rr,((j < m/\rr=n+1)\/(j=m/\rr=n))->nvo X j n+u0*BB ^ n=nvo X j rr/\nvo X (j+rr) (m+n - (j+rr))=0:=by
  intro rr h
  rcases h with ⟨h1,rfl⟩ | ⟨h1,rfl⟩
  ·rcases hu0 with ⟨h2,_⟩ | ⟨_,h2⟩
   ·omega
   refine ⟨by rw [Qk,h2],?_⟩
   have e:=Jd X (j+1) n (m+n - (j+(n+1)))
   rw [show n+(m+n - (j+(n+1)))=m+n - (j+1) by omega] at e
   rw [e] at hR
   have h3:=Kn n hV
   have h4:=J1 (X:=X) (o:=j+1) (n:=n) (fun i hi=>hX _ (by omega))
   have h5:=J1 (X:=X) (o:=j+(n+1)) (n:=m+n - (j+(n+1))) (fun i hi=>hX _ (by omega))
   rw [show j+1+n=j+(n+1) by omega] at hR
   by_cases h6:nvo X (j+(n+1)) (m+n - (j+(n+1)))=0
   ·exact h6
   have:=Mr (show 1<=nvo X (j+(n+1)) (m+n - (j+(n+1))) by omega) (Int.le_of_lt (Q3 n))
   omega
  rcases hu0 with ⟨_,h2⟩ | ⟨h2,_⟩
  ·refine ⟨by rw [h2];simp,?_⟩
   rw [show m+rr - (j+rr)=0 by omega];rfl
  omega
 have hTB:nvo X j n+u0*BB ^ n < 18446744073709551616*nv V n:=by
  have key:∀s,nvo X (j+1) s < nv V n->nvo X j (s+1) < 18446744073709551616*nv V n:=by
   intro s hs
   rw [nvo_cons]
   have h1:=hX j (by omega)
   unfold U64 at h1
   unfold BB
   omega
  rcases hu0 with ⟨h1,h2⟩ | ⟨h1,h2⟩
  ·rw [(hrr n (.inr ⟨h1,rfl⟩)).1]
   have:=key (n - 1) (by rw [show m+n - (j+1)=n - 1 by omega] at hR;exact hR)
   rwa [show n - 1+1=n by omega] at this
  have h3:=hrr (n+1) (.inl ⟨h1,rfl⟩)
  rw [h3.1]
  refine key n ?_
  have e:=Jd X (j+1) n (m+n - (j+(n+1)))
  rw [show n+(m+n - (j+(n+1)))=m+n - (j+1) by omega,show j+1+n=j+(n+1) by omega,h3.2] at e
  omega
 refine ⟨_,hT0,hTB,hu0u,?_,hrr,tX.1,tX.2,tV.1,Int.le_of_lt tV.2,hVp⟩
 by_cases hle:u0<=y
 ·exact hle
 exfalso
 have h1:nv V n<=(y+1)*BB ^ (n - 1):=by
  have e:BB ^ (n - 1)=18446744073709551616*BB ^ (n - 2):=by rw [show n - 1=(n - 2)+1 by omega,Int.pow_succ,Int.mul_comm];rfl
  have hb:=hV (n - 2) (by omega)
  unfold U64 at hb
  rw [e,<-Int.mul_assoc]
  have:=Mr (show y*18446744073709551616+V (n - 2)+1<=(y+1)*18446744073709551616 by omega) (Int.le_of_lt hP)
  have h9:=tV.2
  unfold BB at h9 this ⊢
  omega
 have h2:=Mr (show y+1<=u0 by omega) (Int.le_of_lt (Q3 n))
 have e:BB ^ n=18446744073709551616*BB ^ (n - 1):=by rw [show n=(n - 1)+1 by omega,Int.pow_succ,Int.mul_comm];rfl
 have h3:(y+1)*BB ^ n=18446744073709551616*((y+1)*BB ^ (n - 1)):=by rw [e,<-Int.mul_assoc,Int.mul_comm (y+1),Int.mul_assoc]
 omega
theorem kd_next {X X4 Q1 U Qn:Nat->Int} {j m n rr:Nat} {q2 T Vn:Int} (hj:j<=m) (hrr:(j < m/\rr=n+1)\/(j=m/\rr=n)) (hup:nvo X (j+rr) (m+n - (j+rr))=0) (hT:T=nvo X j rr) (h1:nvo X4 j rr=T - q2*Vn) (hlt:nvo X4 j rr < Vn)
 (hout:∀k,k < j\/j+rr<=k->X4 k=X k) (hsum:nvo Q1 (j+1) (m - (j+1))*BB ^ (j+1)*Vn+nv X (m+n)=nv U (m+n)) (hQ:(j < m/\Qn j=q2/\∀k,j < k->Qn k=Q1 k)\/(j=m/\q2=0)):
 nvo X4 j (m+n - j) < Vn/\nvo Qn j (m - j)*BB ^ j*Vn+nv X4 (m+n)=nv U (m+n):=by
 have hs:rr+(m+n - (j+rr))=m+n - j:=by omega
 have e1:=Jd X4 j rr (m+n - (j+rr))
 have e2:=Jd X j rr (m+n - (j+rr))
 have e3:nvo X4 (j+rr) (m+n - (j+rr))=nvo X (j+rr) (m+n - (j+rr)):=Q4 fun i hi=>hout _ (.inr (by omega))
 rw [hs] at e1 e2
 rw [e3,hup] at e1
 rw [hup] at e2
 have e4:=Jd X4 0 j (m+n - j)
 have e5:=Jd X 0 j (m+n - j)
 rw [show j+(m+n - j)=m+n by omega,Qm,Qm,Nat.zero_add] at e4 e5
 have e6:nv X4 j=nv X j:=Ja j fun i hi=>hout _ (.inl hi)
 refine ⟨by omega,?_⟩
 have e7:nvo X4 j (m+n - j)*BB ^ j=nvo X j (m+n - j)*BB ^ j - q2*BB ^ j*Vn:=by
  have h0:nvo X4 j (m+n - j)=nvo X j (m+n - j) - q2*Vn:=by omega
  rw [h0,Int.sub_mul,Int.mul_assoc q2,Int.mul_comm Vn,<-Int.mul_assoc]
 rcases hQ with ⟨hlt',hq,hk⟩ | ⟨hjm,hq⟩
 ·have e8:nvo Qn j (m - j)=q2+BB*nvo Q1 (j+1) (m - (j+1)):=by
   rw [show m - j=(m - (j+1))+1 by omega,nvo_cons,hq]
   congr 2
   exact Q4 fun i hi=>hk _ (by omega)
  have e9:BB*nvo Q1 (j+1) (m - (j+1))*BB ^ j=nvo Q1 (j+1) (m - (j+1))*BB ^ (j+1):=by
   rw [Int.mul_comm BB,Int.mul_assoc,Int.pow_succ,Int.mul_comm BB]
  rw [e8,Int.add_mul,Int.add_mul,e9]
  omega
 subst hjm
 subst hq
 have z1:nvo Qn j (j - j)=0:=by rw [Nat.sub_self];rfl
 have z2:nvo Q1 (j+1) (j - (j+1))=0:=by rw [show j - (j+1)=0 by omega];rfl
 rw [z1];rw [z2] at hsum
 simp only [Int.zero_mul,Int.zero_add] at hsum e7 ⊢
 omega
end
section
set_option maxRecDepth 8000
set_option maxHeartbeats 2000000 in
theorem divBasic (bq bu bv bs cq cu cv m n mv:Nat) (Q U V:Nat->Int) (w:World) (hq:Wk w bq cq Q) (hu:Wk w bu cu U) (hv:Wk w bv cv V) (hS:StN w bs) (hqu:bq≠bu) (hqv:bq≠bv) (huv:bu≠bv) (hm:1<=m) (hn:2<=n) (hn4:n<=4) (hm40:m < 40) (hcq:m<=cq) (hcu:m+n<=cu) (hcv:n<=cv) (hV:9223372036854775808<=V (n - 1)) (htop:U (m+n - 1) < V (n - 1)):
 Calls Tryz.prog 134 #[.slice (some ⟨bq,0,none⟩) m cq,pz bs,.slice (some ⟨bu,0,none⟩) (m+n) cu,.slice (some ⟨bv,0,none⟩) n mv] w fun e w'=>∃Xq Xu,e=.returned (.tuple #[])/\Wk w' bq cq Xq/\Wk w' bu cu Xu/\nv Xq m*nv V n+nv Xu (m+n)=nv U (m+n)/\nv Xu (m+n) < nv V n/\Stk w.heap.size w' bs/\Fr (D3 bq bu bs) w w':=by
 obtain ⟨w0,hw0⟩:∃w0,w0=w:=⟨w,rfl⟩
 rw [<-hw0]
 rw [<-hw0] at hq hu hv hS
 clear hw0 w
 refine enterD (vs:= [.slice (some ⟨bq,0,none⟩) m cq,pz bs,.slice (some ⟨bu,0,none⟩) (m+n) cu,.slice (some ⟨bv,0,none⟩) n mv]) Tryz.func134 rfl rfl ?_
 intro a H
 replace H:Hd a 201 [] [(0,.slice (some ⟨bq,0,none⟩) m cq),(1,pz bs),(2,.slice (some ⟨bu,0,none⟩) (m+n) cu),(3,.slice (some ⟨bv,0,none⟩) n mv)]:=H
 refine Sq (Rl [_,_,_] (wl H (Ez.mv H rfl) rfl (kL (fun a H=>Ez.len80 H rfl) rfl (kA rfl rfl (kP [(0,_),(1,_),(2,_),(3,_),(8,_)] rfl (kW (kS (kR [_,_,_,_,_] (kM rfl rfl (kL (fun a H=>Ez.len80 H rfl) rfl (kM rfl rfl (kL (fun a H=>Ez.subI (r:=(m:Int)) H rfl rfl (by omega) (by omega)) rfl (kA rfl rfl (kP [(0,_),(1,_),(2,_),(3,_),(8,_),(9,_)] rfl (kW (kS (kR [_,_,_,_] (kM rfl rfl (kM rfl rfl ?_)))))))))))))))))));clear H a;intro a H
 refine wk H cf131 (stkSave bs w0 hS) rfl rfl ?_
 rintro _ w1 ⟨rfl,rfl⟩
 refine ⟨_,rfl,?_⟩;clear H a;intro a H
 refine wld H (Ez.dfr H (vs:= [_,_]) rfl) ?_;clear H a;intro a H
 refine kP [(0,_),(1,_),(2,_),(3,_),(8,_),(9,_)] rfl (kW (kS (kR [_,_,_,_,_] (kM rfl rfl (kM rfl rfl (kL (fun a H=>Ez.addI (r:=((n+1:Nat):Int)) H rfl rfl (by omega) (by omega)) rfl ?_)))))) a H;clear H a;intro a H
 refine wk H cf132 (stkNat bs (n+1) w0 hS (by omega) (by omega)) rfl rfl ?_
 rintro _ w1 ⟨bh,ch,ch',Y,rfl,g1,g2,g3,g4,g5,g6,_⟩
 refine ⟨_,rfl,?_⟩;clear H a;intro a H
 have hD:DS w0 bq bu bv bh bs cq cu cv ch V w1 Q U Y:=⟨hq.fr g6 (fun _ e=>hS.ne hq (by omega) e),hu.fr g6 (fun _ e=>hS.ne hu (by omega) e),hv.fr g6 (fun _ e=>hS.ne hv (by omega) e),g4,g5,g6.mono (fun k o _ e=>.inr (.inr e)),hqu,hqv,huv,by have:=hq.lt;omega,by have:=hu.lt;omega,by have:=hv.lt;omega,g1,by omega,by omega,by omega,by omega⟩
 clear g4 g5 g6
 refine wl H (Ez.asn H rfl) rfl (kP [(0,_),(2,_),(3,_),(8,_),(9,_),(10,_)] rfl (kW (kS (kR [_,_,_,_,_,_] (kM rfl rfl (kM rfl rfl (kL (fun a H=>Ez.subI (r:=((n - 1:Nat):Int)) H rfl rfl (by omega) (by omega)) rfl (kL (fun a H=>Ez.ix80 H rfl rfl (n - 1) rfl (by omega)) rfl (kL (fun a H=>Ez.ld103 H rfl ((by rw [Nat.zero_add];exact hD.v.cell (by omega)))) rfl (kA rfl rfl (kP [(0,_),(2,_),(3,_),(8,_),(9,_),(10,_),(11,_)] rfl (kW (kS ?_)))))))))))));clear H a;intro a H
 have hVu:∀k,k < n->U64 (V k):=fun k hk=>hv.u k (by omega)
 obtain ⟨y,hy⟩:=Eo (hVu (n - 1) (by omega)).1
 have hyB:=(hVu (n - 1) (by omega)).2
 rw [hy] at H hV htop hyB
 refine Rl [_,_,_] (wl H (Ez.mv H rfl) rfl ?_);clear H a;intro a H
 refine wk H cf146 (reciprocalWord y (by omega) (by omega) w1) rfl rfl ?_
 rintro _ w1 ⟨rm,rfl,hRP,hC⟩
 refine ⟨_,rfl,?_⟩;clear H a;intro a H
 have hD:=hD.cd hC
 refine wl H (Ez.asn H rfl) rfl (kP [(0,_),(2,_),(3,_),(8,_),(9,_),(10,_),(11,_),(12,_)] rfl (kW (kS (kR [_] (kA rfl rfl (kW (kS (kR [_,_] (kM rfl rfl (kA rfl rfl (kP [(0,_),(2,_),(3,_),(8,_),(9,_),(10,_),(11,_),(12,_),(13,_),(14,_)] rfl (kW ?_))))))))))));clear H a;intro a H
 refine Wb ?_
 refine Qo (fun mm a w=>∃(i:Nat) (j0 u0:Int) (Q1 X Y1:Nat->Int),mm=i/\i<=m+1/\Hd a 201 [⟨.fn (.func 130) #[],#[pz bs,.int .i64 0]⟩] [(0,.slice (some ⟨bq,0,none⟩) m cq),(2,.slice (some ⟨bu,0,none⟩) (m+n) cu),(3,.slice (some ⟨bv,0,none⟩) n mv),(8,.int .i64 n),(9,.int .i64 m),(10,.slice (some ⟨bh,0,none⟩) (n+1) ch'),(11,.int .u64 y),(12,.int .u64 rm),(13,.int .u64 u0),(14,.int .i64 j0)]/\j0=(i:Int) - 1/\DS w0 bq bu bv bh bs cq cu cv ch V w Q1 X Y1/\((i=m+1/\u0=0/\X (m+n - 1) < y)\/(i<=m/\(1<=i->u0=X (i - 1+n))))/\nvo X i (m+n - i) < nv V n/\nvo Q1 i (m - i)*BB ^ i*nv V n+nv X (m+n)=nv U (m+n)) (m+1) ?_ ?_
 ·replace H:Hd a 201 [_] [(0,_),(2,_),(3,_),(8,_),(9,_),(10,_),(11,_),(12,_),(13,_),(14,_)]:=H.pick [0,2,3,8,9,10,11,12,13,14]
  refine ⟨m+1,_,_,Q,U,Y,rfl,Nat.le_refl _,H,by omega,hD,.inl ⟨rfl,rfl,htop⟩,?_,?_⟩
  ·have h1:=nvo_lt (X:=U) (o:=m+1) (n:=n - 1) (fun i hi=>hD.u.u _ (by omega))
   have h2:=nv_ge (X:=V) (n:=n) (by omega) hVu (by rw [hy];omega)
   rw [show m+n - (m+1)=n - 1 by omega];omega
  rw [show m - (m+1)=0 by omega];simp [nvo,nv]
 clear H a
 intro mm a w hI
 obtain ⟨i,j0,u0,Q1,X,Y1,hmm,hi,H,hj0,hD,hu0,hR,hsum⟩:=hI
 obtain ⟨wL,rfl⟩:∃wL,wL=w:=⟨w,rfl⟩
 refine Sq (Sq (Rl [_,_] (wl H (Ez.mv H rfl) rfl (kL (fun a H=>Ez.geq H rfl rfl (rfl)) rfl (kP [(0,_),(2,_),(3,_),(8,_),(9,_),(10,_),(11,_),(12,_),(13,_),(14,_),(46,_)] rfl (kW ?_))))));clear H a;intro a H
 refine Cs (H.o rfl) (fun hb0=>?_) (fun hb0=>?_)
 ·have hi1:1<=i:=by have:=Dt hb0;omega
  obtain ⟨j,rfl⟩:∃j,i=j+1:=⟨i - 1,by omega⟩
  have hj1:j0=(j:Int):=by omega
  subst hj1
  have hXu:∀k,k < m+n->U64 (X k):=fun k hk=>hD.u.u k (by omega)
  have hu0':(j=m/\u0=0)\/(j < m/\u0=X (j+n)):=by
   rcases hu0 with ⟨h1,h2,_⟩ | ⟨h1,h2⟩
   ·exact .inl ⟨by omega,h2⟩
   exact .inr ⟨by omega,by rw [h2 (by omega)];congr 1⟩
  obtain ⟨T,hT0,hTB,hu0u,hu0y,hTr,hTlo,hThi,hVlo,hVhi,hVp⟩:=kd_facts (y:=y) hn hXu hVu hy (by omega) (by omega) hR hu0'
  have hjt:j=m->u0=0/\X (j+n - 1) < y:=by
   intro hjm
   rcases hu0 with ⟨h1,h2,h3⟩ | ⟨h1,h2⟩
   ·exact ⟨h2,by rw [hjm];exact h3⟩
   omega
  have hP:=Q3 (n - 2)
  have hb2u:=hVu (n - 2) (by omega)
  have hx2u:=hXu (j+n - 2) (by omega)
  have hx1u:=hXu (j+n - 1) (by omega)
  refine Wk0 (thn (Sq (Wb (Sq (Rl [_] (wl H (Ez.asn H rfl) rfl (kP [(0,_),(2,_),(3,_),(8,_),(9,_),(10,_),(11,_),(12,_),(13,_),(14,_),(15,_)] rfl (kW ?_))))))));clear H a;intro a H
  refine Jf (fun a w=>∃q:Int,Hd a 201 [⟨.fn (.func 130) #[],#[pz bs,.int .i64 0]⟩] [(0,.slice (some ⟨bq,0,none⟩) m cq),(2,.slice (some ⟨bu,0,none⟩) (m+n) cu),(3,.slice (some ⟨bv,0,none⟩) n mv),(8,.int .i64 n),(9,.int .i64 m),(10,.slice (some ⟨bh,0,none⟩) (n+1) ch'),(11,.int .u64 y),(12,.int .u64 rm),(14,.int .i64 (j:Int)),(15,.int .u64 q)]/\KQ T (nv V n) q/\(j=m->q=0)/\wL=w) ?_ ?_
  ·refine Sq (Rl [_,_,_] (wl H (Ez.mv H rfl) rfl (kM rfl rfl (kL (fun a H=>Ez.neq H rfl rfl (rfl)) rfl (kP [(0,_),(2,_),(3,_),(8,_),(9,_),(10,_),(11,_),(12,_),(13,_),(14,_),(15,_),(51,_)] rfl (kW ?_))))));clear H a;intro a H
   refine Cs (H.o rfl) (fun hb1=>?_) (fun hb1=>?_)
   ·have hne:u0≠y:=by simpa using hb1
    refine Sq (Rl [_] (wl H (Ez.asn H rfl) rfl (kP [(0,_),(2,_),(3,_),(8,_),(9,_),(10,_),(11,_),(12,_),(13,_),(14,_),(15,_),(16,_)] rfl (kW (kS (kR [_,_,_,_,_,_,_,_,_,_,_,_,_,_,_,_] (kM rfl rfl (kM rfl rfl (kM rfl rfl (kM rfl rfl (kL (fun a H=>Ez.addI (r:=((j+n:Nat):Int)) H rfl rfl (by omega) (by omega)) rfl (kL (fun a H=>Ez.subI (r:=((j+n - 1:Nat):Int)) H rfl rfl (by omega) (by omega)) rfl (kL (fun a H=>Ez.ix80 H rfl rfl (j+n - 1) rfl (by omega)) rfl (kL (fun a H=>Ez.ld103 H rfl ((by rw [Nat.zero_add];exact hD.u.cell (by omega)))) rfl (kM rfl rfl (kM rfl rfl ?_))))))))))))))));clear H a;intro a H
    refine wk H cf147 (divWW u0 (X (j+n - 1)) rm y hu0u hx1u (by omega) (by omega) hRP wL) rfl rfl ?_
    rintro _ w1 ⟨rfl,rfl⟩
    refine ⟨_,rfl,?_⟩;clear H a;intro a H
    refine wl H (Ez.mv H rfl) rfl (kL (fun a H=>Ez.ext0 H rfl) rfl (kL (fun a H=>Ez.ext1 H rfl) rfl (kA rfl rfl (kA rfl rfl (kP [(0,_),(2,_),(3,_),(8,_),(9,_),(10,_),(11,_),(12,_),(13,_),(14,_),(15,_),(16,_)] rfl (kW ?_))))));clear H a;intro a H
    obtain ⟨N,hN⟩:∃N,N=u0*18446744073709551616+X (j+n - 1):=⟨_,rfl⟩
    rw [<-hN] at H hTlo hThi
    obtain ⟨q0,hq0⟩:∃q0,q0=N / (y:Int):=⟨_,rfl⟩
    obtain ⟨r0,hr0⟩:∃r0,r0=N % (y:Int):=⟨_,rfl⟩
    rw [<-hq0,<-hr0] at H
    unfold U64 at hu0u hx1u hx2u hb2u
    have hN0:0<=N:=by omega
    have hq0u:U64 q0:=by
     rw [hq0]
     refine ⟨Int.ediv_nonneg hN0 (by omega),Int.ediv_lt_of_lt_mul (by omega) ?_⟩
     have:=Ml (show u0+1<=y by omega) (show (0:Int)<=18446744073709551616 by decide)
     omega
    have hr0u:U64 r0:=by
     have h1:=En N (show (y:Int)≠0 by omega)
     have h2:=El N (show (0:Int) < y by omega)
     exact ⟨by omega,by omega⟩
    have hqr0:q0*y+r0=N:=by rw [hq0,hr0,Int.mul_comm];exact Int.mul_ediv_add_emod N y
    have hTq0:T < (q0+1)*nv V n:=by rw [hq0];exact kd_first hP (B:=18446744073709551616) (by decide) (by omega) hb2u.1 hVlo hThi hx2u.2 hN0
    have hNy:j=m->N < y:=fun hjm=>by have:=hjt hjm;omega
    refine Sq (Rl [_,_,_,_,_,_] (wl H (Ez.mv H rfl) rfl (kM rfl rfl (kL (fun a H=>Ez.subI (r:=((n - 2:Nat):Int)) H rfl rfl (by omega) (by omega)) rfl (kL (fun a H=>Ez.ix80 H rfl rfl (n - 2) rfl (by omega)) rfl (kL (fun a H=>Ez.ld103 H rfl ((by rw [Nat.zero_add];exact hD.v.cell (by omega)))) rfl (kA rfl rfl (kP [(0,_),(2,_),(3,_),(8,_),(9,_),(10,_),(11,_),(12,_),(13,_),(14,_),(15,_),(16,_),(17,_)] rfl (kW (kS (kR [_,_,_,_,_,_,_,_] (kM rfl rfl (kM rfl rfl ?_)))))))))))));clear H a;intro a H
    refine wk H cf153 (mulWW q0 (V (n - 2)) hq0u hb2u wL) rfl rfl ?_
    rintro _ w1 ⟨rfl,rfl⟩
    refine ⟨_,rfl,?_⟩;clear H a;intro a H
    refine wl H (Ez.mv H rfl) rfl (kL (fun a H=>Ez.ext0 H rfl) rfl (kL (fun a H=>Ez.ext1 H rfl) rfl (kA rfl rfl (kA rfl rfl (kP [(0,_),(2,_),(3,_),(8,_),(9,_),(10,_),(11,_),(12,_),(13,_),(14,_),(15,_),(16,_),(17,_),(18,_),(19,_)] rfl (kW (kS (kR [_,_,_,_,_,_,_,_] (kM rfl rfl (kM rfl rfl (kM rfl rfl (kL (fun a H=>Ez.addI (r:=((j+n:Nat):Int)) H rfl rfl (by omega) (by omega)) rfl (kL (fun a H=>Ez.subI (r:=((j+n - 2:Nat):Int)) H rfl rfl (by omega) (by omega)) rfl (kL (fun a H=>Ez.ix80 H rfl rfl (j+n - 2) rfl (by omega)) rfl (kL (fun a H=>Ez.ld103 H rfl ((by rw [Nat.zero_add];exact hD.u.cell (by omega)))) rfl (kA rfl rfl (kP [(0,_),(2,_),(3,_),(8,_),(9,_),(10,_),(11,_),(12,_),(13,_),(14,_),(15,_),(16,_),(17,_),(18,_),(19,_),(20,_)] rfl (kW ?_))))))))))))))))));clear H a;intro a H
    refine Wb ?_
    refine Qo (fun mm a w=>∃(q r x1 x2:Int),mm=q.toNat/\Hd a 201 [⟨.fn (.func 130) #[],#[pz bs,.int .i64 0]⟩] [(0,.slice (some ⟨bq,0,none⟩) m cq),(2,.slice (some ⟨bu,0,none⟩) (m+n) cu),(3,.slice (some ⟨bv,0,none⟩) n mv),(8,.int .i64 n),(9,.int .i64 m),(10,.slice (some ⟨bh,0,none⟩) (n+1) ch'),(11,.int .u64 y),(12,.int .u64 rm),(14,.int .i64 (j:Int)),(15,.int .u64 q),(16,.int .u64 r),(17,.int .u64 (V (n - 2))),(18,.int .u64 x1),(19,.int .u64 x2),(20,.int .u64 (X (j+n - 2)))]/\U64 q/\U64 r/\U64 x1/\U64 x2/\q*y+r=N/\x1*18446744073709551616+x2=q*V (n - 2)/\T < (q+1)*nv V n/\wL=w) (q0.toNat) ?_ ?_
    ·replace H:Hd a 201 [_] [(0,_),(2,_),(3,_),(8,_),(9,_),(10,_),(11,_),(12,_),(14,_),(15,_),(16,_),(17,_),(18,_),(19,_),(20,_)]:=H.pick [0,2,3,8,9,10,11,12,14,15,16,17,18,19,20]
     obtain ⟨p,hp⟩:∃p,p=q0*V (n - 2):=⟨_,rfl⟩
     have hp0:0<=p:=by rw [hp];exact Mn hq0u.1 hb2u.1
     have hp1:p < 18446744073709551616*18446744073709551616:=by
      rw [hp]
      have h1:=Ml (Int.le_of_lt hb2u.2) hq0u.1
      have h2:=hq0u.2
      omega
     rw [<-hp] at H
     refine ⟨q0,r0,_,_,rfl,H,hq0u,hr0u,⟨by omega,by omega⟩,⟨by omega,by omega⟩,hqr0,by rw [<-hp];omega,hTq0,rfl⟩
    clear H a
    intro mm a w hI
    obtain ⟨q,r,x1,x2,hmm1,H,hqu,hru,hx1,hx2,hqr,hx,hTq,rfl⟩:=hI
    refine Sq (Sq (Rl [_,_,_,_,_] (wl H (Ez.mv H rfl) rfl (kM rfl rfl (kM rfl rfl (kM rfl rfl ?_))))));clear H a;intro a H
    refine wk H cf154 (greaterThan x1 x2 r (X (j+n - 2)) hx1 hx2 hru hx2u wL) rfl rfl ?_
    rintro _ w1 ⟨rfl,rfl⟩
    refine ⟨_,rfl,?_⟩;clear H a;intro a H
    refine kP [(0,_),(2,_),(3,_),(8,_),(9,_),(10,_),(11,_),(12,_),(14,_),(15,_),(16,_),(17,_),(18,_),(19,_),(20,_),(88,_)] rfl (kW ?_) a H;clear H a;intro a H
    refine Cs (H.o rfl) (fun hb2=>?_) (fun hb2=>?_)
    ·have hgt:=Dt hb2
     rw [hx] at hgt
     have hq1:1<=q:=by
      by_cases h0:1<=q
      ·exact h0
      exfalso
      have:q=0:=by have:=hqu.1;omega
      rw [this] at hgt
      have:=hru.1
      omega
     have hTs:T < q*nv V n:=kd_step hP hVlo hThi (by omega) hqr hgt
     unfold U64 at hqu hru
     refine Wk0 (thn (Wb (Sq (Rl [_,_,_] (wl H (Ez.mv H rfl) rfl (kL (fun a H=>Ez.subU (r:=(q - 1)) H rfl rfl (by omega)) rfl (kA rfl rfl (kP [(0,_),(2,_),(3,_),(8,_),(9,_),(10,_),(11,_),(12,_),(14,_),(15,_),(16,_),(17,_),(18,_),(19,_),(20,_)] rfl (kW (kS (kR [_,_,_,_] (kM rfl rfl (kM rfl rfl (kL (fun a H=>Ez.addU H rfl rfl rfl) rfl (kA rfl rfl (kP [(0,_),(2,_),(3,_),(8,_),(9,_),(10,_),(11,_),(12,_),(14,_),(15,_),(16,_),(17,_),(18,_),(19,_),(20,_)] rfl (kW (kS (kS (kR [_,_,_] (kM rfl rfl (kM rfl rfl (kL (fun a H=>Ez.lss H rfl rfl (rfl)) rfl (kP [(0,_),(2,_),(3,_),(8,_),(9,_),(10,_),(11,_),(12,_),(14,_),(15,_),(16,_),(17,_),(18,_),(19,_),(20,_),(96,_)] rfl (kW ?_)))))))))))))))))))))))));clear H a;intro a H
     refine Cs (H.o rfl) (fun hb3=>?_) (fun hb3=>?_)
     ·have hov:18446744073709551616<=r+y:=by have:=Dt hb3;omega
      have hqr':(q - 1)*y+(r+y)=N:=by rw [Int.sub_mul];omega
      have hK:KQ T (nv V n) (q - 1):=by
       refine ⟨by omega,by omega,by rw [Int.sub_add_cancel];exact hTs,kd_exit hP (Int.le_of_lt hVp) hVhi hTlo hT0 (by omega) (by omega) hqr' ?_⟩
       have h1:=Ml (Int.le_of_lt hb2u.2) (show 0<=q - 1 by omega)
       omega
      have hqz:j=m->q - 1=0:=fun hjm=>kd_zero (by omega) (by omega) (by omega) hqr' (hNy hjm)
      refine We (thx (bxn rfl (thx (bxe (thn ?_)))))
      replace H:Hd a 201 [_] [(0,_),(2,_),(3,_),(8,_),(9,_),(10,_),(11,_),(12,_),(14,_),(15,_)]:=H.pick [0,2,3,8,9,10,11,12,14,15]
      exact ⟨_,H,hK,hqz,rfl⟩
     have hno:(r+y) % 18446744073709551616=r+y:=by have:=Df hb3;omega
     rw [hno] at H
     have hno2:r+y < 18446744073709551616:=by omega
     refine Wk0 (thn (Sq (Sq (Rl [_,_,_] (wl H (Ez.mv H rfl) rfl (kM rfl rfl (kL (fun a H=>Ez.gtr H rfl rfl (rfl)) rfl (kP [(0,_),(2,_),(3,_),(8,_),(9,_),(10,_),(11,_),(12,_),(14,_),(15,_),(16,_),(17,_),(18,_),(19,_),(20,_),(99,_)] rfl (kW ?_)))))))));clear H a;intro a H
     refine Cs (H.o rfl) (fun hb4=>?_) (fun hb4=>?_)
     ·have hk:=(kd_x hx hx1 hx2 hb2u hq1).1 (Dt hb4)
      refine Rl [_,_,_] (wl H (Ez.mv H rfl) rfl (kL (fun a H=>Ez.subU H rfl rfl rfl) rfl (kA rfl rfl (kP [(0,_),(2,_),(3,_),(8,_),(9,_),(10,_),(11,_),(12,_),(14,_),(15,_),(16,_),(17,_),(18,_),(19,_),(20,_)] rfl (kW (kR [_,_,_,_] (kM rfl rfl (kM rfl rfl (kL (fun a H=>Ez.subU H rfl rfl rfl) rfl (kA rfl rfl (kP [(0,_),(2,_),(3,_),(8,_),(9,_),(10,_),(11,_),(12,_),(14,_),(15,_),(16,_),(17,_),(18,_),(19,_),(20,_)] rfl ?_)))))))))));clear H a;intro a H
      refine Wn ?_
      refine bn (thn ?_)
      replace H:Hd a 201 [_] [(0,_),(2,_),(3,_),(8,_),(9,_),(10,_),(11,_),(12,_),(14,_),(15,_),(16,_),(17,_),(18,_),(19,_),(20,_)]:=H.pick [0,2,3,8,9,10,11,12,14,15,16,17,18,19,20]
      first
       | exact ⟨(q - 1).toNat,by omega,q - 1,r+y,_,_,rfl,H,⟨by omega,by omega⟩,⟨by omega,by omega⟩,hk.1,hk.2.1,by rw [Int.sub_mul];omega,hk.2.2,by rw [Int.sub_add_cancel];exact hTs,rfl⟩
     have hk:=(kd_x hx hx1 hx2 hb2u hq1).2 (Df hb4)
     refine Wk0 (thn (Rl [_,_,_,_] (wl H (Ez.mv H rfl) rfl (kM rfl rfl (kL (fun a H=>Ez.subU H rfl rfl rfl) rfl (kA rfl rfl (kP [(0,_),(2,_),(3,_),(8,_),(9,_),(10,_),(11,_),(12,_),(14,_),(15,_),(16,_),(17,_),(18,_),(19,_),(20,_)] rfl ?_)))))));clear H a;intro a H
     refine Wn ?_
     refine bn (thn ?_)
     replace H:Hd a 201 [_] [(0,_),(2,_),(3,_),(8,_),(9,_),(10,_),(11,_),(12,_),(14,_),(15,_),(16,_),(17,_),(18,_),(19,_),(20,_)]:=H.pick [0,2,3,8,9,10,11,12,14,15,16,17,18,19,20]
     first
      | exact ⟨(q - 1).toNat,by omega,q - 1,r+y,_,_,rfl,H,⟨by omega,by omega⟩,⟨by omega,by omega⟩,hk.1,hk.2.1,by rw [Int.sub_mul];omega,hk.2.2,by rw [Int.sub_add_cancel];exact hTs,rfl⟩
    have hle:=Df hb2
    rw [hx] at hle
    unfold U64 at hqu hru
    have hK:KQ T (nv V n) q:=⟨hqu.1,hqu.2,hTq,kd_exit hP (Int.le_of_lt hVp) hVhi hTlo hT0 hqu.1 (by omega) hqr (by omega)⟩
    have hqz:j=m->q=0:=fun hjm=>kd_zero hqu.1 hru.1 (by omega) hqr (hNy hjm)
    refine We (thx (thx (bxe (thn ?_))))
    replace H:Hd a 201 [_] [(0,_),(2,_),(3,_),(8,_),(9,_),(10,_),(11,_),(12,_),(14,_),(15,_)]:=H.pick [0,2,3,8,9,10,11,12,14,15]
    exact ⟨_,H,hK,hqz,rfl⟩
   have hne:u0=y:=by simpa using hb1
   have hK:KQ T (nv V n) 18446744073709551615:=⟨by decide,by decide,by omega,kd_top hP (B:=18446744073709551616) (by omega) (by omega) hb2u.2 hVhi (X (j+n - 1)) hx1u.1 hx2u.1 (by rw [hne] at hTlo;exact hTlo)⟩
   have hqz:j=m->(18446744073709551615:Int)=0:=fun hjm=>by have:=(hjt hjm).1;omega
   refine Wk0 (thn ?_)
   replace H:Hd a 201 [_] [(0,_),(2,_),(3,_),(8,_),(9,_),(10,_),(11,_),(12,_),(14,_),(15,_)]:=H.pick [0,2,3,8,9,10,11,12,14,15]
   exact ⟨_,H,hK,hqz,rfl⟩
  clear H a
  intro a w hJ
  obtain ⟨q,H,hK,hqz,rfl⟩:=hJ
  obtain ⟨hK0,hK1,hK2,hK3⟩:=hK
  refine Sq (Rl [_,_,_,_,_,_,_,_,_,_] (wl H (Ez.mv H rfl) rfl (kM rfl rfl (kM rfl rfl (kM rfl rfl (kL (fun a H=>Ez.slZ80 H rfl rfl rfl n rfl (by omega)) rfl (kM rfl rfl (kM rfl rfl ?_))))))));clear H a;intro a H
  refine wk H cf138 (mulAddVWW bh 0 ch bv 0 cv n ch' mv Y1 V q 0 wL hD.h hD.v (fun _=>rfl) (by omega) (by omega) (by omega) ⟨hK0,hK1⟩ ⟨by decide,by decide⟩) rfl rfl ?_
  rintro _ w1 ⟨k,Y2,rfl,a1,a2,a3,a4,a5⟩
  refine ⟨_,rfl,?_⟩;clear H a;intro a H
  have hD:=hD.wh a1 a5
  refine wl H (Ez.ix80 H rfl rfl n rfl (by omega)) rfl ?_;clear H a;intro a H
  refine wls H (Ez.st103 H rfl rfl rfl (hD.h.cell (by omega)) (hD.h.fz _)) ?_;clear H;intro H
  refine kP [(0,_),(2,_),(3,_),(8,_),(9,_),(10,_),(11,_),(12,_),(14,_),(15,_)] rfl (kW ?_) a H;clear H a;intro a H
  have hD:=hD.wh (hD.h.set (j:=0+n) (by omega) a4) (Fr.bl _)
  obtain ⟨Y3,hY3⟩:∃Y3,Y3=up Y2 (0+n) k:=⟨_,rfl⟩
  rw [<-hY3] at hD
  have hY3v:nvo Y3 0 (n+1)=nv V n*q:=by
   rw [hY3,Qk,Jc _ _ _ _ _ (Nat.le_refl _),Qz,a3,Qm];simp
  have hY3k:Y3 (0+n)=k:=by rw [hY3,Qz]
  have hY3k0:j=m->k=0:=fun hjm=>by
   have e:nvo Y3 0 (n+1)=0:=by rw [hY3v,hqz hjm];simp
   rw [Qk,hY3k] at e
   have h1:=J1 (X:=Y3) (o:=0) (n:=n) (fun i hi=>hD.h.u _ (by omega))
   have h2:=a4.1
   by_cases h3:k=0
   ·exact h3
   have:=Mr (show 1<=k by omega) (Int.le_of_lt (Q3 n))
   have:=Q3 n
   omega
  clear hY3 a1 a2 a3 a5
  generalize w1.setCell ⟨bh,0+n,none⟩ (.int .u64 k)=w2 at hD
  refine Sq (Rl [_,_,_] (wl H (Ez.mv H rfl) rfl (kL (fun a H=>Ez.len80 H rfl) rfl (kA rfl rfl (kP [(0,_),(2,_),(3,_),(8,_),(9,_),(10,_),(11,_),(12,_),(14,_),(15,_),(21,_)] rfl (kW ?_))))));clear H a;intro a H
  refine Jf (fun a w=>∃rr:Nat,Hd a 201 [⟨.fn (.func 130) #[],#[pz bs,.int .i64 0]⟩] [(0,.slice (some ⟨bq,0,none⟩) m cq),(2,.slice (some ⟨bu,0,none⟩) (m+n) cu),(3,.slice (some ⟨bv,0,none⟩) n mv),(8,.int .i64 n),(9,.int .i64 m),(10,.slice (some ⟨bh,0,none⟩) (n+1) ch'),(11,.int .u64 y),(12,.int .u64 rm),(14,.int .i64 (j:Int)),(15,.int .u64 q),(21,.int .i64 rr)]/\((j < m/\rr=n+1)\/(j=m/\rr=n))/\nvo Y3 0 rr=nv V n*q/\DS w0 bq bu bv bh bs cq cu cv ch V w Q1 X Y3) ?_ ?_
  ·refine Sq ?_
   rcases Nat.lt_or_ge j m with hjm | hjm
   ·refine Rl [_,_,_,_,_,_,_,_,_,_,_,_,_] (wl H (Ez.mv H rfl) rfl (kM rfl rfl (kL (fun a H=>Ez.addI (r:=((j+(n+1):Nat):Int)) H rfl rfl (by omega) (by omega)) rfl (kM rfl rfl (kL (fun a H=>Ez.len80 H rfl) rfl (kL (fun a H=>Ez.gtr (r:=false) H rfl rfl (by (simp;omega))) rfl (kM rfl rfl (kX rfl rfl rfl rfl rfl (kX rfl rfl rfl rfl rfl (kX rfl rfl rfl rfl rfl (kX rfl rfl rfl rfl rfl (kX rfl rfl rfl rfl rfl (kL (fun a H=>Ez.pkF H rfl rfl) rfl (kP [(0,_),(2,_),(3,_),(8,_),(9,_),(10,_),(11,_),(12,_),(14,_),(15,_),(21,_),(128,_)] rfl (kW ?_)))))))))))))));clear H a;intro a H
    refine Cf (H.o rfl) (Wk0 (thn ?_))
    replace H:Hd a 201 [_] [(0,_),(2,_),(3,_),(8,_),(9,_),(10,_),(11,_),(12,_),(14,_),(15,_),(21,_)]:=H.pick [0,2,3,8,9,10,11,12,14,15,21]
    first
     | exact ⟨n+1,H,.inl ⟨hjm,rfl⟩,hY3v,hD⟩
     | exact ⟨n,H,.inr ⟨hjm,rfl⟩,by rw [Qk,hY3k,hk0] at hY3v;simpa using hY3v,hD⟩
   have hjm:j=m:=by omega
   have hk0:=hY3k0 hjm
   refine Rl [_,_,_,_,_,_,_,_,_,_,_,_,_] (wl H (Ez.mv H rfl) rfl (kM rfl rfl (kL (fun a H=>Ez.addI (r:=((j+(n+1):Nat):Int)) H rfl rfl (by omega) (by omega)) rfl (kM rfl rfl (kL (fun a H=>Ez.len80 H rfl) rfl (kL (fun a H=>Ez.gtr (r:=true) H rfl rfl (by (simp;omega))) rfl (kM rfl rfl (kG (fun a H=>Ez.mv H rfl) rfl rfl rfl rfl rfl (kG (fun a H=>Ez.mv H rfl) rfl rfl rfl rfl rfl (kG (fun a H=>Ez.ix80 H rfl rfl n rfl (by omega)) rfl rfl rfl rfl rfl (kG (fun a H=>Ez.ld103 H rfl (hD.h.cell (j:=0+n) (by omega))) rfl rfl rfl rfl rfl (kG (fun a H=>Ez.eql (r:=true) H rfl rfl (by (have e:=hY3k;rw [Nat.zero_add] at e;simp;rw [e];exact hk0))) rfl rfl rfl rfl rfl (kL (fun a H=>Ez.pkT H rfl rfl) rfl (kP [(0,_),(2,_),(3,_),(8,_),(9,_),(10,_),(11,_),(12,_),(14,_),(15,_),(21,_),(128,_)] rfl (kW ?_)))))))))))))));clear H a;intro a H
   refine Ct (H.o rfl) (Rl [_,_,_] (wl H (Ez.mv H rfl) rfl (kL (fun a H=>Ez.subI (r:=(n:Int)) H rfl rfl (by omega) (by omega)) rfl (kA rfl rfl (kP [(0,_),(2,_),(3,_),(8,_),(9,_),(10,_),(11,_),(12,_),(14,_),(15,_),(21,_)] rfl (kW (kP [(0,_),(2,_),(3,_),(8,_),(9,_),(10,_),(11,_),(12,_),(14,_),(15,_),(21,_)] rfl ?_)))))));clear H a;intro a H
   first
    | exact ⟨n+1,H,.inl ⟨hjm,rfl⟩,hY3v,hD⟩
    | exact ⟨n,H,.inr ⟨hjm,rfl⟩,by rw [Qk,hY3k,hk0] at hY3v;simpa using hY3v,hD⟩
  clear H a
  intro a w hJ
  obtain ⟨rr,H,hrr,hYv,hD⟩:=hJ
  obtain ⟨hTe,hup⟩:=hTr rr hrr
  clear hY3v hY3k
  refine Sq ?_
  refine Jw [_,_,_,_,_,_,_,_,_,_,_,_,_,_,_] [_,_] Qb (by kernel_rfl) ?_
  intro w1 hw
  have hD:=hD.cd hw
  refine wst H (Ez.mv H rfl) rfl (iL (fun a H=>Ez.mv H rfl) rfl (iL (fun a H=>Ez.mv H rfl) rfl (iL (fun a H=>Ez.mv H rfl) rfl (iL (fun a H=>Ez.addI (r:=((j+rr:Nat):Int)) H rfl rfl (by omega) (by omega)) rfl (iL (fun a H=>Ez.slLH80 H rfl rfl rfl j (j+rr) rfl rfl (by omega) (by omega) (0+j) rr (cu - j) (if_pos (by omega)) (by omega) rfl) rfl (iL (fun a H=>Ez.mv H rfl) rfl (iL (fun a H=>Ez.mv H rfl) rfl (iL (fun a H=>Ez.mv H rfl) rfl (iL (fun a H=>Ez.mv H rfl) rfl (iL (fun a H=>Ez.addI (r:=((j+rr:Nat):Int)) H rfl rfl (by omega) (by omega)) rfl (iL (fun a H=>Ez.slLH80 H rfl rfl rfl j (j+rr) rfl rfl (by omega) (by omega) (0+j) rr (cu - j) (if_pos (by omega)) (by omega) rfl) rfl (iL (fun a H=>Ez.mv H rfl) rfl (iL (fun a H=>Ez.mv H rfl) rfl (iL (fun a H=>Ez.slH80 H rfl rfl rr rfl (by omega)) rfl ?_))))))))))))));clear H a;intro a H
  refine wste ?_
  refine wk H cf111 (subVV bu (0+j) cu bu (0+j) cu bh 0 ch rr (cu - j) (cu - j) ch' X X Y3 w1 hD.u hD.u hD.h (fun _=>rfl) (fun e=>absurd e.symm hD.nuh) (by omega) (by omega) (by omega) (by omega)) rfl rfl ?_
  rintro _ w1 ⟨c,X2,rfl,a1,a2,a3,a4,a5⟩
  refine ⟨_,rfl,?_⟩;clear H a;intro a H
  have hD:=hD.wu a1 a5
  clear a1 a5
  rw [Nat.zero_add] at a2 a3
  rw [hYv,<-hTe] at a3
  have hlo:=J1 (X:=X2) (o:=j) (n:=rr) (fun i hi=>hD.u.u _ (by omega))
  have hhi:=nvo_lt (X:=X2) (o:=j) (n:=rr) (fun i hi=>hD.u.u _ (by omega))
  have hcv:q*nv V n=nv V n*q:=Int.mul_comm _ _
  have hK2':T < nv V n*q+nv V n:=by rw [Int.add_mul,Int.one_mul] at hK2;omega
  have hK3':nv V n*q - nv V n<=T:=by rw [Int.sub_mul,Int.one_mul] at hK3;omega
  refine wl H (Ez.asn H rfl) rfl (kP [(0,_),(2,_),(3,_),(8,_),(9,_),(10,_),(11,_),(12,_),(14,_),(15,_),(21,_),(22,_)] rfl (kW ?_));clear H a;intro a H
  refine Jf (fun a w=>∃(q2:Int) (X4:Nat->Int),Hd a 201 [⟨.fn (.func 130) #[],#[pz bs,.int .i64 0]⟩] [(0,.slice (some ⟨bq,0,none⟩) m cq),(2,.slice (some ⟨bu,0,none⟩) (m+n) cu),(3,.slice (some ⟨bv,0,none⟩) n mv),(8,.int .i64 n),(9,.int .i64 m),(10,.slice (some ⟨bh,0,none⟩) (n+1) ch'),(11,.int .u64 y),(12,.int .u64 rm),(14,.int .i64 (j:Int)),(15,.int .u64 q2)]/\DS w0 bq bu bv bh bs cq cu cv ch V w Q1 X4 Y3/\U64 q2/\nvo X4 j rr=T - q2*nv V n/\nvo X4 j rr < nv V n/\(∀k,k < j\/j+rr<=k->X4 k=X k)/\(j=m->q2=0)) ?_ ?_
  ·refine Sq (Rl [_,_] (wl H (Ez.mv H rfl) rfl (kL (fun a H=>Ez.neq H rfl rfl (rfl)) rfl (kP [(0,_),(2,_),(3,_),(8,_),(9,_),(10,_),(11,_),(12,_),(14,_),(15,_),(21,_),(148,_)] rfl (kW ?_)))));clear H a;intro a H
   refine Cs (H.o rfl) (fun hb6=>?_) (fun hb6=>?_)
   ·have hc1:c=1:=by have:c≠0:=by simpa using hb6
                     omega
    rw [hc1,Int.one_mul] at a3
    have hTlt:T < nv V n*q:=by omega
    have hjm:j < m:=by
     rcases hrr with h | h
     ·exact h.1
     exfalso
     rw [hqz h.1] at hTlt
     simp at hTlt
     omega
    have hrn:rr=n+1:=by omega
    have hq1:1<=q:=by
     by_cases h0:1<=q
     ·exact h0
     exfalso
     have:q=0:=by omega
     rw [this] at hTlt
     simp at hTlt
     omega
    refine Sq ?_
    have hX2u:∀k,k < m+n->U64 (X2 k):=fun k hk=>hD.u.u k (by omega)
    refine Jw [_,_,_,_,_,_,_,_,_,_,_,_,_] [_,_] Qb (by kernel_rfl) ?_
    intro w1 hw
    have hD:=hD.cd hw
    refine wst H (Ez.mv H rfl) rfl (iL (fun a H=>Ez.mv H rfl) rfl (iL (fun a H=>Ez.mv H rfl) rfl (iL (fun a H=>Ez.mv H rfl) rfl (iL (fun a H=>Ez.addI (r:=((j+n:Nat):Int)) H rfl rfl (by omega) (by omega)) rfl (iL (fun a H=>Ez.slLH80 H rfl rfl rfl j (j+n) rfl rfl (by omega) (by omega) (0+j) n (cu - j) (if_pos (by omega)) (by omega) rfl) rfl (iL (fun a H=>Ez.mv H rfl) rfl (iL (fun a H=>Ez.mv H rfl) rfl (iL (fun a H=>Ez.mv H rfl) rfl (iL (fun a H=>Ez.mv H rfl) rfl (iL (fun a H=>Ez.addI (r:=((j+n:Nat):Int)) H rfl rfl (by omega) (by omega)) rfl (iL (fun a H=>Ez.slLH80 H rfl rfl rfl j (j+n) rfl rfl (by omega) (by omega) (0+j) n (cu - j) (if_pos (by omega)) (by omega) rfl) rfl (iL (fun a H=>Ez.mv H rfl) rfl ?_))))))))))));clear H a;intro a H
    refine wste ?_
    refine wk H cf109 (addVV bu (0+j) cu bu (0+j) cu bv 0 cv n (cu - j) (cu - j) mv X2 X2 V w1 hD.u hD.u hD.v (fun _=>rfl) (fun e=>absurd e.symm hD.nuv) (by omega) (by omega) (by omega) (by omega)) rfl rfl ?_
    rintro _ w1 ⟨c2,X3,rfl,b1,b2,b3,b4,b5⟩
    refine ⟨_,rfl,?_⟩;clear H a;intro a H
    have hD:=hD.wu b1 b5
    clear b1 b5
    rw [Nat.zero_add,Qm V] at b3
    rw [Nat.zero_add] at b2
    refine wl H (Ez.asn H rfl) rfl (kP [(0,_),(2,_),(3,_),(8,_),(9,_),(10,_),(11,_),(12,_),(14,_),(15,_),(21,_),(23,_)] rfl (kW (kS (kS (kR [_,_,_] (kM rfl rfl (kM rfl rfl (kL (fun a H=>Ez.lss (r:=true) H rfl rfl (by (simp;omega))) rfl (kP [(0,_),(2,_),(3,_),(8,_),(9,_),(10,_),(11,_),(12,_),(14,_),(15,_),(23,_),(165,_)] rfl (kW ?_))))))))));clear H a;intro a H
    refine Ct (H.o rfl) (Rl [_,_,_,_,_,_,_,_,_,_] (wl H (Ez.mv H rfl) rfl (kM rfl rfl (kM rfl rfl (kL (fun a H=>Ez.addI (r:=((j+n:Nat):Int)) H rfl rfl (by omega) (by omega)) rfl (kL (fun a H=>Ez.ix80 H rfl rfl (j+n) rfl (by omega)) rfl (kL (fun a H=>Ez.ld103 H rfl ((hD.u.cell (j:=0+(j+n)) (by omega)))) rfl (kM rfl rfl (kL (fun a H=>Ez.addU H rfl rfl rfl) rfl (kL (fun a H=>Ez.ix80 H rfl rfl (j+n) rfl (by omega)) rfl ?_))))))))));clear H a;intro a H
    refine wls H (Ez.st103 H rfl rfl rfl (hD.u.cell (j:=0+(j+n)) (by omega)) (hD.u.fz _)) ?_;clear H;intro H
    refine kP [(0,_),(2,_),(3,_),(8,_),(9,_),(10,_),(11,_),(12,_),(14,_),(15,_)] rfl (kW ?_) a H;clear H a;intro a H
    have hD:=hD.wu (hD.u.set (j:=0+(j+n)) (v:=(X3 (0+(j+n))+c2) % 18446744073709551616) (by omega) ⟨by omega,by omega⟩) (Fr.bl _)
    obtain ⟨X4,hX4⟩:∃X4,X4=up X3 (0+(j+n)) ((X3 (0+(j+n))+c2) % 18446744073709551616):=⟨_,rfl⟩
    rw [<-hX4] at hD
    generalize w1.setCell ⟨bu,0+(j+n),none⟩ (.int .u64 ((X3 (0+(j+n))+c2) % 18446744073709551616))=w2 at hD
    rw [Nat.zero_add] at hX4
    have hf1:U64 (q - 1):=⟨by omega,by omega⟩
    have hf4:∀k,k < j\/j+rr<=k->X4 k=X k:=fun k hk=>by rw [hX4,Qx (by omega),b2 k (by omega),a2 k hk]
    have hf5:j=m->q - 1=0:=fun h=>by omega
    have hf2:nvo X4 j rr=T - (q - 1)*nv V n:=by
     have e1:X3 (j+n)=X2 (j+n):=b2 _ (by omega)
     have e2:nvo X4 j rr=nvo X3 j n+(X2 (j+n)+c2) % 18446744073709551616*BB ^ n:=by
      rw [hrn,Qk,hX4,Qz,e1,Jc _ _ _ _ _ (Nat.le_refl _)]
     rw [hrn] at a3
     rw [Qk] at a3
     have e3:BB ^ (n+1)=18446744073709551616*BB ^ n:=by rw [Int.pow_succ,Int.mul_comm];rfl
     rw [e3] at a3
     have h1:=J1 (X:=X3) (o:=j) (n:=n) (fun i hi=>by have:=b2;exact (hD.u.u (j+i) (by omega) |> fun hh=>by rw [hX4,Qx (by omega)] at hh;exact hh))
     have h2:=nvo_lt (X:=X3) (o:=j) (n:=n) (fun i hi=>by exact (hD.u.u (j+i) (by omega) |> fun hh=>by rw [hX4,Qx (by omega)] at hh;exact hh))
     have hxu:U64 (X2 (j+n)):=hX2u (j+n) (by omega)
     unfold U64 at hxu
     have hP:=Q3 n
     have e4:(X2 (j+n)+c2)*BB ^ n=X2 (j+n)*BB ^ n+c2*BB ^ n:=Int.add_mul _ _ _
     have h3:18446744073709551616<=X2 (j+n)+c2:=by
      by_cases h:18446744073709551616<=X2 (j+n)+c2
      ·exact h
      exfalso
      have:=Mr (show X2 (j+n)+c2+1<=18446744073709551616 by omega) (Int.le_of_lt hP)
      rw [Int.add_mul,Int.one_mul,e4] at this
      omega
     have h4:(X2 (j+n)+c2) % 18446744073709551616=X2 (j+n)+c2 - 18446744073709551616:=by omega
     have e5:(q - 1)*nv V n=nv V n*q - nv V n:=by rw [Int.sub_mul,Int.one_mul];omega
     rw [e2,h4,Int.sub_mul,e4,e5]
     omega
    have hf3:nvo X4 j rr < nv V n:=by
     rw [hf2,Int.sub_mul,Int.one_mul];omega
    refine Rl [_,_,_] (wl H (Ez.mv H rfl) rfl (kL (fun a H=>Ez.subU (r:=(q - 1)) H rfl rfl (by omega)) rfl (kA rfl rfl (kP [(0,_),(2,_),(3,_),(8,_),(9,_),(10,_),(11,_),(12,_),(14,_),(15,_)] rfl (kW (kP [(0,_),(2,_),(3,_),(8,_),(9,_),(10,_),(11,_),(12,_),(14,_),(15,_)] rfl ?_))))));clear H a;intro a H
    exact ⟨_,_,H,hD,hf1,hf2,hf3,hf4,hf5⟩
   have hc0:c=0:=by simpa using hb6
   rw [hc0] at a3
   simp only [Int.zero_mul,Int.sub_zero] at a3
   have hf1:U64 q:=⟨hK0,hK1⟩
   have hf2:nvo X2 j rr=T - q*nv V n:=by omega
   have hf3:nvo X2 j rr < nv V n:=by omega
   have hf4:∀k,k < j\/j+rr<=k->X2 k=X k:=a2
   have hf5:=hqz
   refine Wk0 (thn ?_)
   replace H:Hd a 201 [_] [(0,_),(2,_),(3,_),(8,_),(9,_),(10,_),(11,_),(12,_),(14,_),(15,_)]:=H.pick [0,2,3,8,9,10,11,12,14,15]
   exact ⟨_,_,H,hD,hf1,hf2,hf3,hf4,hf5⟩
  clear H a
  intro a w hJ
  clear a2 a3 a4 hlo hhi
  obtain ⟨q2,X4,H,hD,hf1,hf2,hf3,hf4,hf5⟩:=hJ
  refine Sq (Rl [_,_,_,_,_,_,_,_] (wl H (Ez.mv H rfl) rfl (kM rfl rfl (kM rfl rfl (kL (fun a H=>Ez.addI (r:=((j+n:Nat):Int)) H rfl rfl (by omega) (by omega)) rfl (kL (fun a H=>Ez.subI (r:=((j+n - 1:Nat):Int)) H rfl rfl (by omega) (by omega)) rfl (kL (fun a H=>Ez.ix80 H rfl rfl (j+n - 1) rfl (by omega)) rfl (kL (fun a H=>Ez.ld103 H rfl ((by rw [Nat.zero_add];exact hD.u.cell (by omega)))) rfl (kA rfl rfl (kP [(0,_),(2,_),(3,_),(8,_),(9,_),(10,_),(11,_),(12,_),(13,_),(14,_),(15,_)] rfl (kW (kS (kS ?_)))))))))))));clear H a;intro a H
  rcases Nat.lt_or_ge j m with hjm | hjm
  ·refine Rl [_,_,_,_,_,_,_,_,_,_,_,_,_] (wl H (Ez.mv H rfl) rfl (kM rfl rfl (kL (fun a H=>Ez.eql (r:=false) H rfl rfl (by (simp;omega))) rfl (kM rfl rfl (kX rfl rfl rfl rfl rfl (kX rfl rfl rfl rfl rfl (kX rfl rfl rfl rfl rfl (kX rfl rfl rfl rfl rfl (kL (fun a H=>Ez.pkF H rfl rfl) rfl (kM rfl rfl (kX rfl rfl rfl rfl rfl (kX rfl rfl rfl rfl rfl (kL (fun a H=>Ez.pkF H rfl rfl) rfl (kP [(0,_),(2,_),(3,_),(8,_),(9,_),(10,_),(11,_),(12,_),(13,_),(14,_),(15,_),(196,_)] rfl (kW ?_)))))))))))))));clear H a;intro a H
   refine Cf (H.o rfl) (Wk0 (thn (Rl [_,_,_,_,_] (wl H (Ez.mv H rfl) rfl (kM rfl rfl (kM rfl rfl (kL (fun a H=>Ez.ix80 H rfl rfl j rfl (by omega)) rfl ?_)))))));clear H a;intro a H
   refine wls H (Ez.st103 H rfl rfl rfl (hD.q.cell (by omega)) (hD.q.fz _)) ?_;clear H;intro H
   replace H:Hd a 201 [_] [(0,_),(2,_),(3,_),(8,_),(9,_),(10,_),(11,_),(12,_),(13,_),(14,_)]:=H.pick [0,2,3,8,9,10,11,12,13,14]
   refine Wn ?_
   have hD:=hD.wq (hD.q.set (j:=0+j) (by omega) hf1) (Fr.bl _)
   obtain ⟨hN1,hN2⟩:=kd_next (X4:=X4) (Qn:=up Q1 (0+j) q2) (by omega) hrr hup hTe hf2 hf3 hf4 hsum (.inl ⟨hjm,by rw [Nat.zero_add,Qz],fun k hk=>Qx (by omega)⟩)
   refine bn (thn (Rl [_,_,_] (wl H (Ez.mv H rfl) rfl (kL (fun a H=>Ez.subI H rfl rfl rfl (by omega)) rfl (kA rfl rfl (kP [(0,_),(2,_),(3,_),(8,_),(9,_),(10,_),(11,_),(12,_),(13,_),(14,_)] rfl (kW (kP [(0,_),(2,_),(3,_),(8,_),(9,_),(10,_),(11,_),(12,_),(13,_),(14,_)] rfl ?_))))))));clear H a;intro a H
   first
    | exact ⟨j,by omega,j,_,_,_,_,_,rfl,by omega,H,by omega,hD,.inr ⟨by omega,fun h1=>by rw [show j+n - 1=j - 1+n by omega]⟩,hN1,hN2⟩
  have hjm:j=m:=by omega
  have hq2:=hf5 hjm
  refine Rl [_,_,_,_,_,_,_,_,_,_,_,_,_] (wl H (Ez.mv H rfl) rfl (kM rfl rfl (kL (fun a H=>Ez.eql (r:=true) H rfl rfl (by (simp;omega))) rfl (kM rfl rfl (kG (fun a H=>Ez.mv H rfl) rfl rfl rfl rfl rfl (kG (fun a H=>Ez.mv H rfl) rfl rfl rfl rfl rfl (kG (fun a H=>Ez.len80 H rfl) rfl rfl rfl rfl rfl (kG (fun a H=>Ez.eql (r:=true) H rfl rfl (by simp)) rfl rfl rfl rfl rfl (kL (fun a H=>Ez.pkT H rfl rfl) rfl (kM rfl rfl (kG (fun a H=>Ez.mv H rfl) rfl rfl rfl rfl rfl (kG (fun a H=>Ez.eql (r:=true) H rfl rfl (by (simp;exact hq2))) rfl rfl rfl rfl rfl (kL (fun a H=>Ez.pkT H rfl rfl) rfl (kP [(0,_),(2,_),(3,_),(8,_),(9,_),(10,_),(11,_),(12,_),(13,_),(14,_),(15,_),(196,_)] rfl (kW ?_)))))))))))))));clear H a;intro a H
  obtain ⟨hN1,hN2⟩:=kd_next (X4:=X4) (Qn:=Q1) (by omega) hrr hup hTe hf2 hf3 hf4 hsum (.inr ⟨hjm,hq2⟩)
  refine Ct (H.o rfl) (We (thx (bxe (thn (Rl [_,_,_] (wl H (Ez.mv H rfl) rfl (kL (fun a H=>Ez.subI H rfl rfl rfl (by omega)) rfl (kA rfl rfl (kP [(0,_),(2,_),(3,_),(8,_),(9,_),(10,_),(11,_),(12,_),(13,_),(14,_)] rfl (kW (kP [(0,_),(2,_),(3,_),(8,_),(9,_),(10,_),(11,_),(12,_),(13,_),(14,_)] rfl ?_)))))))))));clear H a;intro a H
  first
   | exact ⟨j,by omega,j,_,_,_,_,_,rfl,by omega,H,by omega,hD,.inr ⟨by omega,fun h1=>by rw [show j+n - 1=j - 1+n by omega]⟩,hN1,hN2⟩
 have hi0:i=0:=by have:=Df hb0;omega
 subst hi0
 refine We (thx (thx (bxe ?_)))
 refine lvn H (leave cf130 (stkRestore bs w0.heap.size wL hD.s) ?_)
 rintro w' ⟨hS',hF',_⟩
 refine lv0 H rfl ⟨Q1,X,rfl,hD.q.fr hF' (fun _ e=>by have:=hq.lt;exact absurd e (by unfold Hi;omega)),hD.u.fr hF' (fun _ e=>by have:=hu.lt;exact absurd e (by unfold Hi;omega)),?_,?_,hS',hD.f.hi hF'⟩
 ·rw [<-hsum,Qm];simp
 rw [Qm] at hR;exact hR
end
section
set_option maxRecDepth 8000
def Dj (q q':Option Addr):Prop:=∀k j j',TQ q k j->¬TQ q' k j'
theorem Dj.symm {q q':Option Addr} (h:Dj q q'):Dj q' q:=fun k j j' h1 h2=>h k j' j h2 h1
theorem Dj.own {w:World} {q q' p:Option Addr} {n c:Nat} {X:Nat->Int} (h:Dj q p) (ho:Own w q q') (hp:Sl w p n c X):Dj q' p:=fun k j j' h1 h2=>by
 rcases ho k j h1 with h3 | h3
 ·exact h k j j' h3 h2
 have:=hp.lt h2;omega
theorem Dj.ne {b b' o o':Nat} (h:Dj (some ⟨b,o,none⟩) (some ⟨b',o',none⟩)):b≠b':=fun e=>h b 0 0 (Qt.2 rfl) (Qt.2 e)
theorem Dj.of {b b' o o':Nat} (h:b≠b'):Dj (some ⟨b,o,none⟩) (some ⟨b',o',none⟩):=fun k j j' h1 h2=>h ((Qt.1 h1).symm.trans (Qt.1 h2))
theorem Dj.nil (q:Option Addr):Dj none q:=fun _ _ _ h=>(Q9 h).elim
theorem Dj.sh {q q':Option Addr} {w:World} {n c:Nat} {X:Nat->Int} (h:Dj q q') (hs:Sl w q n c X):¬Sh q q':=by
 rintro ⟨rfl,h2⟩
 rcases hs with ⟨h0,_⟩ | ⟨b,rfl,_⟩
 ·exact h2 h0
 exact h.ne rfl
theorem Wk.neC {w:World} {b c k:Nat} {X:Nat->Int} {i:Int} (h:Wk w b c X) (hc:0 < c) (hk:w.cell? ⟨k,0,none⟩=some (.int .i64 i)):b≠k:=by
 rintro rfl
 rw [h.cell (j:=0) hc] at hk;cases hk
def T3 (q r:Option Addr) (b:Nat):Nat->Nat->Prop:=fun k j=>TQ q k j\/TQ r k j\/k=b
def T2 (q r:Option Addr):Nat->Nat->Prop:=fun k j=>TQ q k j\/TQ r k j
theorem Lz.pow {y s:Nat} (h:Lz y s):(y+1)*2 ^ s<=18446744073709551616:=by
 obtain ⟨h1,h2,h3⟩:=h
 have e:18446744073709551616=2 ^ (64 - s)*2 ^ s:=by rw [<-Nat.pow_add,show 64 - s+s=64 by omega]
 rw [e] at h3 ⊢
 have h4:y < 2 ^ (64 - s):=Nat.lt_of_mul_lt_mul_right h3
 exact Nat.mul_le_mul_right _ h4
theorem shl_top {Y V:Nat->Int} {n y s:Nat} {c:Int} (hn:1<=n) (hY:∀j,j < n->U64 (Y j)) (hV:∀j,j < n->U64 (V j)) (hy:Y (n - 1)=y) (hL:Lz y s) (hc:0<=c) (h:nv V n+c*BB ^ n=nv Y n*2 ^ s):
 c=0/\9223372036854775808<=V (n - 1):=by
 obtain ⟨k,rfl⟩:∃k,n=k+1:=⟨n - 1,by omega⟩
 simp only [Nat.add_sub_cancel] at hy ⊢
 have hP:=Q3 k
 have e1:BB ^ (k+1)=18446744073709551616*BB ^ k:=by rw [Int.pow_succ,Int.mul_comm];rfl
 have h2p:(0:Int) < 2 ^ s:=Int.pow_pos (by decide)
 have hlo:(y:Int)*BB ^ k<=nv Y (k+1):=by
  have:=Q5 k (fun j hj=>hY j (by omega))
  simp only [nv];rw [hy];omega
 have hhi:nv Y (k+1) < ((y:Int)+1)*BB ^ k:=by
  have:=Kn k (fun j hj=>hY j (by omega))
  simp only [nv];rw [hy,Int.add_mul];omega
 have hp:=hL.pow
 have hp':((y:Int)+1)*2 ^ s<=18446744073709551616:=by
  have e:(((y+1)*2 ^ s:Nat):Int)=((y:Int)+1)*2 ^ s:=by simp [Int.natCast_mul,Int.natCast_pow]
  rw [<-e];generalize (y+1)*2 ^ s=p at hp ⊢;omega
 have hl':(9223372036854775808:Int)<=y*2 ^ s:=by
  have e:((y*2 ^ s:Nat):Int)=(y:Int)*2 ^ s:=by simp [Int.natCast_mul,Int.natCast_pow]
  have h:=hL.2.1
  rw [<-e];generalize y*2 ^ s=p at h ⊢;omega
 have h1:nv Y (k+1)*2 ^ s < BB ^ (k+1):=by
  have h3:nv Y (k+1)*2 ^ s < ((y:Int)+1)*BB ^ k*2 ^ s:=Int.mul_lt_mul_of_pos_right hhi h2p
  have h4:=Mr hp' (Int.le_of_lt hP)
  rw [Int.mul_assoc,Int.mul_comm (2 ^ s),<-Int.mul_assoc] at h4
  omega
 have h5:=Q5 (k+1) hV
 have hc0:c=0:=by
  by_cases hc0:c=0
  ·exact hc0
  have:=Mr (show 1<=c by omega) (Int.le_of_lt (Q3 (k+1)))
  omega
 refine ⟨hc0,?_⟩
 rw [hc0] at h
 simp only [Int.zero_mul,Int.add_zero] at h
 have h6:=Mr hlo (Int.le_of_lt h2p)
 have h7:=Mr hl' (Int.le_of_lt hP)
 have h8:=Kn k (fun j hj=>hV j (by omega))
 rw [Int.mul_assoc,Int.mul_comm (BB ^ k),<-Int.mul_assoc,<-h] at h6
 simp only [nv] at h6
 by_cases hf:9223372036854775808<=V k
 ·exact hf
 exfalso
 have:=Mr (show V k+1<=9223372036854775808 by omega) (Int.le_of_lt hP)
 rw [Int.add_mul,Int.one_mul] at this
 omega
theorem shr_back {X Z:Nat->Int} {n s:Nat} {R:Int} (hn:1<=n) (hs:s<=63) (h:nv X n=R*2 ^ s) (hz:nvo Z 0 n*2 ^ s+X 0 % 2 ^ s=nvo X 0 n):nv Z n=R:=by
 rw [Qm,Qm] at hz
 have h2p:(0:Int) < 2 ^ s:=Int.pow_pos (by decide)
 obtain ⟨k,rfl⟩:∃k,n=k+1:=⟨n - 1,by omega⟩
 have e:nv X (k+1)=X 0+BB*nvo X 1 k:=by rw [<-Qm,nvo_cons]
 have eB:BB=2 ^ s*2 ^ (64 - s):=by rw [<-Int.pow_add,show s+(64 - s)=64 by omega];rfl
 have h0:X 0 % 2 ^ s=0:=by
  have:X 0=2 ^ s*(R - 2 ^ (64 - s)*nvo X 1 k):=by
   rw [Int.mul_sub,<-Int.mul_assoc,<-eB,Int.mul_comm (2 ^ s) R];omega
  rw [this];exact Int.mul_emod_right _ _
 rw [h0,Int.add_zero,h] at hz
 exact Int.eq_of_mul_eq_mul_right (by omega) hz
theorem len_le {X:Nat->Int} {k n:Nat} (hu:∀j,j < k->U64 (X j)) (hN:Nm X k) (h:nv X k < BB ^ n):k<=n:=by
 by_cases hk:k<=n
 ·exact hk
 rcases hN with h0 | h0
 ·omega
 have h1:=nv_ge (by omega) hu h0
 have h2:=BBn_le (show n<=k - 1 by omega)
 omega
theorem frOwn {w0 w w':World} {qz qu:Option Addr} {bs bu:Nat} (hF:Fr (T3 qz qu bs) w0 w) (ho:Own w0 qu (some ⟨bu,0,none⟩)) (h:Fr (Bl bu) w w'):Fr (T3 qz qu bs) w0 w':=by
 refine ((hF.mono (T:=fun k j=>T3 qz qu bs k j\/w0.heap.size<=k) fun k o _ h=>.inl h).trans (h.mono fun k o _ e=>?_)).mono fun k o hk h=>?_
 ·have e:k=bu:=e
  rcases ho bu 0 (Qt.2 rfl) with h | h
  ·exact .inl (.inr (.inl (by rw [e];exact h)))
  exact .inr (by omega)
 rcases h with h | h
 ·exact h
 omega
set_option maxHeartbeats 2000000 in
theorem divLarge (qz qu qx qy:Option Addr) (bs nz cz nu cu m cx n cy:Nat) (Z Uz X Y:Nat->Int) (w:World) (hz:Sl w qz nz cz Z) (hu:Sl w qu nu cu Uz) (hx:Sl w qx (m+n) cx X) (hy:Sl w qy n cy Y) (hS:StN w bs) (hg:w.cell? ⟨1,0,none⟩=some (.int .i64 40)) (hdzu:Dj qz qu) (hdux:Dj qu qx) (hduy:Dj qu qy) (hn:2<=n) (hn4:n<=4) (hm:m < 30) (hNy:Nm Y n):
 Calls Tryz.prog 119 #[.slice qz nz cz,pz bs,.slice qu nu cu,.slice qx (m+n) cx,.slice qy n cy] w fun e w'=>∃q' k c' Xq r' kr cr Xr,e=.returned (.tuple #[.slice q' k c',.slice r' kr cr])/\Sl w' q' k c' Xq/\Sl w' r' kr cr Xr/\k<=m+1/\kr<=n/\nv Xq k*nv Y n+nv Xr kr=nv X (m+n)/\nv Xr kr < nv Y n/\Nm Xq k/\Nm Xr kr/\Own w qz q'/\Own w qu r'/\Dj q' r'/\Stk w.heap.size w' bs/\Fr (T3 qz qu bs) w w':=by
 obtain ⟨w0,hw0⟩:∃w0,w0=w:=⟨w,rfl⟩
 rw [<-hw0]
 rw [<-hw0] at hz hu hx hy hS hg
 clear hw0 w
 refine enterD (vs:= [.slice qz nz cz,pz bs,.slice qu nu cu,.slice qx (m+n) cx,.slice qy n cy]) Tryz.func119 rfl rfl ?_
 intro a H
 replace H:Hd a 101 [] [(0,.slice qz nz cz),(1,pz bs),(2,.slice qu nu cu),(3,.slice qx (m+n) cx),(4,.slice qy n cy)]:=H
 refine Sq (Rl [_,_] (wl H (Ez.asn H rfl) rfl (kA rfl rfl (kW (kS (kR [_,_,_] (kM rfl rfl (kL (fun a H=>Ez.len80 H rfl) rfl (kA rfl rfl (kP [(0,_),(1,_),(2,_),(3,_),(4,_),(10,_),(11,_),(12,_)] rfl (kW (kS (kR [_,_,_,_,_] (kM rfl rfl (kL (fun a H=>Ez.len80 H rfl) rfl (kM rfl rfl (kL (fun a H=>Ez.subI (r:=(m:Int)) H rfl rfl (by omega) (by omega)) rfl (kA rfl rfl (kP [(0,_),(1,_),(2,_),(3,_),(4,_),(10,_),(11,_),(12,_),(13,_)] rfl (kW (kS (kR [_,_,_,_] (kM rfl rfl (kM rfl rfl ?_))))))))))))))))))))))));clear H a;intro a H
 refine wk H cf131 (stkSave bs w0 hS) rfl rfl ?_
 rintro _ w1 ⟨rfl,rfl⟩
 refine ⟨_,rfl,?_⟩;clear H a;intro a H
 refine wld H (Ez.dfr H (vs:= [_,_]) rfl) ?_;clear H a;intro a H
 refine kP [(0,_),(1,_),(2,_),(3,_),(4,_),(10,_),(11,_),(12,_),(13,_)] rfl (kW (kS ?_)) a H;clear H a;intro a H
 have hxl:=hx.le
 have hyl:=hy.le
 obtain ⟨bx,rfl,_,hWx⟩:=hx.blk (by omega)
 obtain ⟨by_,rfl,_,hWy⟩:=hy.blk (by omega)
 have hXu:∀k,k < m+n->U64 (X k):=fun k hk=>hWx.u k (by omega)
 have hYu:∀k,k < n->U64 (Y k):=fun k hk=>hWy.u k (by omega)
 obtain ⟨y,hyt⟩:=Eo (hYu (n - 1) (by omega)).1
 have hyB:=(hYu (n - 1) (by omega)).2
 have hyz:0 < y:=by
  rcases hNy with h | h
  ·omega
  omega
 refine Rl [_,_,_,_,_,_,_] (wl H (Ez.mv H rfl) rfl (kM rfl rfl (kL (fun a H=>Ez.subI (r:=((n - 1:Nat):Int)) H rfl rfl (by omega) (by omega)) rfl (kL (fun a H=>Ez.ix80 H rfl rfl (n - 1) rfl (by omega)) rfl (kL (fun a H=>Ez.ld103 H rfl ((by rw [Nat.zero_add];exact hWy.cell (by omega)))) rfl ?_)))));clear H a;intro a H
 rw [hyt] at H
 refine wk H cf120 (nlz y (by omega) hyz w0) rfl rfl ?_
 rintro _ w1 ⟨s,rfl,hL,rfl⟩
 refine ⟨_,rfl,?_⟩;clear H a;intro a H
 have hs64:=hL.1
 refine wl H (Ez.asn H rfl) rfl (kP [(0,_),(1,_),(2,_),(3,_),(4,_),(10,_),(11,_),(12,_),(13,_),(14,_)] rfl (kW (kS (kR [_,_,_,_] (kM rfl rfl (kM rfl rfl ?_))))));clear H a;intro a H
 refine wk H cf132 (stkNat bs n w0 hS (by omega) (by omega)) rfl rfl ?_
 rintro _ w1 ⟨bv,cv,mv,V1,rfl,g1,g2,g3,g4,_,_,g5⟩
 refine ⟨_,rfl,?_⟩;clear H a;intro a H
 have hF1:=g5 (by omega)
 have hS1:=hS.fr hF1 (fun f=>f)
 have hx1:=hx.frN hF1
 have hy1:=hy.frN hF1
 have hu1:=hu.frN hF1
 have hz1:=hz.frN hF1
 have hg1:=hF1.someCell hg (fun f=>f)
 clear g5
 refine wl H (Ez.asn H rfl) rfl (kP [(0,_),(1,_),(2,_),(3,_),(4,_),(10,_),(11,_),(12,_),(13,_),(14,_),(15,_)] rfl (kW (kS (kR [_,_,_,_,_,_] (kM rfl rfl (kM rfl rfl (kL (fun a H=>Ez.len80 H rfl) rfl (kL (fun a H=>Ez.addI (r:=((m+1+n:Nat):Int)) H rfl rfl (by omega) (by omega)) rfl ?_))))))));clear H a;intro a H
 refine wk H cf82 (J9 qu nu cu (m+1+n) Uz w1 hu1 (by omega)) rfl rfl ?_
 rintro _ w1 ⟨q1,cu1,U1,rfl,k1,k2,k3⟩
 refine ⟨_,rfl,?_⟩;clear H a;intro a H
 have hF2:=hF1.trans k3
 have hS2:=hS1.fr k3 (fun f=>f)
 have hWx2:=(hWx.fr hF1 (fun _ f=>f)).fr k3 (fun _ f=>f)
 have hWy2:=(hWy.fr hF1 (fun _ f=>f)).fr k3 (fun _ f=>f)
 have hz2:=hz1.frN k3
 have hg2:=k3.someCell hg1 (fun f=>f)
 have hWv2:=g4.fr k3 (fun _ f=>f)
 have hk1:=k1.le
 obtain ⟨bu,rfl,_,hWu2⟩:=k1.blk (by omega)
 have how:Own w0 qu (some ⟨bu,0,none⟩):=(Own.refl w0 qu).trans (fun k j h=>(k2 k j h).imp id (fun h=>Nat.le_trans hF1.size h)) (Nat.le_refl _)
 have hbux:bu≠bx:=(hdux.own how hx).ne
 have hbuy:bu≠by_:=(hduy.own how hy).ne
 have hbvx:bv≠bx:=by have:=hWx.lt;omega
 have hbvy:bv≠by_:=by have:=hWy.lt;omega
 have hbuv:bu≠bv:=by
  rcases k2 bu 0 (Qt.2 rfl) with h | h
  ·have:=hu.lt h;omega
  have:=g4.lt;omega
 clear k1 k2 k3 hu1 hz1 hx1 hy1 hg1 hS1 hF1
 refine wl H (Ez.asn H rfl) rfl (kP [(0,_),(1,_),(2,_),(3,_),(4,_),(10,_),(11,_),(12,_),(13,_),(14,_),(15,_)] rfl (kW ?_));clear H a;intro a H
 refine Jf (fun a w=>∃V3 U3:Nat->Int,Hd a 101 [⟨.fn (.func 130) #[],#[pz bs,.int .i64 0]⟩] [(0,.slice qz nz cz),(1,pz bs),(2,.slice (some ⟨bu,0,none⟩) (m+1+n) cu1),(12,.int .i64 n),(13,.int .i64 m),(14,.int .u64 s),(15,.slice (some ⟨bv,0,none⟩) n mv)]/\Wk w bu cu1 U3/\Wk w bv cv V3/\nv V3 n=nv Y n*2 ^ s/\nv U3 (m+1+n)=nv X (m+n)*2 ^ s/\U3 (m+n) < 9223372036854775808/\StN w bs/\Sl w qz nz cz Z/\w.cell? ⟨1,0,none⟩=some (.int .i64 40)/\Fr (T3 qz qu bs) w0 w) ?_ ?_
 ·refine Sq (Rl [_,_] (wl H (Ez.mv H rfl) rfl (kL (fun a H=>Ez.eql H rfl rfl (rfl)) rfl (kP [(0,_),(1,_),(2,_),(3,_),(4,_),(10,_),(11,_),(12,_),(13,_),(14,_),(15,_),(40,_)] rfl (kW ?_)))));clear H a;intro a H
  refine Cs (H.o rfl) (fun hb0=>?_) (fun hb0=>?_)
  ·have hs0:s=0:=by have:=Dt hb0;omega
   subst hs0
   refine Sq (Rl [_,_,_] (wl H (Ez.mv H rfl) rfl (kM rfl rfl ?_)));clear H a;intro a H
   obtain ⟨w3,e2,hWv3,hF3⟩:=Ez.copyW (x:=.tmp 41) (y:=.tmp 42) (T:=80) (T':=80) (d:=some 43) (ty:=3) (pos:=_) (after:=_) (g:=none) H rfl rfl (.inr rfl) hWv2 hWy2 n (by simp) (by omega) (by omega)
   refine wl H (e2) rfl ?_;clear e2 H a;intro a H
   refine kP [(0,_),(1,_),(2,_),(3,_),(10,_),(11,_),(12,_),(13,_),(14,_),(15,_)] rfl (kW ?_) a H;clear H a;intro a H
   have hWu3:=hWu2.fr hF3 (fun _ e=>hbuv e)
   have hWx3:=hWx2.fr hF3 (fun _ e=>hbvx (Eq.symm e))
   refine Sq (Rl [_,_,_,_,_,_] (wl H (Ez.mv H rfl) rfl (kM rfl rfl (kL (fun a H=>Ez.len80 H rfl) rfl (kL (fun a H=>Ez.slH80 H rfl rfl (m+n) rfl (by omega)) rfl (kM rfl rfl ?_))))));clear H a;intro a H
   obtain ⟨w4,e2,hWu4,hF4⟩:=Ez.copyW (x:=.tmp 47) (y:=.tmp 48) (T:=80) (T':=80) (d:=some 49) (ty:=3) (pos:=_) (after:=_) (g:=none) H rfl rfl (.inr rfl) hWu3 hWx3 (m+n) (by simp) (by omega) (by omega)
   refine wl H (e2) rfl ?_;clear e2 H a;intro a H
   refine kP [(0,_),(1,_),(2,_),(3,_),(10,_),(11,_),(12,_),(13,_),(14,_),(15,_)] rfl (kW (kR [_,_,_,_,_] (kM rfl rfl (kM rfl rfl (kL (fun a H=>Ez.len80 H rfl) rfl (kL (fun a H=>Ez.ix80 H rfl rfl (m+n) rfl (by omega)) rfl ?_)))))) a H;clear H a;intro a H
   refine wls H (Ez.st103 H rfl rfl rfl (hWu4.cell (by omega)) (hWu4.fz _)) ?_;clear H;intro H
   refine kP [(0,_),(1,_),(2,_),(10,_),(11,_),(12,_),(13,_),(14,_),(15,_)] rfl (kW ?_) a H;clear H a;intro a H
   have hWv4:=hWv3.fr hF4 (fun _ e=>hbuv (Eq.symm e))
   have hWv5:=hWv4.other (p:=⟨bu,0+(m+n),none⟩) (fun e=>hbuv (Eq.symm e)) (.int .u64 0)
   have hWu5:=hWu4.set (j:=0+(m+n)) (by omega) (v:=0) ⟨by decide,by decide⟩
   have hFv:Fr (Bl bv) w1 w3:=hF3
   have hFu:Fr (Bl bu) w3 (w4.setCell ⟨bu,0+(m+n),none⟩ (.int .u64 0)):=hF4.trans (Fr.bl _)
   have hvv:nv (cp V1 0 Y 0 n) n=nv Y n*2 ^ 0:=by
    rw [Int.pow_zero,Int.mul_one];exact Ja n fun j hj=>by have:=cp_in (Z:=V1) (oz:=0) (X:=Y) (ox:=0) hj;simpa using this
   have huu:nv (up (cp U1 0 X 0 (m+n)) (0+(m+n)) 0) (m+1+n)=nv X (m+n)*2 ^ 0:=by
    rw [Int.pow_zero,Int.mul_one,show m+1+n=(m+n)+1 by omega]
    simp only [nv]
    rw [Nat.zero_add,Qz]
    simp only [Int.zero_mul,Int.add_zero]
    exact Ja _ fun j hj=>by rw [Qx (by omega)];have:=cp_in (Z:=U1) (oz:=0) (X:=X) (ox:=0) hj;simpa using this
   have hut:(up (cp U1 0 X 0 (m+n)) (0+(m+n)) 0) (m+n) < 9223372036854775808:=by rw [Nat.zero_add,Qz];decide
   replace H:Hd a 101 [_] [(0,_),(1,_),(2,_),(12,_),(13,_),(14,_),(15,_)]:=H.pick [0,1,2,12,13,14,15]
   have hnb:∀k j,TQ qz k j->k≠bu/\k≠bv:=fun k j h=>⟨fun e=>(hdzu.symm.own how hz) bu j j (Qt.2 rfl) (by rw [<-e];exact h),fun e=>by have:=hz.lt h;omega⟩
   have hWv0:=hWv2
   refine ⟨_,_,H,hWu5,hWv5,hvv,huu,hut,?_,?_,?_,?_⟩
   ·exact (hS2.fr hFv (fun e=>hS2.ne hWv2 (by omega) (Eq.symm e))).fr hFu (fun e=>hS2.ne hWu2 (by omega) (Eq.symm e))
   ·exact (hz2.fr hFv (fun k j o h e=>(hnb k j h).2 e)).fr hFu (fun k j o h e=>(hnb k j h).1 e)
   ·exact hFu.someCell (hFv.someCell hg2 (fun e=>hWv2.neC (by omega) hg2 (Eq.symm e))) (fun e=>hWu2.neC (by omega) hg2 (Eq.symm e))
   refine ((hF2.noT.plus hFv g1).trans (hFu.mono (T:=fun k j=>TQ qz k j\/TQ qu k j\/k=bs\/w0.heap.size<=k) fun k o _ e=>?_) |>.mono (T:=T3 qz qu bs) fun k o hk h=>?_)
   ·have e:k=bu:=e
    rcases how bu 0 (Qt.2 rfl) with h | h
    ·exact .inr (.inl (by rw [e];exact h))
    exact .inr (.inr (.inr (by omega)))
   rcases h with h | h | h | h
   ·exact .inl h
   ·exact .inr (.inl h)
   ·exact .inr (.inr h)
   omega
  have hs1:1<=s:=by have:=Df hb0;omega
  refine Sq (Rl [_,_,_,_] (wl H (Ez.mv H rfl) rfl (kM rfl rfl (kM rfl rfl ?_))));clear H a;intro a H
  refine wk H cf133 (lshVU bv 0 cv by_ 0 cy n mv cy s V1 Y w1 hWv2 hWy2 (fun e=>absurd e.symm hbvy) (by omega) (by omega) (by omega) (by omega) hs1 (by omega)) rfl rfl ?_
  rintro _ w1 ⟨cc,V2,rfl,a1,a2,a3,a4,a5⟩
  refine ⟨_,rfl,?_⟩;clear H a;intro a H
  have hWu3:=hWu2.fr a5 (fun _ e=>hbuv e)
  have hWx3:=hWx2.fr a5 (fun _ e=>hbvx (Eq.symm e))
  refine kP [(0,_),(1,_),(2,_),(3,_),(10,_),(11,_),(12,_),(13,_),(14,_),(15,_)] rfl (kW (kR [_,_,_,_,_,_,_,_,_,_,_,_] (kM rfl rfl (kM rfl rfl (kL (fun a H=>Ez.len80 H rfl) rfl (kM rfl rfl (kM rfl rfl (kL (fun a H=>Ez.len80 H rfl) rfl (kL (fun a H=>Ez.slH80 H rfl rfl (m+n) rfl (by omega)) rfl (kM rfl rfl (kM rfl rfl ?_))))))))))) a H;clear H a;intro a H
  refine wk H cf133 (lshVU bu 0 cu1 bx 0 cx (m+n) cu1 cx s U1 X w1 hWu3 hWx3 (fun e=>absurd e.symm hbux) (by omega) (by omega) (by omega) (by omega) hs1 (by omega)) rfl rfl ?_
  rintro _ w1 ⟨cu2,U2,rfl,b1,b2,b3,b4,b5⟩
  refine ⟨_,rfl,?_⟩;clear H a;intro a H
  refine wl H (Ez.ix80 H rfl rfl (m+n) rfl (by omega)) rfl ?_;clear H a;intro a H
  refine wls H (Ez.st103 H rfl rfl rfl (b1.cell (by omega)) (b1.fz _)) ?_;clear H;intro H
  refine kP [(0,_),(1,_),(2,_),(10,_),(11,_),(12,_),(13,_),(14,_),(15,_)] rfl (kW ?_) a H;clear H a;intro a H
  have h2s:(2:Int) ^ s<=9223372036854775808:=by
   have h:2 ^ s<=2 ^ 63:=Nat.pow_le_pow_right (by decide) (by omega)
   have e:((2 ^ s:Nat):Int)=2 ^ s:=by simp [Int.natCast_pow]
   rw [<-e];generalize 2 ^ s=p at h ⊢;omega
  have hcu64:U64 cu2:=⟨b4.1,by omega⟩
  have hWv4:=a1.fr b5 (fun _ e=>hbuv (Eq.symm e))
  have hWv5:=hWv4.other (p:=⟨bu,0+(m+n),none⟩) (fun e=>hbuv (Eq.symm e)) (.int .u64 cu2)
  have hWu5:=b1.set (j:=0+(m+n)) (by omega) hcu64
  have hFv:=a5
  have hFu:=b5.trans (Fr.bl (b:=bu) (j:=0+(m+n)) (.int .u64 cu2))
  rw [Qm,Qm] at a3 b3
  have hc0:=shl_top (by omega) hYu (fun j hj=>a1.u j (by omega)) hyt hL a4.1 a3
  have hvv:nv V2 n=nv Y n*2 ^ s:=by rw [<-a3,hc0.1];simp
  have huu:nv (up U2 (0+(m+n)) cu2) (m+1+n)=nv X (m+n)*2 ^ s:=by
   rw [show m+1+n=(m+n)+1 by omega]
   simp only [nv]
   rw [Nat.zero_add,Qz,<-b3]
   congr 1
   exact Ja _ fun j hj=>Qx (by omega)
  have hut:(up U2 (0+(m+n)) cu2) (m+n) < 9223372036854775808:=by rw [Nat.zero_add,Qz];omega
  replace H:Hd a 101 [_] [(0,_),(1,_),(2,_),(12,_),(13,_),(14,_),(15,_)]:=H.pick [0,1,2,12,13,14,15]
  have hnb:∀k j,TQ qz k j->k≠bu/\k≠bv:=fun k j h=>⟨fun e=>(hdzu.symm.own how hz) bu j j (Qt.2 rfl) (by rw [<-e];exact h),fun e=>by have:=hz.lt h;omega⟩
  have hWv0:=hWv2
  refine ⟨_,_,H,hWu5,hWv5,hvv,huu,hut,?_,?_,?_,?_⟩
  ·exact (hS2.fr hFv (fun e=>hS2.ne hWv2 (by omega) (Eq.symm e))).fr hFu (fun e=>hS2.ne hWu2 (by omega) (Eq.symm e))
  ·exact (hz2.fr hFv (fun k j o h e=>(hnb k j h).2 e)).fr hFu (fun k j o h e=>(hnb k j h).1 e)
  ·exact hFu.someCell (hFv.someCell hg2 (fun e=>hWv2.neC (by omega) hg2 (Eq.symm e))) (fun e=>hWu2.neC (by omega) hg2 (Eq.symm e))
  refine ((hF2.noT.plus hFv g1).trans (hFu.mono (T:=fun k j=>TQ qz k j\/TQ qu k j\/k=bs\/w0.heap.size<=k) fun k o _ e=>?_) |>.mono (T:=T3 qz qu bs) fun k o hk h=>?_)
  ·have e:k=bu:=e
   rcases how bu 0 (Qt.2 rfl) with h | h
   ·exact .inr (.inl (by rw [e];exact h))
   exact .inr (.inr (.inr (by omega)))
  rcases h with h | h | h | h
  ·exact .inl h
  ·exact .inr (.inl h)
  ·exact .inr (.inr h)
  omega
 clear H a
 intro a w hJ
 obtain ⟨V3,U3,H,hWu,hWv,hvv,huu,hut,hS3,hz3,hg3,hF3⟩:=hJ
 have hVu:∀j,j < n->U64 (V3 j):=fun j hj=>hWv.u j (by omega)
 obtain ⟨_,hvt⟩:=shl_top (c:=0) (by omega) hYu hVu hyt hL (Int.le_refl _) (by rw [Int.zero_mul,Int.add_zero];exact hvv)
 clear hWu2 hWv2 hWx2 hWy2 hz2 hg2 hS2 g4
 refine Sq (Sq (Rl [_,_,_] (wl H (Ez.mv H rfl) rfl (kM rfl rfl ?_))));clear H a;intro a H
 refine wk H cf85 (natAlias qz (some ⟨bu,0,none⟩) nz cz (m+1+n) cu1 Z U3 w hz3 (Sl.of hWu (by omega) (by omega))) rfl rfl ?_
 rintro _ w1 ⟨rfl,hC⟩
 refine ⟨_,rfl,?_⟩;clear H a;intro a H
 rw [decide_eq_false (((hdzu.symm.own how hz).symm).sh hz)] at H
 refine kP [(0,_),(1,_),(2,_),(12,_),(13,_),(14,_),(15,_),(71,_)] rfl (kW ?_) a H;clear H a;intro a H
 refine Cf (H.o rfl) (Wk0 (thn (Sq (Rl [_,_,_,_,_] (wl H (Ez.mv H rfl) rfl (kM rfl rfl (kL (fun a H=>Ez.addI (r:=((m+1:Nat):Int)) H rfl rfl (by omega) (by omega)) rfl ?_)))))));clear H a;intro a H
 refine wk H cf82 (J9 qz nz cz (m+1) Z w1 (hz3.cd hC) (by omega)) rfl rfl ?_
 rintro _ w1 ⟨q2,cq,Q1,rfl,k1,k2,k3⟩
 refine ⟨_,rfl,?_⟩;clear H a;intro a H
 have hk1:=k1.le
 obtain ⟨bq,rfl,_,hWq⟩:=k1.blk (by omega)
 have hWu':=(hWu.heq hC.heap).fr k3 (fun _ f=>f)
 have hWv':=(hWv.heq hC.heap).fr k3 (fun _ f=>f)
 have hS':=(hS3.fr (hC.fr NoT) (fun f=>f)).fr k3 (fun f=>f)
 have hg':=k3.someCell (hC.cell hg3) (fun f=>f)
 have hF4:=(hF3.trans (hC.fr _)).trans k3.noT
 have howz:Own w0 qz (some ⟨bq,0,none⟩):=fun k j h=>(k2 k j h).imp id (fun h=>Nat.le_trans (hF3.trans (hC.fr _)).size h)
 have hbqu:bq≠bu:=by
  rcases k2 bq 0 (Qt.2 rfl) with h | h
  ·exact fun e=>(hdzu.symm.own how hz) bu 0 0 (Qt.2 rfl) (by rw [<-e];exact h)
  have:=(hWu.heq hC.heap).lt;omega
 have hbqv:bq≠bv:=by
  rcases k2 bq 0 (Qt.2 rfl) with h | h
  ·have:=hz.lt h;omega
  have:=(hWv.heq hC.heap).lt;omega
 clear k1 k2 k3 hWu hWv hS3 hg3 hF3 hz3 hC
 refine wl H (Ez.asn H rfl) rfl (kP [(1,_),(2,_),(10,_),(12,_),(14,_),(15,_)] rfl (kW (kS (kS (kR [_,_,_] (kM rfl rfl (kL (fun a H=>Ez.ld3 H rfl (hg')) rfl (kL (fun a H=>Ez.lss (r:=true) H rfl rfl (by (simp;omega))) rfl (kP [(1,_),(2,_),(10,_),(14,_),(15,_),(78,_)] rfl (kW ?_))))))))));clear H a;intro a H
 refine Ct (H.o rfl) (Rl [_,_,_,_,_] (wl H (Ez.mv H rfl) rfl (kM rfl rfl (kM rfl rfl (kM rfl rfl ?_)))));clear H a;intro a H
 refine wk H cf134 (divBasic bq bu bv bs cq cu1 cv (m+1) n mv Q1 U3 V3 w1 hWq hWu' hWv' hS' hbqu hbqv hbuv (by omega) hn hn4 (by omega) (by omega) (by omega) (by omega) hvt (by rw [show m+1+n - 1=m+n by omega];omega)) rfl rfl ?_
 rintro _ w1 ⟨Q2,R2,rfl,d1,d2,d3,d4,d5,d6⟩
 refine ⟨_,rfl,?_⟩;clear H a;intro a H
 have hd5:=d5.mono (B':=w0.heap.size) hF4.size
 have hF5:Fr (T3 qz qu bs) w0 w1:=by
  refine ((hF4.mono (T:=fun k j=>TQ qz k j\/TQ qu k j\/k=bs\/w0.heap.size<=k) fun k o _ h=>?_).trans (d6.mono fun k o _ h=>?_)).mono fun k o hk h=>?_
  ·rcases h with h | h | h
   ·exact .inl h
   ·exact .inr (.inl h)
   exact .inr (.inr (.inl h))
  ·rcases h with h | h | h
   ·rcases howz bq 0 (Qt.2 rfl) with e | e
    ·exact .inl (by rw [h];exact e)
    exact .inr (.inr (.inr (by omega)))
   ·rcases how bu 0 (Qt.2 rfl) with e | e
    ·exact .inr (.inl (by rw [h];exact e))
    exact .inr (.inr (.inr (by omega)))
   exact .inr (.inr (.inl h))
  rcases h with h | h | h | h
  ·exact .inl h
  ·exact .inr (.inl h)
  ·exact .inr (.inr h)
  omega
 have hbub:bu≠bs:=hS'.ne hWu' (by omega)
 clear d5 d6 hF4 hWu' hWv' hS' hg' hWq
 refine kP [(2,_),(10,_),(14,_)] rfl (kW (kS (kR [_,_,_] (kM rfl rfl ?_)))) a H;clear H a;intro a H
 refine wk H cf84 (Kc _ (m+1) cq Q2 _ (Sl.of d1 (by omega) (by omega)) (by omega)) rfl rfl ?_
 rintro _ w1 ⟨k,rfl,k1,k2,k3,k4,rfl⟩
 refine ⟨_,rfl,?_⟩;clear H a;intro a H
 refine wl H (Ez.asn H rfl) rfl (kP [(2,_),(10,_),(14,_)] rfl (kW ?_));clear H a;intro a H
 have hrem:nv R2 (m+1+n)=(nv X (m+n) - nv Q2 (m+1)*nv Y n)*2 ^ s:=by
  rw [hvv,huu] at d3
  rw [Int.sub_mul,Int.mul_assoc];omega
 have hrlt:nv X (m+n) - nv Q2 (m+1)*nv Y n < nv Y n:=by
  rw [hrem,hvv] at d4
  exact Int.lt_of_mul_lt_mul_right d4 (Int.le_of_lt (Int.pow_pos (by decide)))
 refine Jf (fun a w=>∃R4:Nat->Int,Hd a 101 [⟨.fn (.func 130) #[],#[pz bs,.int .i64 0]⟩] [(2,.slice (some ⟨bu,0,none⟩) (m+1+n) cu1),(10,.slice (some ⟨bq,0,none⟩) k cq)]/\Wk w bu cu1 R4/\Sl w (some ⟨bq,0,none⟩) k cq Q2/\nv R4 (m+1+n)=nv X (m+n) - nv Q2 (m+1)*nv Y n/\Stk w0.heap.size w bs/\Fr (T3 qz qu bs) w0 w) ?_ ?_
 ·refine Sq (Rl [_,_] (wl H (Ez.mv H rfl) rfl (kL (fun a H=>Ez.neq H rfl rfl (rfl)) rfl (kP [(2,_),(10,_),(14,_),(92,_)] rfl (kW ?_)))));clear H a;intro a H
  refine Cs (H.o rfl) (fun hb3=>?_) (fun hb3=>?_)
  ·have hs1:1<=s:=by have:s≠0:=by simpa using hb3
                     omega
   refine Rl [_,_,_,_] (wl H (Ez.mv H rfl) rfl (kM rfl rfl (kM rfl rfl ?_)));clear H a;intro a H
   refine wk H cf136 (rshVU bu 0 cu1 bu 0 cu1 (m+1+n) cu1 cu1 s R2 R2 _ d2 d2 (fun _=>rfl) (by omega) (by omega) (by omega) (by omega) hs1 (by omega)) rfl rfl ?_
   rintro _ w1 ⟨cc,R3,rfl,e1,e2,e3,e4⟩
   refine ⟨_,rfl,?_⟩;clear H a;intro a H
   refine kP [(2,_),(10,_)] rfl (kW ?_) a H;clear H a;intro a H
   have hR3:=shr_back (R:=nv X (m+n) - nv Q2 (m+1)*nv Y n) (by omega) (by omega) hrem e3
   replace H:Hd a 101 [_] [(2,_),(10,_)]:=H.pick [2,10]
   first
    | exact ⟨R3,H,e1,k2.fr e4 (fun kk j o ht e=>hbqu ((Qt.1 ht).symm.trans e)),hR3,hd5.frW d2 (by omega) e4,frOwn hF5 how e4⟩
    | exact ⟨R2,H,d2,k2,by rw [hrem,hs0];simp,hd5,hF5⟩
  have hs0:s=0:=by simpa using hb3
  refine Wk0 (thn ?_)
  replace H:Hd a 101 [_] [(2,_),(10,_)]:=H.pick [2,10]
  first
   | exact ⟨R3,H,e1,k2.fr e4 (fun kk j o ht e=>hbqu ((Qt.1 ht).symm.trans e)),hR3,hd5.frW d2 (by omega) e4,frOwn hF5 how e4⟩
   | exact ⟨R2,H,d2,k2,by rw [hrem,hs0];simp,hd5,hF5⟩
 clear H a
 intro a w hJ
 obtain ⟨R4,H,hWr,hSq,hR4,hSt,hF6⟩:=hJ
 refine Sq (Rl [_,_,_] (wl H (Ez.mv H rfl) rfl ?_));clear H a;intro a H
 refine wk H cf84 (Kc _ (m+1+n) cu1 R4 _ (Sl.of hWr (by omega) (by omega)) (by omega)) rfl rfl ?_
 rintro _ w1 ⟨kr,rfl,l1,l2,l3,l4,rfl⟩
 refine ⟨_,rfl,?_⟩;clear H a;intro a H
 refine wl H (Ez.asn H rfl) rfl (kP [(10,_),(11,_)] rfl (kW (kS (kR [_,_,_,_] (kM rfl rfl (kM rfl rfl (kA rfl rfl (kA rfl rfl (kP [(10,_),(11,_)] rfl (kW ?_))))))))));clear H a;intro a H
 refine Wr ?_
 refine lvd H (leave cf130 (stkRestore bs w0.heap.size w hSt) ?_)
 rintro w' ⟨hS',hF',hKp⟩
 have hkr:nv R4 kr < nv Y n:=by rw [l3,hR4];exact hrlt
 have hlt:=Kn n hYu
 have hhi:∀b,b < w0.heap.size->¬Hi w0.heap.size b 0:=fun b hb e=>by have:w0.heap.size<=b:=e;omega
 have hkn:kr<=n:=len_le (fun j hj=>hWr.u j (by omega)) l4 (by omega)
 have q9:Sl w' (some ⟨bq,0,none⟩) k cq Q2:=hSq.kp hKp
 have r9:Sl w' (some ⟨bu,0,none⟩) kr cu1 R4:=l2.kp hKp
 exact lv2 H rfl rfl rfl ⟨_,k,cq,Q2,_,kr,cu1,R4,rfl,q9,r9,k1,hkn,by rw [k3,l3,hR4];omega,hkr,k4,l4,howz,how,Dj.of hbqu,hS',hF6.hi hF'⟩
end
section
set_option maxRecDepth 8000
set_option maxHeartbeats 2000000 in
theorem natDiv (qz qu qx qy:Option Addr) (nz cz nu cu L cx n cy:Nat) (Z Uz X Y:Nat->Int) (w:World) (hz:Sl w qz nz cz Z) (hu:Sl w qu nu cu Uz) (hx:Sl w qx L cx X) (hy:Sl w qy n cy Y) (hg:w.cell? ⟨1,0,none⟩=some (.int .i64 40)) (hdzu:Dj qz qu) (hdux:Dj qu qx) (hduy:Dj qu qy) (hn:1<=n) (hn4:n<=4) (hm:L < 30) (hNx:Nm X L) (hNy:Nm Y n):
 Calls Tryz.prog 99 #[.slice qz nz cz,.pointer none,.slice qu nu cu,.slice qx L cx,.slice qy n cy] w fun e w'=>∃q' k c' Xq r' kr cr Xr,e=.returned (.tuple #[.slice q' k c',.slice r' kr cr])/\Sl w' q' k c' Xq/\Sl w' r' kr cr Xr/\k<=L+1/\kr<=n/\nv Xq k*nv Y n+nv Xr kr=nv X L/\nv Xr kr < nv Y n/\Nm Xq k/\Nm Xr kr/\Own w qz q'/\Own w qu r'/\Dj q' r'/\Fr (T2 qz qu) w w':=by
 obtain ⟨w0,hw0⟩:∃w0,w0=w:=⟨w,rfl⟩
 rw [<-hw0]
 rw [<-hw0] at hz hu hx hy hg
 clear hw0 w
 refine enterD (vs:= [.slice qz nz cz,.pointer none,.slice qu nu cu,.slice qx L cx,.slice qy n cy]) Tryz.func99 rfl rfl ?_
 intro a H
 replace H:Hd a 54 [] [(0,.slice qz nz cz),(1,.pointer none),(2,.slice qu nu cu),(3,.slice qx L cx),(4,.slice qy n cy)]:=H
 refine Sq (Rl [_,_] (wl H (Ez.asn H rfl) rfl (kA rfl rfl (kW (kS (kS (kR [_,_,_] (kM rfl rfl (kL (fun a H=>Ez.len80 H rfl) rfl (kL (fun a H=>Ez.eql (r:=false) H rfl rfl (by (simp;omega))) rfl (kP [(0,_),(1,_),(2,_),(3,_),(4,_),(10,_),(11,_),(15,_)] rfl (kW ?_))))))))))));clear H a;intro a H
 refine Cf (H.o rfl) (Wk0 (thn (Sq (Sq (Rl [_,_,_] (wl H (Ez.mv H rfl) rfl (kL (fun a H=>Ez.len80 H rfl) rfl (kL (fun a H=>Ez.eql H rfl rfl (rfl)) rfl (kP [(0,_),(1,_),(2,_),(3,_),(4,_),(10,_),(11,_),(19,_)] rfl (kW ?_))))))))));clear H a;intro a H
 refine Cs (H.o rfl) (fun hb1=>?_) (fun hb1=>?_)
 ·have hn1:n=1:=by have:=Dt hb1;omega
  subst hn1
  refine Sq (Rl [_] (wl H (Ez.asn H rfl) rfl (kP [(0,_),(1,_),(2,_),(3,_),(4,_),(10,_),(11,_),(12,_)] rfl (kW (kS ?_)))));clear H a;intro a H
  have hyl:=hy.le
  obtain ⟨by_,rfl,_,hWy⟩:=hy.blk (by omega)
  obtain ⟨y,hyt⟩:=Eo (hWy.u 0 (by omega)).1
  have hyB:=(hWy.u 0 (by omega)).2
  have hyz:0 < y:=by
   rcases hNy with h | h
   ·omega
   simp at h;omega
  refine Rl [_,_,_,_,_,_,_,_,_,_,_] (wl H (Ez.mv H rfl) rfl (kM rfl rfl (kM rfl rfl (kL (fun a H=>Ez.ix80 H rfl rfl 0 rfl (by omega)) rfl (kL (fun a H=>Ez.ld103 H rfl ((hWy.cell (by omega)))) rfl ?_)))));clear H a;intro a H
  rw [Nat.zero_add,hyt] at H
  refine wk H cf115 (natDivW qz qx nz cz L cx y Z X w0 hz hx (by omega) (by omega) hyz hNx) rfl rfl ?_
  rintro _ w1 ⟨q',k,c',X',r,rfl,h1,h2,h3,h4,h5,h6,h7⟩
  refine ⟨_,rfl,?_⟩;clear H a;intro a H
  refine wl H (Ez.mv H rfl) rfl (kL (fun a H=>Ez.ext0 H rfl) rfl (kL (fun a H=>Ez.ext1 H rfl) rfl (kA rfl rfl (kA rfl rfl (kP [(0,_),(1,_),(2,_),(3,_),(4,_),(10,_),(11,_),(12,_)] rfl (kW (kS ?_)))))));clear H a;intro a H
  obtain ⟨wL,rfl⟩:∃wL,wL=w1:=⟨w1,rfl⟩
  refine Rl [_,_,_,_] (wl H (Ez.mv H rfl) rfl (kM rfl rfl ?_));clear H a;intro a H
  refine wk H cf116 (natSetWord qu nu cu Uz r wL (hu.fr h7 (fun k j o a b=>hdzu k o j b a)) ⟨h4.1,by omega⟩) rfl rfl ?_
  rintro _ w1 ⟨r',kr,cr,Xr,rfl,k1,k2,k3,k4,k5,k6⟩
  refine ⟨_,rfl,?_⟩;clear H a;intro a H
  refine wl H (Ez.asn H rfl) rfl (kP [(0,_),(1,_),(2,_),(3,_),(4,_),(10,_),(11,_)] rfl (kW ?_));clear H a;intro a H
  refine Wr (thr ?_)
  refine rtD2 H rfl rfl rfl ?_
  have ho2:Own w0 qu r':=fun k j h=>(k5 k j h).imp id (fun h=>Nat.le_trans h7.size h)
  have hd:Dj q' r':=fun kk j j' a b=>by
   rcases k5 kk j' b with h | h
   ·rcases h6 kk j a with g | g
    ·exact hdzu kk j j' g h
    have:=hu.lt h;omega
   have:=h1.lt a;omega
  have hv1:nv Y 1=y:=by simp [nv,hyt]
  exact ⟨q',k,c',X',r',kr,cr,Xr,rfl,h1.fr k6 (fun kk j o a b=>by
   rcases h6 kk j a with g | g
   ·exact hdzu kk j o g b
   have:=hu.lt b;omega),k1,by omega,by omega,by rw [hv1,k3];omega,by rw [hv1,k3];omega,h5,k4,h6,ho2,hd,(h7.mono (T:=T2 qz qu) fun k o _ h=>.inl h).trans (k6.mono fun k o _ h=>.inr h)⟩
 have hn1:n≠1:=by have:=Df hb1;omega
 refine Wk0 (thn (Sq (Sq (Rl [_,_,_,_] (wl H (Ez.mv H rfl) rfl (kM rfl rfl ?_))))));clear H a;intro a H
 refine wk H cf90 (natCmp qx qy L cx n cy X Y w0 hx hy (by omega) (by omega) hNx hNy) rfl rfl ?_
 rintro _ w1 ⟨rfl,hC⟩
 refine ⟨_,rfl,?_⟩;clear H a;intro a H
 refine wl H (Ez.lss H rfl rfl (rfl)) rfl (kP [(0,_),(1,_),(2,_),(3,_),(4,_),(10,_),(11,_),(35,_)] rfl (kW ?_));clear H a;intro a H
 refine Cs (H.o rfl) (fun hb2=>?_) (fun hb2=>?_)
 ·have hlt:nv X L < nv Y n:=by
   have:=Dt hb2
   unfold cmpI at this
   split at this
   ·assumption
   split at this <;> omega
  refine Sq (Rl [_,_,_] (wl H (Ez.mv H rfl) rfl (kL (fun a H=>Ez.slH80 H rfl rfl 0 rfl (Nat.zero_le _)) rfl (kA rfl rfl (kP [(0,_),(1,_),(2,_),(3,_),(4,_),(10,_),(11,_)] rfl (kW (kS ?_)))))));clear H a;intro a H
  obtain ⟨wL,rfl⟩:∃wL,wL=w1:=⟨w1,rfl⟩
  refine Rl [_,_,_,_] (wl H (Ez.mv H rfl) rfl (kM rfl rfl ?_));clear H a;intro a H
  refine wk H cf94 (natSet qu qx nu cu L cx Uz X wL (hu.cd hC) (hx.cd hC) (by omega)) rfl rfl ?_
  rintro _ w1 ⟨r',cr,Xr,rfl,k1,k2,k3,k4⟩
  refine ⟨_,rfl,?_⟩;clear H a;intro a H
  refine wl H (Ez.asn H rfl) rfl (kP [(0,_),(1,_),(2,_),(3,_),(4,_),(10,_),(11,_)] rfl (kW ?_));clear H a;intro a H
  refine Wr (thr ?_)
  refine rtD2 H rfl rfl rfl ?_
  have ho2:Own w0 qu r':=fun k j h=>(k3 k j h).imp id (fun h=>by rw [hC.heap] at h;exact h)
  have e:=Ja L k2
  have hLn:L<=n:=len_le (X:=X) (fun j hj=>hx.u (by have:=hx.le;omega)) hNx (by have h9:=Kn (X:=Y) n (fun j hj=>hy.u (by have:=hy.le;omega));have h8:nv X L < nv Y n:=hlt;exact Int.lt_trans h8 h9)
  have hzd:Dj qz r':=fun kk j j' a b=>by
   rcases k3 kk j' b with h | h
   ·exact hdzu kk j j' a h
   have:=(hz.cd hC).lt a;omega
  exact ⟨qz,0,cz,Z,r',L,cr,Xr,rfl,((hz.cd hC).cut (Nat.zero_le _)).fr k4 (fun kk j o a b=>hdzu kk j o a b),k1,by omega,hLn,by rw [e];simp [nv],by rw [e];exact hlt,.inl rfl,hNx.congr k2,Own.refl _ _,ho2,hzd,((hC.fr (T2 qz qu))).trans (k4.mono fun k o _ h=>.inr h)⟩
 have hge:nv Y n<=nv X L:=by
  have:=Df hb2
  unfold cmpI at this
  split at this
  ·omega
  omega
 refine Wk0 (thn (Sq (Sq ?_)))
 obtain ⟨wL,rfl⟩:∃wL,wL=w1:=⟨w1,rfl⟩
 have hLn:n<=L:=by
  rcases Nat.lt_or_ge L n with h | h
  ·have:=Jx (X:=Y) (Y:=X) (fun j hj=>hy.u (by have:=hy.le;omega)) (fun j hj=>hx.u (by have:=hx.le;omega)) hNy h
   omega
  exact h
 obtain ⟨m,rfl⟩:∃m,L=m+n:=⟨L - n,by omega⟩
 refine Rl [_,_] (wl H (Ez.mv H rfl) rfl (kL (fun a H=>Ez.eqN H (.inl rfl) rfl rfl (r:=true) rfl) rfl (kP [(0,_),(1,_),(2,_),(3,_),(4,_),(10,_),(11,_),(42,_)] rfl (kW ?_))));clear H a;intro a H
 refine Ct (H.o rfl) (Sq (Rl [_,_] ?_))
 refine wk H cf117 (getStack wL) rfl rfl ?_
 rintro _ w1 ⟨bs,rfl,g1,g2,g3⟩
 refine ⟨_,rfl,?_⟩;clear H a;intro a H
 obtain ⟨wS,rfl⟩:∃wS,wS=w1:=⟨w1,rfl⟩
 have hw0S:w0.heap.size<=bs:=by rw [hC.heap] at g1;exact g1
 refine wl H (Ez.asn H rfl) rfl (kP [(0,_),(1,_),(2,_),(3,_),(4,_),(10,_),(11,_)] rfl (kW (kR [_,_] (kM rfl rfl ?_))));clear H a;intro a H
 refine wld H (Ez.dfr H (vs:= [_]) rfl) ?_;clear H a;intro a H
 refine kP [(0,_),(1,_),(2,_),(3,_),(4,_),(10,_),(11,_)] rfl (kW (kS (kR [_,_,_,_,_,_,_,_,_,_,_] (kM rfl rfl (kM rfl rfl (kM rfl rfl (kM rfl rfl (kM rfl rfl ?_)))))))) a H;clear H a;intro a H
 refine wk H cf119 (divLarge qz qu qx qy bs nz cz nu cu m cx n cy Z Uz X Y wS ((hz.cd hC).frN g3) ((hu.cd hC).frN g3) ((hx.cd hC).frN g3) ((hy.cd hC).frN g3) g2 (g3.someCell (hC.cell hg) (fun f=>f)) hdzu hdux hduy (by omega) hn4 (by omega) hNy) rfl rfl ?_
 rintro _ w1 ⟨q',k,c',Xq,r',kr,cr,Xr,rfl,d1,d2,d3,d4,d5,d6,d7,d8,d9,d10,d11,d12,d13⟩
 refine ⟨_,rfl,?_⟩;clear H a;intro a H
 obtain ⟨wD,rfl⟩:∃wD,wD=w1:=⟨w1,rfl⟩
 refine wl H (Ez.mv H rfl) rfl (kL (fun a H=>Ez.ext0 H rfl) rfl (kL (fun a H=>Ez.ext1 H rfl) rfl (kA rfl rfl (kA rfl rfl (kP [(10,_),(11,_)] rfl (kW ?_))))));clear H a;intro a H
 refine Wr ?_
 have hs0:w0.heap.size<=wS.heap.size:=by have:=g3.size;rw [hC.heap] at this;exact this
 refine lvd H (leave cf118 (stkFree bs w0.heap.size wD (d12.mono hs0)) ?_)
 rintro w' ⟨hF',hKp⟩
 have hF:Fr (T3 qz qu bs) w0 wD:=(((hC.fr NoT).trans g3).noT).trans d13
 exact lv2 H rfl rfl rfl ⟨_,k,c',Xq,_,kr,cr,Xr,rfl,d1.kp hKp,d2.kp hKp,by omega,d4,d5,d6,d7,d8,fun k j h=>(d9 k j h).imp id (fun h=>Nat.le_trans hs0 h),fun k j h=>(d10 k j h).imp id (fun h=>Nat.le_trans hs0 h),d11,(hF.hi hF').mono fun k o hk h=>by
  rcases h with h | h | h
  ·exact .inl h
  ·exact .inr h
  omega⟩
end
section
set_option maxRecDepth 8000
section
variable {P:Program} {ops:Array Oper} {md:Region.Mode} {w:World}
def chainC (md:Region.Mode) (ops:Array Oper) (n:Nat):Bool:=
 (List.range ops.size).all fun t=>decide (t<=n) || (List.range t).any fun s=>decide (n<=s) && Region.waitsFor md ops t s
structure HI (md:Region.Mode) (ops:Array Oper) (n:Nat) (listed:Array Bool):Prop where
 inv:HeadInv md ops n listed
 sink:∀i,i < n->listed.getD i true=false->∃j,i < j/\j<=n/\Region.waitsFor md ops j i=true
theorem getD_unset {listed:Array Bool} {i j:Nat} (h:(listed.setIfInBounds i true).getD j true=false):listed.getD j true=false:=by
 by_cases e:i=j
 ·subst e
  rcases Nat.lt_or_ge i listed.size with h' | h'
  ·simp [h'] at h
  simp [Array.getElem?_eq_none h'] at h
 rwa [getD_set_ne true e] at h
theorem HI.set {n i:Nat} {listed:Array Bool} (h:HI md ops n listed) (hi:i ∈ Region.ready md ops listed) (hin:i < n):HI md ops n (listed.setIfInBounds i true):=
 ⟨h.inv.set hi hin,fun j hj hu=>h.sink j hj (getD_unset hu)⟩
theorem Kg {t s:Nat} {listed:Array Bool} (h:Region.waitsFor md ops t s=true) (hs:listed.getD s true=false):t ∉ Region.ready md ops listed:=fun hr=>by
 obtain ⟨_,ot,hot,hall⟩:=mem_ready.1 hr
 obtain ⟨o',ho',e,he,hb,hon⟩:=Region.waitsFor_spec h
 cases Option.some.inj (ho'.symm.trans hot)
 have:=hall e he hb
 rw [hon,getD_both hs] at this
 cases this
theorem HI.head {n:Nat} {listed:Array Bool} (h:HI md ops n listed) (hn:n < ops.size):∀d i,n - i=d->i < n->listed.getD i true=false->n ∉ Region.ready md ops listed:=by
 intro d
 induction d using Nat.strongRecOn with
 | _ d ih=>
   intro i hd hi hu
   obtain ⟨j,hij,hjn,hw⟩:=h.sink i hi hu
   by_cases e:j=n
   ·subst e;exact Kg hw hu
   refine ih (n - j) (by omega) j rfl (by omega) ?_
   cases hl:listed.getD j false with
   | false=>exact getD_in (by rw [h.inv.size];omega) hl
   | true=>
     exfalso
     obtain ⟨oj,hoj,e',he,hb,hon⟩:=Region.waitsFor_spec hw
     have:=h.inv.closed j oj hoj hl e' he hb
     rw [hon,getD_both hu] at this
     cases this
theorem HI.waits {n:Nat} {listed:Array Bool} (h:HI md ops n listed) (hc:chainC md ops n=true) (hn:n < ops.size) {i:Nat} (hi:i < n) (hu:listed.getD i true=false) (t:Nat) (ht:n<=t):t ∉ Region.ready md ops listed:=by
 by_cases e:t=n
 ·subst e;exact h.head hn _ i rfl hi hu
 intro hr
 have htl:t < ops.size:=by
  obtain ⟨_,ot,hot,_⟩:=mem_ready.1 hr
  exact (Array.getElem?_eq_some_iff.1 hot).1
 have h1:=List.all_eq_true.1 hc t (List.mem_range.2 htl)
 simp only [Bool.or_eq_true,decide_eq_true_eq] at h1
 rcases h1 with h1 | h1
 ·omega
 obtain ⟨s,hs,h2⟩:=List.any_eq_true.1 h1
 simp only [Bool.and_eq_true,decide_eq_true_eq] at h2
 have hst:=List.mem_range.1 hs
 exact Kg h2.2 (h.inv.tail s h2.1 (by omega)) hr
theorem still_first {n i:Nat} {oi:Oper} {v:Value} {L:Array Bool->Act->Prop} (hi:ops[i]?=some oi) (hsel:Region.noSelect ops=true) (hc:chainC md ops n=true) (hn:n < ops.size) (hin:i < n)
 (hdone:∀listed a,L listed a->∀j ∈ Region.ready md ops listed,n<=j):∀(f:Nat) (listed:Array Bool) (a:Act),HI md ops n listed->
  (∀j oj,ops[j]?=some oj->j≠i->listed.getD j true=false->(∀e ∈ oj.after,Region.binds md e=true->e.on≠i)->oi.apart ops oj=true)->
  i ∈ Region.ready md ops listed->YieldsAt P ops w oi v a->wpAnyL P md ops w n L f (listed.setIfInBounds i true) (a.put oi.dst v)->wpAnyL P md ops w n L (f+1) listed a
 | f,listed,a,inv,hfree,hr,hy,H=>by
   have hun:=(mem_ready.1 hr).1
   refine ⟨fun h=>(by rw [h] at hr;cases hr),fun j hj=>?_⟩
   have hjn:j < n:=Nat.lt_of_not_le fun h=>inv.waits hc hn hin hun j h hj
   refine ⟨hjn,?_⟩
   by_cases hji:j=i
   ·subst hji;exact hy.stOp hi H
   cases f with
   | zero=>exact absurd (hdone _ _ H j (ready_mono hj hji)) (by omega)
   | succ f=>
     obtain ⟨hju,oj,hoj,hall⟩:=mem_ready.1 hj
     have hnot:∀e ∈ oj.after,Region.binds md e=true->e.on≠i:=fun e he hb heq=>by
      have h1:=hall e he hb
      rw [heq,getD_both hun] at h1;cases h1
     have hs:=Region.noSelect_spec hsel
     refine stOp_mono (fun a' h3=>still_first hi hsel hc hn hin hdone f _ a' (inv.set hj hjn) (fun k ok hk hki hu hno=>hfree k ok hk hki (getD_unset hu) hno) (ready_mono hr (Ne.symm hji)) h3.1 ?_)
      (stOp_put hoj (hfree j oj hoj hji hju hnot) (fun cs b=>hs i oi cs b hi) (fun cs b=>hs j oj cs b hoj) hy (H.2 j (ready_mono hj hji)).2)
     rw [Array.setIfInBounds_comm _ _ hji]
     exact h3.2
end
inductive Kd
 | p | c | f
def nth {α:Type}:List α->Nat->Option α
 | [],_=>none
 | x::_,0=>some x
 | _::l,n+1=>nth l n
theorem Jl {α:Type}:∀(l:List α) (i:Nat),l.toArray[i]?=nth l i
 | [],i=>by simp [nth]
 | x::l,0=>by simp [nth]
 | x::l,i+1=>by have:=Jl l i;simpa [nth] using this
def Mix (P:Program) (l:List Oper) (Q:Exit->Act->World->Prop):List (Kd × Nat)->Act->World->Prop
 | [],a,w=>Q .normal a w
 | (.p,i)::r,a,w=>∃o v,nth l i=some o/\o.dst.isSome=true/\YieldsIf P l.toArray (fun _=>True) o v a/\Mix P l Q r (a.put o.dst v) w
 | (.c,i)::r,a,w=>∃o v,nth l i=some o/\YieldsAt P l.toArray w o v a/\Mix P l Q r (a.put o.dst v) w
 | (.f,i)::r,a,w=>wpOp P l.toArray Q i (Mix P l Q r) a w
def closedB (md:Region.Mode) (ops:Array Oper) (listed:Array Bool):Bool:=
 (List.range ops.size).all fun j=>!listed.getD j false || match ops[j]? with
  | some oj=>oj.after.all fun e=>!Region.binds md e || listed.getD e.on false
  | none=>true
def headC (md:Region.Mode) (ops:Array Oper) (n:Nat) (listed:Array Bool):Bool:=
 closedB md ops listed && decide (listed.size=ops.size) && (List.range ops.size).all (fun t=>decide (t < n) || !listed.getD t true) && decide (n < ops.size) && chainC md ops n &&
 (List.range n).all fun i=>listed.getD i true || (List.range (n+1)).any fun j=>decide (i < j) && Region.waitsFor md ops j i
def mixB (md:Region.Mode) (ops:Array Oper):List (Kd × Nat)->Array Bool->Option Nat->Bool
 | [],listed,_=>(Region.ready md ops listed).isEmpty
 | (.p,i)::r,listed,_=>Region.free md ops listed i && (Region.ready md ops listed).contains i && mixB md ops r (listed.setIfInBounds i true) none
 | (.c,i)::r,listed,_=>false
 | (.f,i)::r,listed,_=>decide (Region.ready md ops listed= [i]) && mixB md ops r (listed.setIfInBounds i true) none
def stillB (md:Region.Mode) (ops:Array Oper) (n:Nat):List (Kd × Nat)->Array Bool->Bool
 | (.c,i)::r,listed=>decide (i < n) && Region.free md ops listed i && (Region.ready md ops listed).contains i && stillB md ops n r (listed.setIfInBounds i true)
 | r,listed=>(Region.ready md ops listed).all (fun j=>decide (n<=j)) && mixB md ops r listed none
def allB (md:Region.Mode) (ops:Array Oper) (n:Nat):List (Kd × Nat)->Array Bool->Bool
 | (.p,i)::r,listed=>Region.free md ops listed i && (Region.ready md ops listed).contains i && allB md ops n r (listed.setIfInBounds i true)
 | r,listed=>headC md ops n listed && stillB md ops n r listed
section
variable {P:Program} {Q:Exit->Act->World->Prop} {md:Region.Mode} {l:List Oper}
theorem mix_tail (hs:Region.noSelect l.toArray=true) (hQ:∀c d v a w,Q (.panic c) (Act.put a (some d) v) w->Q (.panic c) a w):∀(ks:List (Kd × Nat)) (listed:Array Bool) (x:Option Nat) (a:Act) (w:World),mixB md l.toArray ks listed x=true->Mix P l Q ks a w->wpAny P md l.toArray Q ks.length listed a w
 | [],listed,_,a,w,hB,h=>⟨by simpa [mixB] using hB,h⟩
 | (.p,i)::r,listed,_,a,w,hB,h=>by
   obtain ⟨o,v,h0,hd,hy,h⟩:=h
   simp only [mixB,Bool.and_eq_true] at hB
   obtain ⟨d,hd⟩:=Option.isSome_iff_exists.1 hd
   have ho:l.toArray[i]?=some o:=by rw [Jl];exact h0
   refine wpAny_of_held _ _ _ _ (wpAnyH_take (S:=fun _=>True) ho hs hB.1.1 hB.1.2 (by rw [hd];exact fun c a w=>hQ c d v a w) hy trivial (heldT _ _ _ _ ?_))
   exact mix_tail hs hQ r _ none _ w hB.2 h
 | (.c,i)::r,listed,_,a,w,hB,h=>by simp [mixB] at hB
 | (.f,i)::r,listed,_,a,w,hB,h=>by
   simp only [mixB,Bool.and_eq_true,decide_eq_true_eq] at hB
   refine ⟨fun h1=>(by rw [hB.1] at h1;cases h1),fun j hj=>?_⟩
   rw [hB.1] at hj
   have e:j=i:=by simpa using hj
   subst e
   exact wpOp_mono (fun a' w' h'=>mix_tail hs hQ r _ none a' w' hB.2 h') h
def afterC:List (Kd × Nat)->List (Kd × Nat)
 | (.c,_)::r=>afterC r
 | r=>r
theorem mix_still (hs:Region.noSelect l.toArray=true) {n:Nat} {w:World} (hc:chainC md l.toArray n=true) (hn:n < l.toArray.size):∀(ks:List (Kd × Nat)) (listed:Array Bool) (a:Act),HI md l.toArray n listed->stillB md l.toArray n ks listed=true->Mix P l Q ks a w->
 ∃f,f+(afterC ks).length=ks.length/\wpAnyL P md l.toArray w n (fun listed' a'=>(∀j ∈ Region.ready md l.toArray listed',n<=j)/\mixB md l.toArray (afterC ks) listed' none=true/\Mix P l Q (afterC ks) a' w) f listed a
 | [],listed,a,inv,hB,h=>by
   simp only [stillB,Bool.and_eq_true,List.all_eq_true,decide_eq_true_eq] at hB
   exact ⟨0,by simp [afterC],hB.1,hB.2,h⟩
 | (.p,i)::r,listed,a,inv,hB,h=>by
   simp only [stillB,Bool.and_eq_true,List.all_eq_true,decide_eq_true_eq] at hB
   exact ⟨0,by simp [afterC],hB.1,hB.2,h⟩
 | (.f,i)::r,listed,a,inv,hB,h=>by
   simp only [stillB,Bool.and_eq_true,List.all_eq_true,decide_eq_true_eq] at hB
   exact ⟨0,by simp [afterC],hB.1,hB.2,h⟩
 | (.c,i)::r,listed,a,inv,hB,h=>by
   obtain ⟨o,v,h0,hy,h⟩:=h
   simp only [stillB,Bool.and_eq_true,decide_eq_true_eq] at hB
   obtain ⟨⟨⟨hin,hf⟩,hr⟩,hB⟩:=hB
   have ho:l.toArray[i]?=some o:=by rw [Jl];exact h0
   have hr':i ∈ Region.ready md l.toArray listed:=by simpa using hr
   obtain ⟨f,hf1,hf2⟩:=mix_still hs hc hn r _ _ (inv.set hr' hin) hB h
   exact ⟨f+1,by simp only [afterC,List.length_cons];omega,still_first ho hs hc hn hin (fun _ _ hL=>hL.1) f listed a inv (Region.free_spec ho hf) hr' hy hf2⟩
theorem HI.of {ops:Array Oper} {n:Nat} {listed:Array Bool} (h:headC md ops n listed=true):HI md ops n listed/\chainC md ops n=true/\n < ops.size:=by
 simp only [headC,Bool.and_eq_true,decide_eq_true_eq] at h
 obtain ⟨⟨⟨⟨⟨h1,h2⟩,h3⟩,h4⟩,h5⟩,h6⟩:=h
 refine ⟨⟨⟨h2,fun j oj hj hl e he hb=>?_,fun t ht ht'=>?_⟩,fun i hi hu=>?_⟩,h5,h4⟩
 ·have:=List.all_eq_true.1 h1 j (List.mem_range.2 (Array.getElem?_eq_some_iff.1 hj).1)
  simp only [hl,hj,Bool.not_true,Bool.false_or,Array.all_eq_true_iff_forall_mem] at this
  have:=this e he
  simpa [hb] using this
 ·have:=List.all_eq_true.1 h3 t (List.mem_range.2 ht')
  simp only [Bool.or_eq_true,decide_eq_true_eq,Bool.not_eq_true'] at this
  rcases this with h | h
  ·omega
  exact h
 have:=List.all_eq_true.1 h6 i (List.mem_range.2 hi)
 simp only [hu,Bool.false_or] at this
 obtain ⟨j,hj,h7⟩:=List.any_eq_true.1 this
 simp only [Bool.and_eq_true,decide_eq_true_eq] at h7
 have:=List.mem_range.1 hj
 exact ⟨j,h7.1,by omega,h7.2⟩
theorem mix_all (hs:Region.noSelect l.toArray=true) (hQ:∀c d v a w,Q (.panic c) (Act.put a (some d) v) w->Q (.panic c) a w) {n:Nat} {w:World}:∀(ks:List (Kd × Nat)) (listed:Array Bool) (a:Act),allB md l.toArray n ks listed=true->Mix P l Q ks a w->wpAny P md l.toArray Q ks.length listed a w:=by
 have key:∀(ks:List (Kd × Nat)) (listed:Array Bool) (a:Act),headC md l.toArray n listed=true->stillB md l.toArray n ks listed=true->Mix P l Q ks a w->wpAny P md l.toArray Q ks.length listed a w:=by
  intro ks listed a h1 h2 h
  obtain ⟨inv,hc,hn⟩:=HI.of h1
  obtain ⟨f,hf,h3⟩:=mix_still hs hc hn ks listed a inv h2 h
  rw [<-hf]
  exact wpAny_of_head (fun listed' a' hL=>mix_tail hs hQ _ _ none _ w hL.2.1 hL.2.2) f listed a h3
 intro ks
 induction ks with
 | nil=>
   intro listed a hB h
   simp only [allB,Bool.and_eq_true] at hB
   exact key [] listed a hB.1 hB.2 h
 | cons k r ih=>
   intro listed a hB h
   obtain ⟨kd,i⟩:=k
   cases kd with
   | p=>
     obtain ⟨o,v,h0,hd,hy,h⟩:=h
     simp only [allB,Bool.and_eq_true] at hB
     obtain ⟨d,hd⟩:=Option.isSome_iff_exists.1 hd
     have ho:l.toArray[i]?=some o:=by rw [Jl];exact h0
     exact wpAny_of_held _ _ _ _ (wpAnyH_take (S:=fun _=>True) ho hs hB.1.1 hB.1.2 (by rw [hd];exact fun c a w=>hQ c d v a w) hy trivial (heldT _ _ _ _ (ih _ _ hB.2 h)))
   | c=>simp only [allB,Bool.and_eq_true] at hB;exact key _ listed a hB.1 hB.2 h
   | f=>simp only [allB,Bool.and_eq_true] at hB;exact key _ listed a hB.1 hB.2 h
theorem Ju {id:Nat} {a:Act} {w:World} (l:List Oper) (n:Nat) (ks:List (Kd × Nat)) (hm:P.follows .mixedOrders=true) (hQ:∀c d v a w,Q (.panic c) (Act.put a (some d) v) w->Q (.panic c) a w)
 (hB:(Region.noSelect l.toArray && decide (ks.length=l.toArray.size) && allB .any l.toArray n ks (Array.replicate l.toArray.size false))=true)
 (h:∀w1,Cd w w1->Mix P l Q ks a w1):(Code.region id l.toArray true).wp P Q a w:=by
 simp only [Bool.and_eq_true,decide_eq_true_eq] at hB
 refine wp_region_any hm ?_
 rw [<-hB.1.2]
 have:=mix_all (P:=P) (Q:=Q) (w:={ w with drawn:=w.drawn+1}) hB.1.1 hQ ks _ a hB.2 (h _ ⟨1,rfl⟩)
 rw [<-hB.1.2] at this
 exact this
end
section
variable {P:Program} {os:List Oper} {ops:Array Oper} {Q:Exit->Act->World->Prop} {a:Act} {w w':World} {rest:List (Kd × Nat)} {op:Op} {d i:Nat} {ty:TypeId} {pos:String} {after:Array Edge} {g:Nat} {b:Bool} {N:Nat} {ds:List Deferred} {l:Env} {v:Value}
theorem mxp (ho:nth os i=some ⟨some d,op,ty,pos,after,none⟩) (H:Hd a N ds l) (hr:∀w,(execOp a.eval ⟨some d,op,ty,pos,after,none⟩).run P w=.ok (.value v) w) (hd:Nat.blt d N=true)
 (h:∀a',Hd a' N ds ((d,v)::l)->Mix P os Q rest a' w):Mix P os Q ((.p,i)::rest) a w:=
 ⟨_,v,ho,rfl,.inl ⟨by simp [Region.wanted],fun w _=>hr w⟩,h _ (H.put v hd)⟩
theorem mxc (ho:nth os i=some ⟨some d,op,ty,pos,after,none⟩) (H:Hd a N ds l) (hr:(execOp a.eval ⟨some d,op,ty,pos,after,none⟩).run P w=.ok (.value v) w) (hd:Nat.blt d N=true)
 (h:∀a',Hd a' N ds ((d,v)::l)->Mix P os Q rest a' w):Mix P os Q ((.c,i)::rest) a w:=
 ⟨_,v,ho,.inl ⟨by simp [Region.wanted],.inl hr⟩,h _ (H.put v hd)⟩
theorem yield_nth {og:Oper} {t:Nat} (H:Hd a N ds l) (ho:nth os g=some og) (ht:og.dst=some t) (hb:lk l t=some (.bool b)) (hN:Nat.blt t N=true):yielded os.toArray a.tmps g=some b:=
 yield_of H (by rw [Jl];exact ho) ht hb hN
theorem mxcg {og:Oper} {t:Nat} (ho:nth os i=some ⟨some d,op,ty,pos,after,some (g,b)⟩) (H:Hd a N ds l) (hr:(execOp a.eval ⟨some d,op,ty,pos,after,some (g,b)⟩).run P w=.ok (.value v) w) (hd:Nat.blt d N=true)
 (hog:nth os g=some og) (ht:og.dst=some t) (hb:lk l t=some (.bool b)) (hN:Nat.blt t N=true)
 (h:∀a',Hd a' N ds ((d,v)::l)->Mix P os Q rest a' w):Mix P os Q ((.c,i)::rest) a w:=
 ⟨_,v,ho,.inl ⟨by simp [Region.wanted,yield_nth H hog ht hb hN],.inl hr⟩,h _ (H.put v hd)⟩
theorem mxcx {og:Oper} {t:Nat} (ho:nth os i=some ⟨some d,op,ty,pos,after,some (g,b)⟩) (H:Hd a N ds l) (hd:Nat.blt d N=true)
 (hog:nth os g=some og) (ht:og.dst=some t) (hb:lk l t=some (.bool (!b))) (hN:Nat.blt t N=true)
 (h:∀a',Hd a' N ds ((d,undef)::l)->Mix P os Q rest a' w):Mix P os Q ((.c,i)::rest) a w:=
 ⟨_,undef,ho,.inr ⟨by simp [Region.wanted,yield_nth H hog ht hb hN],rfl⟩,h _ (H.put undef hd)⟩
theorem mxf (ho:nth os i=some ⟨some d,op,ty,pos,after,none⟩) (H:Hd a N ds l) (hr:(execOp a.eval ⟨some d,op,ty,pos,after,none⟩).run P w=.ok (.value v) w') (hd:Nat.blt d N=true)
 (h:∀a',Hd a' N ds ((d,v)::l)->Mix P os Q rest a' w'):Mix P os Q ((.f,i)::rest) a w:=by
 show wpOp P os.toArray Q i _ a w
 unfold wpOp
 rw [Jl,ho]
 simp only [Region.wanted,if_true]
 exact .inl (by unfold Oper.wp;rw [hr];exact h _ (H.put v hd))
theorem mxs (ho:nth os i=some ⟨none,op,ty,pos,after,none⟩) (H:Hd a N ds l) (hr:(execOp a.eval ⟨none,op,ty,pos,after,none⟩).run P w=.ok .skip w')
 (h:Hd a N ds l->Mix P os Q rest a w'):Mix P os Q ((.f,i)::rest) a w:=by
 show wpOp P os.toArray Q i _ a w
 unfold wpOp
 rw [Jl,ho]
 simp only [Region.wanted,if_true]
 exact .inl (by unfold Oper.wp;rw [hr];exact h H)
theorem mxk {f:FuncId} {vs:List Value} {R:Ending->World->Prop} {xs:Array Operand} {ts:Array TypeId} (ho:nth os i=some ⟨some d,.call { callee:=.value (.func f),args:=xs,argTypes:=ts},ty,pos,after,none⟩) (H:Hd a N ds l)
 (hF:∀args w,(callFunc f args).run Tryz.prog w=.ok (.enter f args) w) (hc:Calls Tryz.prog f vs.toArray w R) (hx:xs.toList.map (ov l)=vs.map some) (hd:Nat.blt d N=true)
 (h:∀e w',R e w'->∃v,e=.returned v/\∀a',Hd a' N ds ((d,v)::l)->Mix Tryz.prog os Q rest a' w'):Mix Tryz.prog os Q ((.f,i)::rest) a w:=by
 show wpOp Tryz.prog os.toArray Q i _ a w
 unfold wpOp
 rw [Jl,ho]
 simp only [Region.wanted,if_true]
 refine .inl ?_
 unfold Oper.wp
 rw [Ez.call H hx (hF _ _)]
 exact hc.mono fun e w' hR=>by obtain ⟨v,rfl,h'⟩:=h e w' hR;exact h' _ (H.put v hd)
theorem mxe {K:Act->World->Prop} (h:K a w):Mix P os (Exit.then K Q) [] a w:=h
theorem mxe' (h:Q .normal a w):Mix P os Q [] a w:=h
end
end
section
set_option maxRecDepth 8000
structure IR where
 s:Bool
 q:Option Addr
 n:Nat
 c:Nat
 X:Nat->Int
def IR.v (r:IR):Int:=if r.s then -(nv r.X r.n) else nv r.X r.n
structure Ib (w:World) (p:Nat) (r:IR):Prop where
 blk:w.heap[p]?=some (.cells #[.bool r.s,.slice r.q r.n r.c] 82 (0,0))
 sl:Sl w r.q r.n r.c r.X
 nm:Nm r.X r.n
section
variable {w w' w1:World} {p x z:Nat} {r rz rx:IR} {q:Option Addr} {n c:Nat} {X:Nat->Int} {T:Nat->Nat->Prop} {v:Value}
theorem Ib.c0 (h:Ib w p r):w.cell? ⟨p,0,none⟩=some (.bool r.s):=by simp [World.cell?,h.blk]
theorem Ib.c1 (h:Ib w p r):w.cell? ⟨p,1,none⟩=some (.slice r.q r.n r.c):=by simp [World.cell?,h.blk]
theorem Ib.fz (h:Ib w p r) (j:Nat):w.frozen? ⟨p,j,none⟩=false:=by simp [World.frozen?,h.blk]
theorem Ib.lt (h:Ib w p r):p < w.heap.size:=Bl0 w _ h.c0
theorem Sl.neI (h:Sl w q n c X) (hp:Ib w p r) (j:Nat):¬TQ q p j:=fun ht=>by
 rcases h with ⟨h0,_⟩ | ⟨b,h0,h1,hc,h2⟩
 ·rw [h0] at ht;exact Q9 ht
 rw [h0,Qt] at ht
 subst ht
 have:=h2.cell (j:=0) hc
 rw [hp.c0] at this;cases this
theorem Ib.fr (h:Ib w p r) (hF:Fr T w w') (h1:∀o,¬T p o) (h2:∀k j o,TQ r.q k j->¬T k o):Ib w' p r:=
 ⟨(hF.block p h.lt h1).trans h.blk,h.sl.fr hF h2,h.nm⟩
theorem Ib.cd (h:Ib w p r) (hC:Cd w w'):Ib w' p r:=⟨by rw [hC.heap];exact h.blk,h.sl.cd hC,h.nm⟩
theorem Js {w:World} {p j:Nat} {cs:Array Value} {t:TypeId} {k:Nat × Nat} (h:w.heap[p]?=some (.cells cs t k)) (v:Value):(w.setCell ⟨p,j,none⟩ v).heap[p]?=some (.cells (cs.setIfInBounds j v) t k):=by
 simp only [World.setCell,Array.getElem?_modify,if_true,h,Option.map_some]
 congr 2
def ZT (z:Nat) (q:Option Addr):Nat->Nat->Prop:=fun k j=>k=z\/TQ q k j
theorem Sl.other (h:Sl w q n c X) {a:Addr} (ha:∀j,¬TQ q a.block j) (v:Value):Sl (w.setCell a v) q n c X:=by
 rcases h with h | ⟨b,h0,h1,hc,h2⟩
 ·exact .inl h
 exact .inr ⟨b,h0,h1,hc,h2.other (fun e=>ha 0 (by rw [h0,Qt];exact e.symm)) v⟩
theorem Ib.abs {q':Option Addr} {n' c':Nat} {X':Nat->Int} (hz:Ib w z rz) (hF:Fr (TQ rz.q) w w1) (h1:Sl w1 q' n' c' X') (h2:Nm X' n'):
 w1.cell? ⟨z,1,none⟩=some (.slice rz.q rz.n rz.c)/\w1.frozen? ⟨z,1,none⟩=false/\Ib (w1.setCell ⟨z,1,none⟩ (.slice q' n' c')) z ⟨rz.s,q',n',c',X'⟩/\Fr (ZT z rz.q) w (w1.setCell ⟨z,1,none⟩ (.slice q' n' c')):=by
 have hb:w1.heap[z]?=some (.cells #[.bool rz.s,.slice rz.q rz.n rz.c] 82 (0,0)):=(hF.block z hz.lt (fun o=>hz.sl.neI hz o)).trans hz.blk
 have hn:∀j,¬TQ q' z j:=fun j ht=>by
  rcases h1 with ⟨h0,_⟩ | ⟨b,h0,_,hc,hW⟩
  ·rw [h0] at ht;exact Q9 ht
  rw [h0,Qt] at ht
  subst ht
  have:=hW.cell (j:=0) hc
  simp [World.cell?,hb] at this
 refine ⟨by simp [World.cell?,hb],by simp [World.frozen?,hb],⟨?_,h1.other hn _,h2⟩,(hF.mono fun k o _ h=>.inr h).setCell (fun _=>.inl rfl) _⟩
 rw [Js hb];rfl
theorem Ib.neg (hz:Ib w z r) (b:Bool) (q:Option Addr):Ib (w.setCell ⟨z,0,none⟩ (.bool b)) z { r with s:=b}/\Fr (ZT z q) w (w.setCell ⟨z,0,none⟩ (.bool b)):=
 ⟨⟨by rw [Js hz.blk];rfl,hz.sl.other (fun j=>hz.sl.neI hz j) _,hz.nm⟩,(Fr.refl (ZT z q) w).setCell (fun _=>.inl rfl) _⟩
theorem Ib.c0' (hx:Ib w x rx) (hz:Ib w z rz) (hF:Fr (TQ rz.q) w w1) (v:Value):(w1.setCell ⟨z,1,none⟩ v).cell? ⟨x,0,none⟩=some (.bool rx.s):=by
 rw [Co _ _ _ _ (by intro e;injection e with _ e2;cases e2)]
 exact hF.someCell hx.c0 (hz.sl.neI hx 0)
def r0:IR:=⟨false,none,0,0,fun _=>0⟩
theorem Ib.new (w:World):Ib (w.alloc (.cells #[.bool false,.slice none 0 0] 82)) w.heap.size r0:=
 ⟨heap_alloc_new w _,Sl.nil _ _,.inl rfl⟩
structure Zr (w w':World) (z:Nat) (rz r:IR):Prop where
 ib:Ib w' z r
 ow:Own w rz.q r.q
 fr:Fr (ZT z rz.q) w w'
theorem Zr.trans {r' r'':IR} {w'':World} (h:Zr w w' z rz r') (h':Zr w' w'' z r' r''):Zr w w'' z rz r'':=by
 refine ⟨h'.ib,h.ow.trans h'.ow h.fr.size,?_⟩
 refine ((h.fr.mono (T:=fun k j=>ZT z rz.q k j\/w.heap.size<=k) fun k o _ ht=>.inl ht).trans (h'.fr.mono fun k o _ ht=>?_)).mono fun k o hk ht=>?_
 ·rcases ht with ht | ht
  ·exact .inl (.inl ht)
  rcases h.ow k o ht with h1 | h1
  ·exact .inl (.inr h1)
  exact .inr h1
 rcases ht with ht | ht
 ·exact ht
 omega
structure Ih (B m:Nat) (w:World) (p:Nat->Nat) (F:Nat->IR):Prop where
 ib:∀i,i < m->Ib w (p i) (F i)
 lo:∀i,i < m->B<=p i
 lor:∀i,i < m->∀k j,TQ (F i).q k j->B<=k
 ne:∀i,i < m->∀j,j < m->i≠j->p i≠p j
 dj:∀i,i < m->∀j,j < m->i≠j->Dj (F i).q (F j).q
def ui (F:Nat->IR) (i:Nat) (r:IR):Nat->IR:=fun j=>if j=i then r else F j
theorem ui_eq (F:Nat->IR) (i:Nat) (r:IR):ui F i r i=r:=by simp [ui]
theorem Ka {F:Nat->IR} {i j:Nat} {r:IR} (h:j≠i):ui F i r j=F j:=by simp [ui,h]
variable {B m i:Nat} {pp:Nat->Nat} {F:Nat->IR}
theorem Ih.upd (h:Ih B m w pp F) (hi:i < m) (hz:Zr w w' (pp i) (F i) r):Ih B m w' pp (ui F i r)/\Fr (Hi B) w w':=by
 have hB:B<=w.heap.size:=Nat.le_trans (h.lo i hi) (Nat.le_of_lt (h.ib i hi).lt)
 have hnew:∀j,j < m->j≠i->Dj r.q (F j).q:=fun j hj hne=>(h.dj i hi j hj (Ne.symm hne)).own hz.ow (h.ib j hj).sl
 refine ⟨⟨fun j hj=>?_,h.lo,fun j hj k o ht=>?_,h.ne,fun j hj k hk hne=>?_⟩,hz.fr.mono fun k o hk ht=>?_⟩
 ·by_cases e:j=i
  ·subst e;rw [ui_eq];exact hz.ib
  rw [Ka e]
  refine (h.ib j hj).fr hz.fr (fun o ht=>?_) (fun k o o' ht ht'=>?_)
  ·rcases ht with ht | ht
   ·exact h.ne j hj i hi e ht
   exact (h.ib i hi).sl.neI (h.ib j hj) o ht
  rcases ht' with ht' | ht'
  ·subst ht';exact (h.ib j hj).sl.neI (h.ib i hi) o ht
  exact h.dj j hj i hi e k o o' ht ht'
 ·by_cases e:j=i
  ·subst e
   rw [ui_eq] at ht
   rcases hz.ow k o ht with h1 | h1
   ·exact h.lor j hj k o h1
   omega
  rw [Ka e] at ht;exact h.lor j hj k o ht
 ·by_cases e:j=i
  ·subst e
   rw [ui_eq,Ka (Ne.symm hne)];exact hnew k hk (Ne.symm hne)
  by_cases e':k=i
  ·subst e';rw [ui_eq,Ka e];exact (hnew j hj e).symm
  rw [Ka e,Ka e'];exact h.dj j hj k hk hne
 rcases ht with ht | ht
 ·subst ht;exact h.lo i hi
 exact h.lor i hi k o ht
theorem Ih.cd (h:Ih B m w pp F) (hC:Cd w w'):Ih B m w' pp F:=⟨fun i hi=>(h.ib i hi).cd hC,h.lo,h.lor,h.ne,h.dj⟩
theorem Ih.perm (h:Ih B m w pp F) (σ:Nat->Nat) (hσ:∀i,i < m->σ i < m) (hi:∀i,i < m->∀j,j < m->i≠j->σ i≠σ j):Ih B m w (fun i=>pp (σ i)) (fun i=>F (σ i)):=
 ⟨fun i hm=>h.ib _ (hσ i hm),fun i hm=>h.lo _ (hσ i hm),fun i hm=>h.lor _ (hσ i hm),fun i hm j hj hne=>h.ne _ (hσ i hm) _ (hσ j hj) (hi i hm j hj hne),fun i hm j hj hne=>h.dj _ (hσ i hm) _ (hσ j hj) (hi i hm j hj hne)⟩
theorem Ib.hi (h:Ib w x rx) (hF:Fr (Hi B) w w') (hx:x < B) (hr:∀k j,TQ rx.q k j->k < B):Ib w' x rx:=
 h.fr hF (fun o ht=>by have:B<=x:=ht;omega) (fun k j o ht ht'=>by have:=hr k j ht;have:B<=k:=ht';omega)
def un (f:Nat->Nat) (i b:Nat):Nat->Nat:=fun j=>if j=i then b else f j
theorem Ih.push (h:Ih B m w pp F) (hB:B<=w.heap.size):Ih B (m+1) (w.alloc (.cells #[.bool false,.slice none 0 0] 82)) (un pp m w.heap.size) (ui F m r0):=by
 have hF:Fr NoT w (w.alloc (.cells #[.bool false,.slice none 0 0] 82)):=(Fr.refl NoT w).alloc _
 have key:∀i,i < m+1->i≠m->i < m:=fun i h1 h2=>by omega
 refine ⟨fun i hi=>?_,fun i hi=>?_,fun i hi k j ht=>?_,fun i hi j hj hne=>?_,fun i hi j hj hne=>?_⟩
 ·by_cases e:i=m
  ·subst e;rw [ui_eq];simp only [un,if_true];exact Ib.new w
  rw [Ka e];simp only [un,e,if_false];exact (h.ib i (key i hi e)).fr hF (fun _ f=>f) (fun _ _ _ _ f=>f)
 ·by_cases e:i=m
  ·subst e;simp only [un,if_true];exact hB
  simp only [un,e,if_false];exact h.lo i (key i hi e)
 ·by_cases e:i=m
  ·subst e;rw [ui_eq] at ht;exact (Q9 ht).elim
  rw [Ka e] at ht;exact h.lor i (key i hi e) k j ht
 ·by_cases e:i=m
  ·subst e
   simp only [un,if_true,Ne.symm hne,if_false]
   have:=(h.ib j (key j hj (Ne.symm hne))).lt;omega
  by_cases e':j=m
  ·subst e'
   simp only [un,if_true,e,if_false]
   have:=(h.ib i (key i hi e)).lt;omega
  simp only [un,e,e',if_false];exact h.ne i (key i hi e) j (key j hj e') hne
 by_cases e:i=m
 ·subst e;rw [ui_eq];exact Dj.nil _
 by_cases e':j=m
 ·subst e';rw [ui_eq];exact (Dj.nil _).symm
 rw [Ka e,Ka e'];exact h.dj i (key i hi e) j (key j hj e') hne
theorem Ez.info82:∃i,Tryz.prog.info? 82=some i/\i.size≠0:=by
 have h:(Tryz.prog.info? 82).map (fun i=>i.size)=some 2:=by kernel_rfl
 cases hi:Tryz.prog.info? 82 with
 | none=>rw [hi] at h;cases h
 | some i=>rw [hi] at h;simp only [Option.map_some,Option.some.injEq] at h;exact ⟨i,rfl,by rw [h];decide⟩
theorem u78:Tryz.prog.underlying 78=some (.pointer 82):=by kernel_rfl
theorem IR.v_len (n:Nat) (s:Bool) (q:Option Addr) (c:Nat) (X:Nat->Int) {b:Bool} (hb:(n=0/\b=false)\/(0 < n/\b=s)):(⟨b,q,n,c,X⟩:IR).v=if s then -(nv X n) else nv X n:=by
 rcases hb with ⟨rfl,rfl⟩ | ⟨_,rfl⟩
 ·simp [IR.v,nv]
 rfl
end
namespace Ez
section
variable {a:Act} {N:Nat} {ds:List Deferred} {l:Env} {w:World} {d:Option Nat} {ty:TypeId} {pos:String} {after:Array Edge} {g:Option (Nat × Bool)}
theorem eqI (H:Hd a N ds l) {x y:Operand} {b c:Nat} {u:TypeId} {r:Bool} {cb cc:Array Value} {tb tc:TypeId} (h:ov l x=some (.pointer (some ⟨b,0,none⟩))) (h':ov l y=some (.pointer (some ⟨c,0,none⟩)))
 (hb:w.heap[b]?=some (.cells cb tb (0,0))) (hc:w.heap[c]?=some (.cells cc tc (0,0))) (hr:decide (b=c)=r):(execOp a.eval ⟨d,.binOp .eql 78 x y u,ty,pos,after,g⟩).run Tryz.prog w=.ok (.value (.bool r)) w:=by
 obtain ⟨i,h1,h2⟩:=info82
 refine eqlP H h h' u78 h1 h2 hb hc ?_
 rw [<-hr];congr 1;simp
theorem neI (H:Hd a N ds l) {x y:Operand} {b c:Nat} {u:TypeId} {r:Bool} {cb cc:Array Value} {tb tc:TypeId} (h:ov l x=some (.pointer (some ⟨b,0,none⟩))) (h':ov l y=some (.pointer (some ⟨c,0,none⟩)))
 (hb:w.heap[b]?=some (.cells cb tb (0,0))) (hc:w.heap[c]?=some (.cells cc tc (0,0))) (hr:(!decide (b=c))=r):(execOp a.eval ⟨d,.binOp .neq 78 x y u,ty,pos,after,g⟩).run Tryz.prog w=.ok (.value (.bool r)) w:=by
 obtain ⟨i,h1,h2⟩:=info82
 refine neqP H h h' u78 h1 h2 hb hc ?_
 rw [<-hr];congr 2;simp
end
end Ez
end
section
set_option maxRecDepth 8000
theorem intSet (z x:Nat) (rz rx:IR) (w:World) (hz:Ib w z rz) (hx:Ib w x rx) (hne:z≠x) (hn:rx.n < 1000):
 Calls Tryz.prog 76 #[pz z,pz x] w fun e w'=>∃r,e=.returned (pz z)/\Zr w w' z rz r/\r.v=rx.v/\r.s=rx.s/\r.n=rx.n:=by
 refine Qd (vs:= [pz z,pz x]) Tryz.func76 rfl rfl ?_
 intro a H
 replace H:Hd a 28 [] [(0,pz z),(1,pz x)]:=H
 refine Sq (Rl [_] (wl H (Ez.asn H rfl) rfl (kW (kS (kS (kR [_,_,_] (kM rfl rfl (kM rfl rfl (kL (fun a H=>Ez.neI H rfl rfl hz.blk hx.blk (r:=true) (by simp [hne])) rfl (kP [(0,_),(1,_),(4,_),(7,_)] rfl (kW ?_)))))))))));clear H a;intro a H
 refine Ct (H.o rfl) (Sq ?_)
 refine Ju [_,_,_,_,_,_,_,_,_,_,_,_,_] 9 [(.p,0),(.c,1),(.c,2),(.c,3),(.c,4),(.c,5),(.c,6),(.c,7),(.c,8),(.f,9),(.f,10),(.f,11),(.f,12)] Qb (fun _ _ _ _ _ h=>h) (by kernel_rfl) ?_
 intro w1 hw
 have hz:=hz.cd hw
 have hx:=hx.cd hw
 obtain ⟨wL,rfl⟩:∃wL,wL=w1:=⟨w1,rfl⟩
 refine mxp rfl H (fun _=>Ez.mv H rfl) rfl ?_;clear H a;intro a H
 refine mxc rfl H (Ez.mv H rfl) rfl ?_;clear H a;intro a H
 refine mxc rfl H (Ez.nc H rfl) rfl ?_;clear H a;intro a H
 refine mxc rfl H (Ez.fa82_1 H rfl) rfl ?_;clear H a;intro a H
 refine mxc rfl H (Ez.ld80 H rfl (hz.c1)) rfl ?_;clear H a;intro a H
 refine mxc rfl H (Ez.mv H rfl) rfl ?_;clear H a;intro a H
 refine mxc rfl H (Ez.nc H rfl) rfl ?_;clear H a;intro a H
 refine mxc rfl H (Ez.fa82_1 H rfl) rfl ?_;clear H a;intro a H
 refine mxc rfl H (Ez.ld80 H rfl (hx.c1)) rfl ?_;clear H a;intro a H
 refine mxk rfl H cf94 (natSet rz.q rx.q rz.n rz.c rx.n rx.c rz.X rx.X wL hz.sl hx.sl (by omega)) rfl rfl ?_
 rintro _ w1 ⟨q',c',X',rfl,h1,h2,h3,h4⟩
 refine ⟨_,rfl,?_⟩;clear H a;intro a H
 have hA:=hz.abs h4 h1 (hx.nm.congr h2)
 have hc0:=hx.c0' hz h4 (.slice q' rx.n c')
 refine mxf rfl H (Ez.nc H rfl) rfl ?_;clear H a;intro a H
 refine mxf rfl H (Ez.fa82_1 H rfl) rfl ?_;clear H a;intro a H
 refine mxs rfl H (Ez.st80 H rfl rfl rfl hA.1 hA.2.1) ?_;clear H;intro H
 replace H:Hd a 28 [] [(0,_),(1,_),(4,_)]:=H.pick [0,1,4]
 refine mxe ?_
 refine Rl [_,_,_,_,_,_,_,_] (wl H (Ez.mv H rfl) rfl (kM rfl rfl (kN rfl rfl (kL (fun a H=>Ez.fa82_0 H rfl) rfl (kL (fun a H=>Ez.ld4 H rfl (hc0)) rfl (kN rfl rfl (kL (fun a H=>Ez.fa82_0 H rfl) rfl ?_)))))));clear H a;intro a H
 refine wls H (Ez.st4 H rfl rfl rfl hA.2.2.1.c0 (hA.2.2.1.fz _)) ?_;clear H;intro H
 refine kP [(0,_),(4,_)] rfl (kW (kS (kR [_,_] (kM rfl rfl (kA rfl rfl (kP [(4,_)] rfl (kW ?_))))))) a H;clear H a;intro a H
 refine Wr ?_
 refine rt1 H rfl rfl ?_
 have hN:=hA.2.2.1.neg rx.s rz.q
 exact ⟨_,rfl,⟨hN.1,fun k j h=>(h3 k j h).imp id (fun h=>by rw [<-hw.heap];exact h),(hw.fr _).trans (hA.2.2.2.trans hN.2)⟩,by simp only [IR.v];rw [Ja _ h2],rfl,rfl⟩
theorem intSetUint64 (z:Nat) (y:Int) (rz:IR) (w:World) (hz:Ib w z rz) (hy:U64 y):
 Calls Tryz.prog 88 #[pz z,.int .u64 y] w fun e w'=>∃r,e=.returned (pz z)/\Zr w w' z rz r/\r.v=y/\r.s=false/\r.n<=1:=by
 refine Qd (vs:= [pz z,.int .u64 y]) Tryz.func88 rfl rfl ?_
 intro a H
 replace H:Hd a 18 [] [(0,pz z),(1,.int .u64 y)]:=H
 refine Sq (Rl [_] (wl H (Ez.asn H rfl) rfl (kW (kS (kR [_,_,_,_,_,_,_,_,_,_] (kM rfl rfl (kM rfl rfl (kN rfl rfl (kL (fun a H=>Ez.fa82_1 H rfl) rfl (kL (fun a H=>Ez.ld80 H rfl (hz.c1)) rfl (kM rfl rfl ?_)))))))))));clear H a;intro a H
 refine wk H cf100 (natSetUint64 rz.q rz.n rz.c rz.X y w hz.sl hy) rfl rfl ?_
 rintro _ w1 ⟨q',n',c',X',rfl,h1,h2,h3,h4,h5,h6⟩
 refine ⟨_,rfl,?_⟩;clear H a;intro a H
 have hA:=hz.abs h6 h1 h4
 refine wl H (Ez.nc H rfl) rfl (kL (fun a H=>Ez.fa82_1 H rfl) rfl ?_);clear H a;intro a H
 refine wls H (Ez.st80 H rfl rfl rfl hA.1 hA.2.1) ?_;clear H;intro H
 refine kP [(0,_),(4,_)] rfl (kW (kS (kR [_,_,_,_] (kM rfl rfl (kN rfl rfl (kL (fun a H=>Ez.fa82_0 H rfl) rfl ?_)))))) a H;clear H a;intro a H
 refine wls H (Ez.st4 H rfl rfl rfl hA.2.2.1.c0 (hA.2.2.1.fz _)) ?_;clear H;intro H
 refine kP [(0,_),(4,_)] rfl (kW (kS (kR [_,_] (kM rfl rfl (kA rfl rfl (kP [(4,_)] rfl (kW ?_))))))) a H;clear H a;intro a H
 refine Wr ?_
 refine rt1 H rfl rfl ?_
 have hN:=hA.2.2.1.neg false rz.q
 exact ⟨_,rfl,⟨hN.1,h5,hA.2.2.2.trans hN.2⟩,by simp only [IR.v];simpa using h3,rfl,h2⟩
theorem intSetInt64 (z:Nat) (y:Int) (rz:IR) (w:World) (hz:Ib w z rz) (hy:0<=y/\y < 9223372036854775808):
 Calls Tryz.prog 102 #[pz z,.int .i64 y] w fun e w'=>∃r,e=.returned (pz z)/\Zr w w' z rz r/\r.v=y/\r.s=false/\r.n<=1:=by
 refine Qd (vs:= [pz z,.int .i64 y]) Tryz.func102 rfl rfl ?_
 intro a H
 replace H:Hd a 25 [] [(0,pz z),(1,.int .i64 y)]:=H
 refine Sq (Rl [_] (wl H (Ez.asn H rfl) rfl (kW (kS (kR [_] (kA rfl rfl (kW (kS (kS (kR [_,_] (kM rfl rfl (kL (fun a H=>Ez.lss (r:=false) H rfl rfl (by (simp;omega))) rfl (kP [(0,_),(1,_),(4,_),(5,_),(7,_)] rfl (kW ?_))))))))))))));clear H a;intro a H
 refine Cf (H.o rfl) (Wk0 (thn (Sq (Rl [_,_,_,_,_,_,_,_,_,_,_] (wl H (Ez.mv H rfl) rfl (kM rfl rfl (kN rfl rfl (kL (fun a H=>Ez.fa82_1 H rfl) rfl (kL (fun a H=>Ez.ld80 H rfl (hz.c1)) rfl (kM rfl rfl (kL (fun a H=>Ez.cv (r:=y) H rfl ty2 ty28 (by (rw [Wu];omega))) rfl ?_)))))))))));clear H a;intro a H
 refine wk H cf100 (natSetUint64 rz.q rz.n rz.c rz.X y w hz.sl ⟨hy.1,by omega⟩) rfl rfl ?_
 rintro _ w1 ⟨q',n',c',X',rfl,h1,h2,h3,h4,h5,h6⟩
 refine ⟨_,rfl,?_⟩;clear H a;intro a H
 have hA:=hz.abs h6 h1 h4
 refine wl H (Ez.nc H rfl) rfl (kL (fun a H=>Ez.fa82_1 H rfl) rfl ?_);clear H a;intro a H
 refine wls H (Ez.st80 H rfl rfl rfl hA.1 hA.2.1) ?_;clear H;intro H
 refine kP [(0,_),(4,_),(5,_)] rfl (kW (kS (kR [_,_,_,_,_] (kM rfl rfl (kM rfl rfl (kN rfl rfl (kL (fun a H=>Ez.fa82_0 H rfl) rfl ?_))))))) a H;clear H a;intro a H
 refine wls H (Ez.st4 H rfl rfl rfl hA.2.2.1.c0 (hA.2.2.1.fz _)) ?_;clear H;intro H
 refine kP [(0,_),(4,_)] rfl (kW (kS (kR [_,_] (kM rfl rfl (kA rfl rfl (kP [(4,_)] rfl (kW ?_))))))) a H;clear H a;intro a H
 refine Wr ?_
 refine rt1 H rfl rfl ?_
 have hN:=hA.2.2.1.neg false rz.q
 exact ⟨_,rfl,⟨hN.1,h5,hA.2.2.2.trans hN.2⟩,by simp only [IR.v];simpa using h3,rfl,h2⟩
theorem intAbs (z x:Nat) (rz rx:IR) (w:World) (hz:Ib w z rz) (hx:Ib w x rx) (hne:z≠x) (hn:rx.n < 1000):
 Calls Tryz.prog 101 #[pz z,pz x] w fun e w'=>∃r,e=.returned (pz z)/\Zr w w' z rz r/\r.v=nv rx.X rx.n/\r.s=false/\r.n=rx.n:=by
 refine Qd (vs:= [pz z,pz x]) Tryz.func101 rfl rfl ?_
 intro a H
 replace H:Hd a 12 [] [(0,pz z),(1,pz x)]:=H
 refine Sq (Rl [_] (wl H (Ez.asn H rfl) rfl (kW (kS (kR [_,_,_] (kM rfl rfl (kM rfl rfl ?_)))))));clear H a;intro a H
 refine wk H cf76 (intSet z x rz rx w hz hx hne hn) rfl rfl ?_
 rintro _ w1 ⟨r,rfl,h1,h2,h3,h4⟩
 refine ⟨_,rfl,?_⟩;clear H a;intro a H
 refine kP [(0,_),(4,_)] rfl (kW (kS (kR [_,_,_,_] (kM rfl rfl (kN rfl rfl (kL (fun a H=>Ez.fa82_0 H rfl) rfl ?_)))))) a H;clear H a;intro a H
 refine wls H (Ez.st4 H rfl rfl rfl h1.ib.c0 (h1.ib.fz _)) ?_;clear H;intro H
 refine kP [(0,_),(4,_)] rfl (kW (kS (kR [_,_] (kM rfl rfl (kA rfl rfl (kP [(4,_)] rfl (kW ?_))))))) a H;clear H a;intro a H
 refine Wr ?_
 refine rt1 H rfl rfl ?_
 have hN:=h1.ib.neg false r.q
 refine ⟨_,rfl,h1.trans ⟨hN.1,Own.refl _ _,hN.2⟩,?_,rfl,h4⟩
 simp only [IR.v] at h2 ⊢
 rw [h3] at h2
 by_cases hs:rx.s=true
 ·simp only [hs,if_true] at h2;simp;omega
 simp only [hs] at h2;simpa using h2
theorem cmpI_ge {a b:Int}:(0<=cmpI a b)↔b<=a:=by
 unfold cmpI
 constructor
 ·intro h;split at h
  ·omega
  omega
 intro h
 rw [if_neg (by omega)];split <;> omega
theorem cmpW (qx qy:Option Addr) (n cx m cy:Nat) (X Y:Nat->Int) (w:World) (hx:Sl w qx n cx X) (hy:Sl w qy m cy Y) (hn:n < 1000000000) (hm:m < 1000000000) (hNx:Nm X n) (hNy:Nm Y m):
 ∀w',Cd w w'->Calls Tryz.prog 90 [Value.slice qx n cx,Value.slice qy m cy].toArray w' fun e w''=>e=.returned (.int .i64 (cmpI (nv X n) (nv Y m)))/\Cd w w'':=
 fun w' hw=>(natCmp qx qy n cx m cy X Y w' (hx.cd hw) (hy.cd hw) hn hm hNx hNy).mono fun _ _ ⟨h,e⟩=>⟨h,hw.trans e⟩
set_option maxHeartbeats 1000000 in
theorem intAdd (z x y:Nat) (rz rx ry:IR) (w:World) (hz:Ib w z rz) (hx:Ib w x rx) (hy:Ib w y ry) (hnx:rx.n < 1000) (hny:ry.n < 1000):
 Calls Tryz.prog 75 #[pz z,pz x,pz y] w fun e w'=>∃r,e=.returned (pz z)/\Zr w w' z rz r/\r.v=rx.v+ry.v/\r.n<=max rx.n ry.n+1:=by
 obtain ⟨w0,hw0⟩:∃w0,w0=w:=⟨w,rfl⟩
 rw [<-hw0]
 rw [<-hw0] at hz hx hy
 clear hw0 w
 refine Qd (vs:= [pz z,pz x,pz y]) Tryz.func75 rfl rfl ?_
 intro a H
 replace H:Hd a 94 [] [(0,pz z),(1,pz x),(2,pz y)]:=H
 refine Sq (Rl [_] (wl H (Ez.asn H rfl) rfl (kW (kS (kR [_,_,_,_,_] (kM rfl rfl (kN rfl rfl (kL (fun a H=>Ez.fa82_0 H rfl) rfl (kL (fun a H=>Ez.ld4 H rfl (hx.c0)) rfl (kA rfl rfl (kP [(0,_),(1,_),(2,_),(6,_),(7,_)] rfl (kW ?_))))))))))));clear H a;intro a H
 refine Jf (fun a w=>∃(s:Bool) (r:IR),Hd a 94 [] [(0,pz z),(7,.bool s)]/\Zr w0 w z rz r/\(if s then -(nv r.X r.n) else nv r.X r.n)=rx.v+ry.v/\r.n<=max rx.n ry.n+1) ?_ ?_
 ·refine Sq (Qr (ls:= [_,_,_,_,_,_,_,_,_]) Qb (by kernel_rfl) (wq H (fun w2 hw2=>Ez.mv H rfl) rfl (jN rfl rfl (jL (fun a H w2 hw2=>Ez.fa82_0 H rfl) rfl (jL (fun a H w2 hw2=>Ez.ld4 H rfl (hw2.cell hx.c0)) rfl (jM rfl rfl (jN rfl rfl (jL (fun a H w2 hw2=>Ez.fa82_0 H rfl) rfl (jL (fun a H w2 hw2=>Ez.ld4 H rfl (hw2.cell hy.c0)) rfl (jL (fun a H w2 hw2=>Ez.eqb H rfl rfl rfl) rfl ?_))))))))));clear H a;intro a H
  refine wqe ?_
  intro w1 hw
  have hz:=hz.cd hw
  have hx:=hx.cd hw
  have hy:=hy.cd hw
  have hC:=hw
  clear hw
  replace H:Hd a 94 [] [(0,_),(1,_),(2,_),(6,_),(7,_),(20,_)]:=H.pick [0,1,2,6,7,20]
  refine Cs (H.o rfl) (fun hb0=>?_) (fun hb0=>?_)
  ·have hs:rx.s=ry.s:=by simpa using hb0
   refine Ju [_,_,_,_,_,_,_,_,_,_,_,_,_,_,_,_,_] 13 [(.p,0),(.c,1),(.c,2),(.c,3),(.c,4),(.c,5),(.c,6),(.c,7),(.c,8),(.c,9),(.c,10),(.c,11),(.c,12),(.f,13),(.f,14),(.f,15),(.f,16)] Qb (fun _ _ _ _ _ h=>h) (by kernel_rfl) ?_
   intro w1 hw
   have hz:=hz.cd hw
   have hx:=hx.cd hw
   have hy:=hy.cd hw
   have hC:=hC.trans hw
   clear hw
   obtain ⟨wL,hwL⟩:∃wL,wL=w1:=⟨w1,rfl⟩
   rw [<-hwL]
   rw [<-hwL] at hz hx hy hC
   clear hwL w1
   refine mxp rfl H (fun _=>Ez.mv H rfl) rfl ?_;clear H a;intro a H
   refine mxc rfl H (Ez.mv H rfl) rfl ?_;clear H a;intro a H
   refine mxc rfl H (Ez.nc H rfl) rfl ?_;clear H a;intro a H
   refine mxc rfl H (Ez.fa82_1 H rfl) rfl ?_;clear H a;intro a H
   refine mxc rfl H (Ez.ld80 H rfl (hz.c1)) rfl ?_;clear H a;intro a H
   refine mxc rfl H (Ez.mv H rfl) rfl ?_;clear H a;intro a H
   refine mxc rfl H (Ez.nc H rfl) rfl ?_;clear H a;intro a H
   refine mxc rfl H (Ez.fa82_1 H rfl) rfl ?_;clear H a;intro a H
   refine mxc rfl H (Ez.ld80 H rfl (hx.c1)) rfl ?_;clear H a;intro a H
   refine mxc rfl H (Ez.mv H rfl) rfl ?_;clear H a;intro a H
   refine mxc rfl H (Ez.nc H rfl) rfl ?_;clear H a;intro a H
   refine mxc rfl H (Ez.fa82_1 H rfl) rfl ?_;clear H a;intro a H
   refine mxc rfl H (Ez.ld80 H rfl (hy.c1)) rfl ?_;clear H a;intro a H
   refine mxk rfl H cf92 (natAdd rz.q rx.q ry.q rz.n rz.c rx.n rx.c ry.n ry.c rz.X rx.X ry.X wL hz.sl hx.sl hy.sl (by omega) (by omega) hx.nm hy.nm) rfl rfl ?_
   rintro _ w1 ⟨q',k,c',X',rfl,h1,h2,h3,h4,h5,h6⟩
   refine ⟨_,rfl,?_⟩;clear H a;intro a H
   have hA:=hz.abs h6 h1 h4
   refine mxf rfl H (Ez.nc H rfl) rfl ?_;clear H a;intro a H
   refine mxf rfl H (Ez.fa82_1 H rfl) rfl ?_;clear H a;intro a H
   refine mxs rfl H (Ez.st80 H rfl rfl rfl hA.1 hA.2.1) ?_;clear H;intro H
   replace H:Hd a 94 [] [(0,_),(6,_),(7,_)]:=H.pick [0,6,7]
   refine mxe ?_
   replace H:Hd a 94 [] [(0,_),(7,_)]:=H.pick [0,7]
   have hZ:Zr w0 _ z rz ⟨rz.s,q',k,c',X'⟩:=⟨hA.2.2.1,fun k j h=>(h5 k j h).imp id (fun h=>by rw [<-hC.heap];exact h),(hC.fr _).trans hA.2.2.2⟩
   refine ⟨_,⟨rz.s,q',k,c',X'⟩,H,hZ,?_,by simp only;omega⟩
   simp only [IR.v]
   rw [h3]
   revert hs
   cases rx.s <;> cases ry.s <;> simp <;> omega
  have hs:rx.s≠ry.s:=by simpa using hb0
  refine Sq (Qr (ls:= [_,_,_,_,_,_,_,_,_,_]) Qb (by kernel_rfl) (wq H (fun w2 hw2=>Ez.mv H rfl) rfl (jN rfl rfl (jL (fun a H w2 hw2=>Ez.fa82_1 H rfl) rfl (jL (fun a H w2 hw2=>Ez.ld80 H rfl (hw2.cell hx.c1)) rfl (jM rfl rfl (jN rfl rfl (jL (fun a H w2 hw2=>Ez.fa82_1 H rfl) rfl (jL (fun a H w2 hw2=>Ez.ld80 H rfl (hw2.cell hy.c1)) rfl ?_)))))))));clear H a;intro a H
  refine wkq H cf90 (cmpW rx.q ry.q rx.n rx.c ry.n ry.c rx.X ry.X w1 hx.sl hy.sl (by omega) (by omega) hx.nm hy.nm) rfl rfl ?_;clear H a;intro a H
  refine wq H (fun w2 hw2=>Ez.geq H rfl rfl (rfl)) rfl ?_;clear H a;intro a H
  refine wqe ?_
  intro w1 hw
  have hz:=hz.cd hw
  have hx:=hx.cd hw
  have hy:=hy.cd hw
  have hC:=hC.trans hw
  clear hw
  replace H:Hd a 94 [] [(0,_),(1,_),(2,_),(6,_),(7,_),(46,_)]:=H.pick [0,1,2,6,7,46]
  refine Cs (H.o rfl) (fun hb1=>?_) (fun hb1=>?_)
  ·have hge:nv ry.X ry.n<=nv rx.X rx.n:=cmpI_ge.1 (Dt hb1)
   have hlen:ry.n<=rx.n:=by
    rcases Nat.lt_or_ge rx.n ry.n with h | h
    ·have:=Jx (X:=ry.X) (Y:=rx.X) (fun j hj=>hy.sl.u (by have:=hy.sl.le;omega)) (fun j hj=>hx.sl.u (by have:=hx.sl.le;omega)) hy.nm h
     omega
    exact h
   refine Ju [_,_,_,_,_,_,_,_,_,_,_,_,_,_,_,_,_] 13 [(.p,0),(.c,1),(.c,2),(.c,3),(.c,4),(.c,5),(.c,6),(.c,7),(.c,8),(.c,9),(.c,10),(.c,11),(.c,12),(.f,13),(.f,14),(.f,15),(.f,16)] Qb (fun _ _ _ _ _ h=>h) (by kernel_rfl) ?_
   intro w1 hw
   have hz:=hz.cd hw
   have hx:=hx.cd hw
   have hy:=hy.cd hw
   have hC:=hC.trans hw
   clear hw
   obtain ⟨wL,hwL⟩:∃wL,wL=w1:=⟨w1,rfl⟩
   rw [<-hwL]
   rw [<-hwL] at hz hx hy hC
   clear hwL w1
   refine mxp rfl H (fun _=>Ez.mv H rfl) rfl ?_;clear H a;intro a H
   refine mxc rfl H (Ez.mv H rfl) rfl ?_;clear H a;intro a H
   refine mxc rfl H (Ez.nc H rfl) rfl ?_;clear H a;intro a H
   refine mxc rfl H (Ez.fa82_1 H rfl) rfl ?_;clear H a;intro a H
   refine mxc rfl H (Ez.ld80 H rfl (hz.c1)) rfl ?_;clear H a;intro a H
   refine mxc rfl H (Ez.mv H rfl) rfl ?_;clear H a;intro a H
   refine mxc rfl H (Ez.nc H rfl) rfl ?_;clear H a;intro a H
   refine mxc rfl H (Ez.fa82_1 H rfl) rfl ?_;clear H a;intro a H
   refine mxc rfl H (Ez.ld80 H rfl (hx.c1)) rfl ?_;clear H a;intro a H
   refine mxc rfl H (Ez.mv H rfl) rfl ?_;clear H a;intro a H
   refine mxc rfl H (Ez.nc H rfl) rfl ?_;clear H a;intro a H
   refine mxc rfl H (Ez.fa82_1 H rfl) rfl ?_;clear H a;intro a H
   refine mxc rfl H (Ez.ld80 H rfl (hy.c1)) rfl ?_;clear H a;intro a H
   refine mxk rfl H cf93 (natSub rz.q rx.q ry.q rz.n rz.c rx.n rx.c ry.n ry.c rz.X rx.X ry.X wL hz.sl hx.sl hy.sl (by omega) hlen hx.nm hge) rfl rfl ?_
   rintro _ w1 ⟨q',k,c',X',rfl,h1,h2,h3,h4,h5,h6⟩
   refine ⟨_,rfl,?_⟩;clear H a;intro a H
   have hA:=hz.abs h6 h1 h4
   refine mxf rfl H (Ez.nc H rfl) rfl ?_;clear H a;intro a H
   refine mxf rfl H (Ez.fa82_1 H rfl) rfl ?_;clear H a;intro a H
   refine mxs rfl H (Ez.st80 H rfl rfl rfl hA.1 hA.2.1) ?_;clear H;intro H
   replace H:Hd a 94 [] [(0,_),(6,_),(7,_)]:=H.pick [0,6,7]
   refine mxe ?_
   replace H:Hd a 94 [] [(0,_),(7,_)]:=H.pick [0,7]
   have hZ:Zr w0 _ z rz ⟨rz.s,q',k,c',X'⟩:=⟨hA.2.2.1,fun k j h=>(h5 k j h).imp id (fun h=>by rw [<-hC.heap];exact h),(hC.fr _).trans hA.2.2.2⟩
   refine ⟨_,⟨rz.s,q',k,c',X'⟩,H,hZ,?_,by simp only;omega⟩
   simp only [IR.v]
   rw [h3]
   revert hs
   cases rx.s <;> cases ry.s <;> simp <;> omega
  have hge:nv rx.X rx.n<=nv ry.X ry.n:=by
   have h:=Df hb1
   by_cases h2:nv ry.X ry.n<=nv rx.X rx.n
   ·exact absurd (cmpI_ge.2 h2) h
   omega
  have hlen:rx.n<=ry.n:=by
   rcases Nat.lt_or_ge ry.n rx.n with h | h
   ·have:=Jx (X:=rx.X) (Y:=ry.X) (fun j hj=>hx.sl.u (by have:=hx.sl.le;omega)) (fun j hj=>hy.sl.u (by have:=hy.sl.le;omega)) hx.nm h
    omega
   exact h
  refine Sq (Rl [_,_,_] (wl H (Ez.mv H rfl) rfl (kL (fun a H=>Ez.not H rfl rfl) rfl (kA rfl rfl (kP [(0,_),(1,_),(2,_),(6,_),(7,_)] rfl (kW ?_))))));clear H a;intro a H
  refine Ju [_,_,_,_,_,_,_,_,_,_,_,_,_,_,_,_,_] 13 [(.p,0),(.c,1),(.c,2),(.c,3),(.c,4),(.c,5),(.c,6),(.c,7),(.c,8),(.c,9),(.c,10),(.c,11),(.c,12),(.f,13),(.f,14),(.f,15),(.f,16)] Qb (fun _ _ _ _ _ h=>h) (by kernel_rfl) ?_
  intro w1 hw
  have hz:=hz.cd hw
  have hx:=hx.cd hw
  have hy:=hy.cd hw
  have hC:=hC.trans hw
  clear hw
  obtain ⟨wL,hwL⟩:∃wL,wL=w1:=⟨w1,rfl⟩
  rw [<-hwL]
  rw [<-hwL] at hz hx hy hC
  clear hwL w1
  refine mxp rfl H (fun _=>Ez.mv H rfl) rfl ?_;clear H a;intro a H
  refine mxc rfl H (Ez.mv H rfl) rfl ?_;clear H a;intro a H
  refine mxc rfl H (Ez.nc H rfl) rfl ?_;clear H a;intro a H
  refine mxc rfl H (Ez.fa82_1 H rfl) rfl ?_;clear H a;intro a H
  refine mxc rfl H (Ez.ld80 H rfl (hz.c1)) rfl ?_;clear H a;intro a H
  refine mxc rfl H (Ez.mv H rfl) rfl ?_;clear H a;intro a H
  refine mxc rfl H (Ez.nc H rfl) rfl ?_;clear H a;intro a H
  refine mxc rfl H (Ez.fa82_1 H rfl) rfl ?_;clear H a;intro a H
  refine mxc rfl H (Ez.ld80 H rfl (hy.c1)) rfl ?_;clear H a;intro a H
  refine mxc rfl H (Ez.mv H rfl) rfl ?_;clear H a;intro a H
  refine mxc rfl H (Ez.nc H rfl) rfl ?_;clear H a;intro a H
  refine mxc rfl H (Ez.fa82_1 H rfl) rfl ?_;clear H a;intro a H
  refine mxc rfl H (Ez.ld80 H rfl (hx.c1)) rfl ?_;clear H a;intro a H
  refine mxk rfl H cf93 (natSub rz.q ry.q rx.q rz.n rz.c ry.n ry.c rx.n rx.c rz.X ry.X rx.X wL hz.sl hy.sl hx.sl (by omega) hlen hy.nm hge) rfl rfl ?_
  rintro _ w1 ⟨q',k,c',X',rfl,h1,h2,h3,h4,h5,h6⟩
  refine ⟨_,rfl,?_⟩;clear H a;intro a H
  have hA:=hz.abs h6 h1 h4
  refine mxf rfl H (Ez.nc H rfl) rfl ?_;clear H a;intro a H
  refine mxf rfl H (Ez.fa82_1 H rfl) rfl ?_;clear H a;intro a H
  refine mxs rfl H (Ez.st80 H rfl rfl rfl hA.1 hA.2.1) ?_;clear H;intro H
  replace H:Hd a 94 [] [(0,_),(6,_),(7,_)]:=H.pick [0,6,7]
  refine mxe ?_
  replace H:Hd a 94 [] [(0,_),(7,_)]:=H.pick [0,7]
  have hZ:Zr w0 _ z rz ⟨rz.s,q',k,c',X'⟩:=⟨hA.2.2.1,fun k j h=>(h5 k j h).imp id (fun h=>by rw [<-hC.heap];exact h),(hC.fr _).trans hA.2.2.2⟩
  refine ⟨_,⟨rz.s,q',k,c',X'⟩,H,hZ,?_,by simp only;omega⟩
  simp only [IR.v]
  rw [h3]
  revert hs
  cases rx.s <;> cases ry.s <;> simp <;> omega
 clear H a
 intro a w hJ
 obtain ⟨s,r,H,hZ,hv,hn⟩:=hJ
 refine Sq ?_
 rcases Nat.eq_zero_or_pos r.n with h0 | h0
 ·refine Rl [_,_,_,_,_,_,_,_,_,_,_,_,_] (wl H (Ez.mv H rfl) rfl (kM rfl rfl (kN rfl rfl (kL (fun a H=>Ez.fa82_1 H rfl) rfl (kL (fun a H=>Ez.ld80 H rfl (hZ.ib.c1)) rfl (kL (fun a H=>Ez.len80 H rfl) rfl (kL (fun a H=>Ez.gtr (r:=false) H rfl rfl (by (simp;omega))) rfl (kM rfl rfl (kX rfl rfl rfl rfl rfl (kL (fun a H=>Ez.pkF H rfl rfl) rfl (kN rfl rfl (kL (fun a H=>Ez.fa82_0 H rfl) rfl ?_))))))))))));clear H a;intro a H
  refine wls H (Ez.st4 H rfl rfl rfl hZ.ib.c0 (hZ.ib.fz _)) ?_;clear H;intro H
  refine kP [(0,_)] rfl (kW (kS (kR [_,_] (kM rfl rfl (kA rfl rfl (kP [(6,_)] rfl (kW ?_))))))) a H;clear H a;intro a H
  refine Wr ?_
  refine rt1 H rfl rfl ?_
  have hN:=hZ.ib.neg false r.q
  exact ⟨_,rfl,hZ.trans ⟨hN.1,Own.refl _ _,hN.2⟩,by rw [<-hv];exact IR.v_len _ s _ _ _ (.inl ⟨h0,rfl⟩),hn⟩
 refine Rl [_,_,_,_,_,_,_,_,_,_,_,_,_] (wl H (Ez.mv H rfl) rfl (kM rfl rfl (kN rfl rfl (kL (fun a H=>Ez.fa82_1 H rfl) rfl (kL (fun a H=>Ez.ld80 H rfl (hZ.ib.c1)) rfl (kL (fun a H=>Ez.len80 H rfl) rfl (kL (fun a H=>Ez.gtr (r:=true) H rfl rfl (by (simp;omega))) rfl (kM rfl rfl (kG (fun a H=>Ez.mv H rfl) rfl rfl rfl rfl rfl (kL (fun a H=>Ez.pkT H rfl rfl) rfl (kN rfl rfl (kL (fun a H=>Ez.fa82_0 H rfl) rfl ?_))))))))))));clear H a;intro a H
 refine wls H (Ez.st4 H rfl rfl rfl hZ.ib.c0 (hZ.ib.fz _)) ?_;clear H;intro H
 refine kP [(0,_)] rfl (kW (kS (kR [_,_] (kM rfl rfl (kA rfl rfl (kP [(6,_)] rfl (kW ?_))))))) a H;clear H a;intro a H
 refine Wr ?_
 refine rt1 H rfl rfl ?_
 have hN:=hZ.ib.neg s r.q
 exact ⟨_,rfl,hZ.trans ⟨hN.1,Own.refl _ _,hN.2⟩,by rw [<-hv];exact IR.v_len _ s _ _ _ (.inr ⟨h0,rfl⟩),hn⟩
set_option maxHeartbeats 1000000 in
theorem intSub (z x y:Nat) (rz rx ry:IR) (w:World) (hz:Ib w z rz) (hx:Ib w x rx) (hy:Ib w y ry) (hnx:rx.n < 1000) (hny:ry.n < 1000):
 Calls Tryz.prog 87 #[pz z,pz x,pz y] w fun e w'=>∃r,e=.returned (pz z)/\Zr w w' z rz r/\r.v=rx.v - ry.v/\r.n<=max rx.n ry.n+1:=by
 obtain ⟨w0,hw0⟩:∃w0,w0=w:=⟨w,rfl⟩
 rw [<-hw0]
 rw [<-hw0] at hz hx hy
 clear hw0 w
 refine Qd (vs:= [pz z,pz x,pz y]) Tryz.func87 rfl rfl ?_
 intro a H
 replace H:Hd a 94 [] [(0,pz z),(1,pz x),(2,pz y)]:=H
 refine Sq (Rl [_] (wl H (Ez.asn H rfl) rfl (kW (kS (kR [_,_,_,_,_] (kM rfl rfl (kN rfl rfl (kL (fun a H=>Ez.fa82_0 H rfl) rfl (kL (fun a H=>Ez.ld4 H rfl (hx.c0)) rfl (kA rfl rfl (kP [(0,_),(1,_),(2,_),(6,_),(7,_)] rfl (kW ?_))))))))))));clear H a;intro a H
 refine Jf (fun a w=>∃(s:Bool) (r:IR),Hd a 94 [] [(0,pz z),(7,.bool s)]/\Zr w0 w z rz r/\(if s then -(nv r.X r.n) else nv r.X r.n)=rx.v - ry.v/\r.n<=max rx.n ry.n+1) ?_ ?_
 ·refine Sq (Qr (ls:= [_,_,_,_,_,_,_,_,_]) Qb (by kernel_rfl) (wq H (fun w2 hw2=>Ez.mv H rfl) rfl (jN rfl rfl (jL (fun a H w2 hw2=>Ez.fa82_0 H rfl) rfl (jL (fun a H w2 hw2=>Ez.ld4 H rfl (hw2.cell hx.c0)) rfl (jM rfl rfl (jN rfl rfl (jL (fun a H w2 hw2=>Ez.fa82_0 H rfl) rfl (jL (fun a H w2 hw2=>Ez.ld4 H rfl (hw2.cell hy.c0)) rfl (jL (fun a H w2 hw2=>Ez.neb H rfl rfl rfl) rfl ?_))))))))));clear H a;intro a H
  refine wqe ?_
  intro w1 hw
  have hz:=hz.cd hw
  have hx:=hx.cd hw
  have hy:=hy.cd hw
  have hC:=hw
  clear hw
  replace H:Hd a 94 [] [(0,_),(1,_),(2,_),(6,_),(7,_),(20,_)]:=H.pick [0,1,2,6,7,20]
  refine Cs (H.o rfl) (fun hb0=>?_) (fun hb0=>?_)
  ·have hs:rx.s=!ry.s:=by revert hb0;cases rx.s <;> cases ry.s <;> simp
   refine Ju [_,_,_,_,_,_,_,_,_,_,_,_,_,_,_,_,_] 13 [(.p,0),(.c,1),(.c,2),(.c,3),(.c,4),(.c,5),(.c,6),(.c,7),(.c,8),(.c,9),(.c,10),(.c,11),(.c,12),(.f,13),(.f,14),(.f,15),(.f,16)] Qb (fun _ _ _ _ _ h=>h) (by kernel_rfl) ?_
   intro w1 hw
   have hz:=hz.cd hw
   have hx:=hx.cd hw
   have hy:=hy.cd hw
   have hC:=hC.trans hw
   clear hw
   obtain ⟨wL,hwL⟩:∃wL,wL=w1:=⟨w1,rfl⟩
   rw [<-hwL]
   rw [<-hwL] at hz hx hy hC
   clear hwL w1
   refine mxp rfl H (fun _=>Ez.mv H rfl) rfl ?_;clear H a;intro a H
   refine mxc rfl H (Ez.mv H rfl) rfl ?_;clear H a;intro a H
   refine mxc rfl H (Ez.nc H rfl) rfl ?_;clear H a;intro a H
   refine mxc rfl H (Ez.fa82_1 H rfl) rfl ?_;clear H a;intro a H
   refine mxc rfl H (Ez.ld80 H rfl (hz.c1)) rfl ?_;clear H a;intro a H
   refine mxc rfl H (Ez.mv H rfl) rfl ?_;clear H a;intro a H
   refine mxc rfl H (Ez.nc H rfl) rfl ?_;clear H a;intro a H
   refine mxc rfl H (Ez.fa82_1 H rfl) rfl ?_;clear H a;intro a H
   refine mxc rfl H (Ez.ld80 H rfl (hx.c1)) rfl ?_;clear H a;intro a H
   refine mxc rfl H (Ez.mv H rfl) rfl ?_;clear H a;intro a H
   refine mxc rfl H (Ez.nc H rfl) rfl ?_;clear H a;intro a H
   refine mxc rfl H (Ez.fa82_1 H rfl) rfl ?_;clear H a;intro a H
   refine mxc rfl H (Ez.ld80 H rfl (hy.c1)) rfl ?_;clear H a;intro a H
   refine mxk rfl H cf92 (natAdd rz.q rx.q ry.q rz.n rz.c rx.n rx.c ry.n ry.c rz.X rx.X ry.X wL hz.sl hx.sl hy.sl (by omega) (by omega) hx.nm hy.nm) rfl rfl ?_
   rintro _ w1 ⟨q',k,c',X',rfl,h1,h2,h3,h4,h5,h6⟩
   refine ⟨_,rfl,?_⟩;clear H a;intro a H
   have hA:=hz.abs h6 h1 h4
   refine mxf rfl H (Ez.nc H rfl) rfl ?_;clear H a;intro a H
   refine mxf rfl H (Ez.fa82_1 H rfl) rfl ?_;clear H a;intro a H
   refine mxs rfl H (Ez.st80 H rfl rfl rfl hA.1 hA.2.1) ?_;clear H;intro H
   replace H:Hd a 94 [] [(0,_),(6,_),(7,_)]:=H.pick [0,6,7]
   refine mxe ?_
   replace H:Hd a 94 [] [(0,_),(7,_)]:=H.pick [0,7]
   have hZ:Zr w0 _ z rz ⟨rz.s,q',k,c',X'⟩:=⟨hA.2.2.1,fun k j h=>(h5 k j h).imp id (fun h=>by rw [<-hC.heap];exact h),(hC.fr _).trans hA.2.2.2⟩
   refine ⟨_,⟨rz.s,q',k,c',X'⟩,H,hZ,?_,by simp only;omega⟩
   simp only [IR.v]
   rw [h3]
   revert hs
   cases rx.s <;> cases ry.s <;> simp <;> omega
  have hs:rx.s≠!ry.s:=by revert hb0;cases rx.s <;> cases ry.s <;> simp
  refine Sq (Qr (ls:= [_,_,_,_,_,_,_,_,_,_]) Qb (by kernel_rfl) (wq H (fun w2 hw2=>Ez.mv H rfl) rfl (jN rfl rfl (jL (fun a H w2 hw2=>Ez.fa82_1 H rfl) rfl (jL (fun a H w2 hw2=>Ez.ld80 H rfl (hw2.cell hx.c1)) rfl (jM rfl rfl (jN rfl rfl (jL (fun a H w2 hw2=>Ez.fa82_1 H rfl) rfl (jL (fun a H w2 hw2=>Ez.ld80 H rfl (hw2.cell hy.c1)) rfl ?_)))))))));clear H a;intro a H
  refine wkq H cf90 (cmpW rx.q ry.q rx.n rx.c ry.n ry.c rx.X ry.X w1 hx.sl hy.sl (by omega) (by omega) hx.nm hy.nm) rfl rfl ?_;clear H a;intro a H
  refine wq H (fun w2 hw2=>Ez.geq H rfl rfl (rfl)) rfl ?_;clear H a;intro a H
  refine wqe ?_
  intro w1 hw
  have hz:=hz.cd hw
  have hx:=hx.cd hw
  have hy:=hy.cd hw
  have hC:=hC.trans hw
  clear hw
  replace H:Hd a 94 [] [(0,_),(1,_),(2,_),(6,_),(7,_),(46,_)]:=H.pick [0,1,2,6,7,46]
  refine Cs (H.o rfl) (fun hb1=>?_) (fun hb1=>?_)
  ·have hge:nv ry.X ry.n<=nv rx.X rx.n:=cmpI_ge.1 (Dt hb1)
   have hlen:ry.n<=rx.n:=by
    rcases Nat.lt_or_ge rx.n ry.n with h | h
    ·have:=Jx (X:=ry.X) (Y:=rx.X) (fun j hj=>hy.sl.u (by have:=hy.sl.le;omega)) (fun j hj=>hx.sl.u (by have:=hx.sl.le;omega)) hy.nm h
     omega
    exact h
   refine Ju [_,_,_,_,_,_,_,_,_,_,_,_,_,_,_,_,_] 13 [(.p,0),(.c,1),(.c,2),(.c,3),(.c,4),(.c,5),(.c,6),(.c,7),(.c,8),(.c,9),(.c,10),(.c,11),(.c,12),(.f,13),(.f,14),(.f,15),(.f,16)] Qb (fun _ _ _ _ _ h=>h) (by kernel_rfl) ?_
   intro w1 hw
   have hz:=hz.cd hw
   have hx:=hx.cd hw
   have hy:=hy.cd hw
   have hC:=hC.trans hw
   clear hw
   obtain ⟨wL,hwL⟩:∃wL,wL=w1:=⟨w1,rfl⟩
   rw [<-hwL]
   rw [<-hwL] at hz hx hy hC
   clear hwL w1
   refine mxp rfl H (fun _=>Ez.mv H rfl) rfl ?_;clear H a;intro a H
   refine mxc rfl H (Ez.mv H rfl) rfl ?_;clear H a;intro a H
   refine mxc rfl H (Ez.nc H rfl) rfl ?_;clear H a;intro a H
   refine mxc rfl H (Ez.fa82_1 H rfl) rfl ?_;clear H a;intro a H
   refine mxc rfl H (Ez.ld80 H rfl (hz.c1)) rfl ?_;clear H a;intro a H
   refine mxc rfl H (Ez.mv H rfl) rfl ?_;clear H a;intro a H
   refine mxc rfl H (Ez.nc H rfl) rfl ?_;clear H a;intro a H
   refine mxc rfl H (Ez.fa82_1 H rfl) rfl ?_;clear H a;intro a H
   refine mxc rfl H (Ez.ld80 H rfl (hx.c1)) rfl ?_;clear H a;intro a H
   refine mxc rfl H (Ez.mv H rfl) rfl ?_;clear H a;intro a H
   refine mxc rfl H (Ez.nc H rfl) rfl ?_;clear H a;intro a H
   refine mxc rfl H (Ez.fa82_1 H rfl) rfl ?_;clear H a;intro a H
   refine mxc rfl H (Ez.ld80 H rfl (hy.c1)) rfl ?_;clear H a;intro a H
   refine mxk rfl H cf93 (natSub rz.q rx.q ry.q rz.n rz.c rx.n rx.c ry.n ry.c rz.X rx.X ry.X wL hz.sl hx.sl hy.sl (by omega) hlen hx.nm hge) rfl rfl ?_
   rintro _ w1 ⟨q',k,c',X',rfl,h1,h2,h3,h4,h5,h6⟩
   refine ⟨_,rfl,?_⟩;clear H a;intro a H
   have hA:=hz.abs h6 h1 h4
   refine mxf rfl H (Ez.nc H rfl) rfl ?_;clear H a;intro a H
   refine mxf rfl H (Ez.fa82_1 H rfl) rfl ?_;clear H a;intro a H
   refine mxs rfl H (Ez.st80 H rfl rfl rfl hA.1 hA.2.1) ?_;clear H;intro H
   replace H:Hd a 94 [] [(0,_),(6,_),(7,_)]:=H.pick [0,6,7]
   refine mxe ?_
   replace H:Hd a 94 [] [(0,_),(7,_)]:=H.pick [0,7]
   have hZ:Zr w0 _ z rz ⟨rz.s,q',k,c',X'⟩:=⟨hA.2.2.1,fun k j h=>(h5 k j h).imp id (fun h=>by rw [<-hC.heap];exact h),(hC.fr _).trans hA.2.2.2⟩
   refine ⟨_,⟨rz.s,q',k,c',X'⟩,H,hZ,?_,by simp only;omega⟩
   simp only [IR.v]
   rw [h3]
   revert hs
   cases rx.s <;> cases ry.s <;> simp <;> omega
  have hge:nv rx.X rx.n<=nv ry.X ry.n:=by
   have h:=Df hb1
   by_cases h2:nv ry.X ry.n<=nv rx.X rx.n
   ·exact absurd (cmpI_ge.2 h2) h
   omega
  have hlen:rx.n<=ry.n:=by
   rcases Nat.lt_or_ge ry.n rx.n with h | h
   ·have:=Jx (X:=rx.X) (Y:=ry.X) (fun j hj=>hx.sl.u (by have:=hx.sl.le;omega)) (fun j hj=>hy.sl.u (by have:=hy.sl.le;omega)) hx.nm h
    omega
   exact h
  refine Sq (Rl [_,_,_] (wl H (Ez.mv H rfl) rfl (kL (fun a H=>Ez.not H rfl rfl) rfl (kA rfl rfl (kP [(0,_),(1,_),(2,_),(6,_),(7,_)] rfl (kW ?_))))));clear H a;intro a H
  refine Ju [_,_,_,_,_,_,_,_,_,_,_,_,_,_,_,_,_] 13 [(.p,0),(.c,1),(.c,2),(.c,3),(.c,4),(.c,5),(.c,6),(.c,7),(.c,8),(.c,9),(.c,10),(.c,11),(.c,12),(.f,13),(.f,14),(.f,15),(.f,16)] Qb (fun _ _ _ _ _ h=>h) (by kernel_rfl) ?_
  intro w1 hw
  have hz:=hz.cd hw
  have hx:=hx.cd hw
  have hy:=hy.cd hw
  have hC:=hC.trans hw
  clear hw
  obtain ⟨wL,hwL⟩:∃wL,wL=w1:=⟨w1,rfl⟩
  rw [<-hwL]
  rw [<-hwL] at hz hx hy hC
  clear hwL w1
  refine mxp rfl H (fun _=>Ez.mv H rfl) rfl ?_;clear H a;intro a H
  refine mxc rfl H (Ez.mv H rfl) rfl ?_;clear H a;intro a H
  refine mxc rfl H (Ez.nc H rfl) rfl ?_;clear H a;intro a H
  refine mxc rfl H (Ez.fa82_1 H rfl) rfl ?_;clear H a;intro a H
  refine mxc rfl H (Ez.ld80 H rfl (hz.c1)) rfl ?_;clear H a;intro a H
  refine mxc rfl H (Ez.mv H rfl) rfl ?_;clear H a;intro a H
  refine mxc rfl H (Ez.nc H rfl) rfl ?_;clear H a;intro a H
  refine mxc rfl H (Ez.fa82_1 H rfl) rfl ?_;clear H a;intro a H
  refine mxc rfl H (Ez.ld80 H rfl (hy.c1)) rfl ?_;clear H a;intro a H
  refine mxc rfl H (Ez.mv H rfl) rfl ?_;clear H a;intro a H
  refine mxc rfl H (Ez.nc H rfl) rfl ?_;clear H a;intro a H
  refine mxc rfl H (Ez.fa82_1 H rfl) rfl ?_;clear H a;intro a H
  refine mxc rfl H (Ez.ld80 H rfl (hx.c1)) rfl ?_;clear H a;intro a H
  refine mxk rfl H cf93 (natSub rz.q ry.q rx.q rz.n rz.c ry.n ry.c rx.n rx.c rz.X ry.X rx.X wL hz.sl hy.sl hx.sl (by omega) hlen hy.nm hge) rfl rfl ?_
  rintro _ w1 ⟨q',k,c',X',rfl,h1,h2,h3,h4,h5,h6⟩
  refine ⟨_,rfl,?_⟩;clear H a;intro a H
  have hA:=hz.abs h6 h1 h4
  refine mxf rfl H (Ez.nc H rfl) rfl ?_;clear H a;intro a H
  refine mxf rfl H (Ez.fa82_1 H rfl) rfl ?_;clear H a;intro a H
  refine mxs rfl H (Ez.st80 H rfl rfl rfl hA.1 hA.2.1) ?_;clear H;intro H
  replace H:Hd a 94 [] [(0,_),(6,_),(7,_)]:=H.pick [0,6,7]
  refine mxe ?_
  replace H:Hd a 94 [] [(0,_),(7,_)]:=H.pick [0,7]
  have hZ:Zr w0 _ z rz ⟨rz.s,q',k,c',X'⟩:=⟨hA.2.2.1,fun k j h=>(h5 k j h).imp id (fun h=>by rw [<-hC.heap];exact h),(hC.fr _).trans hA.2.2.2⟩
  refine ⟨_,⟨rz.s,q',k,c',X'⟩,H,hZ,?_,by simp only;omega⟩
  simp only [IR.v]
  rw [h3]
  revert hs
  cases rx.s <;> cases ry.s <;> simp <;> omega
 clear H a
 intro a w hJ
 obtain ⟨s,r,H,hZ,hv,hn⟩:=hJ
 refine Sq ?_
 rcases Nat.eq_zero_or_pos r.n with h0 | h0
 ·refine Rl [_,_,_,_,_,_,_,_,_,_,_,_,_] (wl H (Ez.mv H rfl) rfl (kM rfl rfl (kN rfl rfl (kL (fun a H=>Ez.fa82_1 H rfl) rfl (kL (fun a H=>Ez.ld80 H rfl (hZ.ib.c1)) rfl (kL (fun a H=>Ez.len80 H rfl) rfl (kL (fun a H=>Ez.gtr (r:=false) H rfl rfl (by (simp;omega))) rfl (kM rfl rfl (kX rfl rfl rfl rfl rfl (kL (fun a H=>Ez.pkF H rfl rfl) rfl (kN rfl rfl (kL (fun a H=>Ez.fa82_0 H rfl) rfl ?_))))))))))));clear H a;intro a H
  refine wls H (Ez.st4 H rfl rfl rfl hZ.ib.c0 (hZ.ib.fz _)) ?_;clear H;intro H
  refine kP [(0,_)] rfl (kW (kS (kR [_,_] (kM rfl rfl (kA rfl rfl (kP [(6,_)] rfl (kW ?_))))))) a H;clear H a;intro a H
  refine Wr ?_
  refine rt1 H rfl rfl ?_
  have hN:=hZ.ib.neg false r.q
  exact ⟨_,rfl,hZ.trans ⟨hN.1,Own.refl _ _,hN.2⟩,by rw [<-hv];exact IR.v_len _ s _ _ _ (.inl ⟨h0,rfl⟩),hn⟩
 refine Rl [_,_,_,_,_,_,_,_,_,_,_,_,_] (wl H (Ez.mv H rfl) rfl (kM rfl rfl (kN rfl rfl (kL (fun a H=>Ez.fa82_1 H rfl) rfl (kL (fun a H=>Ez.ld80 H rfl (hZ.ib.c1)) rfl (kL (fun a H=>Ez.len80 H rfl) rfl (kL (fun a H=>Ez.gtr (r:=true) H rfl rfl (by (simp;omega))) rfl (kM rfl rfl (kG (fun a H=>Ez.mv H rfl) rfl rfl rfl rfl rfl (kL (fun a H=>Ez.pkT H rfl rfl) rfl (kN rfl rfl (kL (fun a H=>Ez.fa82_0 H rfl) rfl ?_))))))))))));clear H a;intro a H
 refine wls H (Ez.st4 H rfl rfl rfl hZ.ib.c0 (hZ.ib.fz _)) ?_;clear H;intro H
 refine kP [(0,_)] rfl (kW (kS (kR [_,_] (kM rfl rfl (kA rfl rfl (kP [(6,_)] rfl (kW ?_))))))) a H;clear H a;intro a H
 refine Wr ?_
 refine rt1 H rfl rfl ?_
 have hN:=hZ.ib.neg s r.q
 exact ⟨_,rfl,hZ.trans ⟨hN.1,Own.refl _ _,hN.2⟩,by rw [<-hv];exact IR.v_len _ s _ _ _ (.inr ⟨h0,rfl⟩),hn⟩
end
end Go.Proofs.YtijgloklmiokhaaGreatDoor
