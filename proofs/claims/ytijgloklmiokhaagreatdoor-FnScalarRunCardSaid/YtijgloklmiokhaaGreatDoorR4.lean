/-
Part 4 of 6 of the proof; what is proved stands in the last part.
-/
import Derived.Test.YtijgloklmiokhaaGreatDoorR3
set_option linter.unusedSimpArgs false
set_option linter.unusedVariables false
namespace Go.Proofs.YtijgloklmiokhaaGreatDoor
open Go.RowKit
section
set_option maxRecDepth 8000
theorem intScan (z b:Nat) (s:ByteArray) (v:Value) (D:Nat->Int) (w:World) (hsz:s.size=64) (hD:∀j,j < 64->Hx (chr s j) (D j)/\0<=D j/\D j < 16) (hz:Ib w z r0) (hR:Rd w b s 0) (he:w.cell? ⟨0,0,none⟩=some v) (hE:Eof v) (hb:b≠0) (hz0:z≠0) (hzb:z≠b):
 Calls Tryz.prog 127 #[pz z,.iface 131 (pz b),.int .i64 16] w fun e w'=>∃r,e=.returned (.tuple #[pz z,.int .i64 16,.nilIface])/\Ib w' z r/\nv r.X r.n=hxv D 64/\r.s=false/\r.n<=4/\(∀x j,TQ r.q x j->w.heap.size<=x)/\Rd w' b s 64/\Fr (D3 z b b) w w':=by
 refine Qd (vs:= [pz z,.iface 131 (pz b),.int .i64 16]) Tryz.func127 rfl rfl ?_
 intro a H
 replace H:Hd a 52 [] [(0,pz z),(1,.iface 131 (pz b)),(2,.int .i64 16)]:=H
 refine Sq (Rl [_,_,_] (wl H (Ez.asn H rfl) rfl (kA rfl rfl (kA rfl rfl (kW (kS (kR [_,_,_,_,_,_,_] (kM rfl rfl ?_))))))));clear H a;intro a H
 refine wk H cf143 (scanSign b s w hR (by omega) (by omega) (by have h9:=(hD 0 (by omega)).1;rw [<-chr_eq (by omega)] at h9;unfold Hx at h9;omega)) rfl rfl ?_
 rintro _ w1 ⟨rfl,hR1,hF1⟩
 refine ⟨_,rfl,?_⟩;clear H a;intro a H
 obtain ⟨wA,rfl⟩:∃wA,wA=w1:=⟨w1,rfl⟩
 have hz1:=hz.fr hF1 (fun o e=>hzb e) (fun k j o ht=>(Q9 ht).elim)
 refine wl H (Ez.mv H rfl) rfl (kL (fun a H=>Ez.ext0 H rfl) rfl (kL (fun a H=>Ez.ext1 H rfl) rfl (kA rfl rfl (kA rfl rfl (kP [(0,_),(1,_),(2,_),(6,_),(7,_),(8,_),(9,_),(10,_)] rfl (kW (kS (kS (kR [_,_] (kM rfl rfl (kL (fun a H=>Ez.neNI H rfl) rfl (kP [(0,_),(1,_),(2,_),(6,_),(7,_),(8,_),(9,_),(10,_),(17,_)] rfl (kW ?_)))))))))))));clear H a;intro a H
 refine Cf (H.o rfl) (Wk0 (thn (Sq (Rl [_,_,_,_,_,_,_,_,_,_,_,_,_,_,_,_,_,_] (wl H (Ez.mv H rfl) rfl (kM rfl rfl (kN rfl rfl (kL (fun a H=>Ez.fa82_1 H rfl) rfl (kL (fun a H=>Ez.ld80 H rfl (hz1.c1)) rfl (kM rfl rfl (kM rfl rfl ?_)))))))))));clear H a;intro a H
 refine wk H cf144 (natScan b s v D wA hsz hD hR1 (hF1.someCell he (fun e=>hb (Eq.symm e))) hb hE) rfl rfl ?_
 rintro _ w1 ⟨q',k,c',X',rfl,k1,k2,k3,k4,k5,k6,k7⟩
 refine ⟨_,rfl,?_⟩;clear H a;intro a H
 obtain ⟨wB,rfl⟩:∃wB,wB=w1:=⟨w1,rfl⟩
 have hz2:=hz1.fr k7 (fun o e=>hzb e) (fun k j o ht=>(Q9 ht).elim)
 have hA:=hz2.abs (Fr.refl _ wB) k1 k4
 refine wl H (Ez.mv H rfl) rfl (kL (fun a H=>Ez.extN (v:=.slice q' k c') H rfl rfl) rfl (kL (fun a H=>Ez.extN H rfl rfl) rfl (kL (fun a H=>Ez.extN H rfl rfl) rfl (kL (fun a H=>Ez.extN H rfl rfl) rfl (kN rfl rfl (kL (fun a H=>Ez.fa82_1 H rfl) rfl ?_))))));clear H a;intro a H
 refine wls H (Ez.st80 H rfl rfl rfl hA.1 hA.2.1) ?_;clear H;intro H
 refine wl H (Ez.asn H rfl) rfl (kA rfl rfl (kP [(0,_),(2,_),(6,_),(7,_),(8,_),(9,_),(10,_)] rfl (kW ?_)));clear H a;intro a H
 obtain ⟨_,_,hI,hFz⟩:=hA
 have hRz:=k6.fr hFz (fun o e=>by rcases e with e | e;exact hzb (Eq.symm e);exact Q9 e)
 have hF:Fr (D3 z b b) w _:=(((hF1.trans k7).mono fun k o _ e=>.inr (.inl e))).trans (hFz.mono fun k o _ e=>by rcases e with e | e;exact .inl e;exact (Q9 e).elim)
 generalize wB.setCell ⟨z,1,none⟩ (.slice q' k c')=wC at hI hRz hF
 refine Sq (Sq (Rl [_,_] (wl H (Ez.mv H rfl) rfl (kL (fun a H=>Ez.neNI H rfl) rfl (kP [(0,_),(2,_),(6,_),(7,_),(8,_),(9,_),(10,_),(35,_)] rfl (kW ?_))))));clear H a;intro a H
 refine Cf (H.o rfl) (Wk0 (thn (Sq ?_)))
 rcases Nat.eq_zero_or_pos k with h0 | h0
 ·refine Rl [_,_,_,_,_,_,_,_,_,_,_,_,_] (wl H (Ez.mv H rfl) rfl (kM rfl rfl (kN rfl rfl (kL (fun a H=>Ez.fa82_1 H rfl) rfl (kL (fun a H=>Ez.ld80 H rfl (hI.c1)) rfl (kL (fun a H=>Ez.len80 H rfl) rfl (kL (fun a H=>Ez.gtr (r:=false) H rfl rfl (by (simp;omega))) rfl (kM rfl rfl (kX rfl rfl rfl rfl rfl (kL (fun a H=>Ez.pkF H rfl rfl) rfl (kN rfl rfl (kL (fun a H=>Ez.fa82_0 H rfl) rfl ?_))))))))))));clear H a;intro a H
  refine wls H (Ez.st4 H rfl rfl rfl hI.c0 (hI.fz _)) ?_;clear H;intro H
  refine kP [(0,_),(2,_),(6,_),(7,_),(8,_)] rfl (kW (kS (kR [_,_,_,_,_] (kM rfl rfl (kM rfl rfl (kA rfl rfl (kA rfl rfl (kA rfl rfl (kP [(6,_),(7,_),(8,_)] rfl (kW ?_)))))))))) a H;clear H a;intro a H
  refine Wr ?_
  refine rt3 H rfl rfl rfl rfl ?_
  have hN:=hI.neg false none
  exact ⟨_,rfl,hN.1,k3,rfl,k2,fun x j hh=>Nat.le_trans hF1.size (k5 x j hh),hRz.fr hN.2 (fun o e=>by rcases e with e | e;exact hzb (Eq.symm e);exact Q9 e),hF.trans (hN.2.mono fun k o _ e=>by rcases e with e | e;exact .inl e;exact (Q9 e).elim)⟩
 refine Rl [_,_,_,_,_,_,_,_,_,_,_,_,_] (wl H (Ez.mv H rfl) rfl (kM rfl rfl (kN rfl rfl (kL (fun a H=>Ez.fa82_1 H rfl) rfl (kL (fun a H=>Ez.ld80 H rfl (hI.c1)) rfl (kL (fun a H=>Ez.len80 H rfl) rfl (kL (fun a H=>Ez.gtr (r:=true) H rfl rfl (by (simp;omega))) rfl (kM rfl rfl (kG (fun a H=>Ez.mv H rfl) rfl rfl rfl rfl rfl (kL (fun a H=>Ez.pkT H rfl rfl) rfl (kN rfl rfl (kL (fun a H=>Ez.fa82_0 H rfl) rfl ?_))))))))))));clear H a;intro a H
 refine wls H (Ez.st4 H rfl rfl rfl hI.c0 (hI.fz _)) ?_;clear H;intro H
 refine kP [(0,_),(2,_),(6,_),(7,_),(8,_)] rfl (kW (kS (kR [_,_,_,_,_] (kM rfl rfl (kM rfl rfl (kA rfl rfl (kA rfl rfl (kA rfl rfl (kP [(6,_),(7,_),(8,_)] rfl (kW ?_)))))))))) a H;clear H a;intro a H
 refine Wr ?_
 refine rt3 H rfl rfl rfl rfl ?_
 have hN:=hI.neg false none
 exact ⟨_,rfl,hN.1,k3,rfl,k2,fun x j hh=>Nat.le_trans hF1.size (k5 x j hh),hRz.fr hN.2 (fun o e=>by rcases e with e | e;exact hzb (Eq.symm e);exact Q9 e),hF.trans (hN.2.mono fun k o _ e=>by rcases e with e | e;exact .inl e;exact (Q9 e).elim)⟩
theorem setFromScanner (z b:Nat) (s:ByteArray) (v:Value) (D:Nat->Int) (w:World) (hsz:s.size=64) (hD:∀j,j < 64->Hx (chr s j) (D j)/\0<=D j/\D j < 16) (hz:Ib w z r0) (hR:Rd w b s 0) (he:w.cell? ⟨0,0,none⟩=some v) (hE:Eof v) (hb:b≠0) (hz0:z≠0) (hzb:z≠b):
 Calls Tryz.prog 113 #[pz z,.iface 131 (pz b),.int .i64 16] w fun e w'=>∃r,e=.returned (.tuple #[pz z,.bool true])/\Ib w' z r/\nv r.X r.n=hxv D 64/\r.s=false/\r.n<=4/\(∀x j,TQ r.q x j->w.heap.size<=x)/\Fr (D3 z b b) w w':=by
 refine Qd (vs:= [pz z,.iface 131 (pz b),.int .i64 16]) Tryz.func113 rfl rfl ?_
 intro a H
 replace H:Hd a 32 [] [(0,pz z),(1,.iface 131 (pz b)),(2,.int .i64 16)]:=H
 refine Sq (Rl [_,_] (wl H (Ez.asn H rfl) rfl (kA rfl rfl (kW (kS (kS (kR [_,_,_,_,_,_,_,_,_,_,_] (kM rfl rfl (kM rfl rfl (kM rfl rfl ?_))))))))));clear H a;intro a H
 refine wk H cf127 (intScan z b s v D w hsz hD hz hR he hE hb hz0 hzb) rfl rfl ?_
 rintro _ w1 ⟨r,rfl,h1,h2,h3,h4,h5,h6,h7⟩
 refine ⟨_,rfl,?_⟩;clear H a;intro a H
 obtain ⟨wA,rfl⟩:∃wA,wA=w1:=⟨w1,rfl⟩
 have he1:=h7.someCell he (fun e=>by rcases e with e | e | e;exact hz0 (Eq.symm e);exact hb (Eq.symm e);exact hb (Eq.symm e))
 refine wl H (Ez.mv H rfl) rfl (kL (fun a H=>Ez.extN H rfl rfl) rfl (kL (fun a H=>Ez.extN H rfl rfl) rfl (kL (fun a H=>Ez.extN H rfl rfl) rfl (kA rfl rfl (kA rfl rfl (kA rfl rfl (kP [(0,_),(1,_),(6,_),(7,_),(10,_)] rfl (kW (kS (kR [_,_] (kM rfl rfl (kL (fun a H=>Ez.neNI H rfl) rfl (kP [(0,_),(1,_),(6,_),(7,_),(22,_)] rfl (kW ?_))))))))))))));clear H a;intro a H
 refine Cf (H.o rfl) (Wk0 (thn (Sq (Sq (Rl [_,_,_,_,_,_,_] (wl H (Ez.mv H rfl) rfl ?_))))));clear H a;intro a H
 refine wlc H (Ez.inv131R H rfl _) (readEOF b 64 s v wA h6 (by omega) (by omega) he1 hb) rfl ?_
 rintro _ w1 ⟨rfl,h8,h9⟩
 refine ⟨_,rfl,?_⟩;clear H a;intro a H
 obtain ⟨wB,rfl⟩:∃wB,wB=w1:=⟨w1,rfl⟩
 refine wl H (Ez.mv H rfl) rfl (kL (fun a H=>Ez.ext0 H rfl) rfl (kL (fun a H=>Ez.ext1 H rfl) rfl (kA rfl rfl (kA rfl rfl (kP [(0,_),(6,_),(7,_),(12,_)] rfl (kW (kS (kR [_,_,_] (kM rfl rfl (kL (fun a H=>Ez.ld146 H rfl (h9.someCell he1 (fun e=>hb (Eq.symm e)))) rfl (kL (fun a H=>hE.ne _ _ _ _ _ _ _ _ _ _ _ _ _ H rfl rfl) rfl (kP [(0,_),(6,_),(7,_),(30,_)] rfl (kW ?_)))))))))))));clear H a;intro a H
 refine Cf (H.o rfl) (Wk0 (thn (Sq (Rl [_,_,_] (wl H (Ez.mv H rfl) rfl (kA rfl rfl (kA rfl rfl (kP [(6,_),(7,_)] rfl (kW ?_)))))))));clear H a;intro a H
 refine Wr ?_
 refine rt2 H rfl rfl rfl ?_
 exact ⟨r,rfl,h1.fr h9 (fun o e=>hzb e) (fun k j o ht e=>by have e:k=b:=e;have h10:=h5 k j ht;have:=Bl0 w _ hR.c0;rw [e] at h10;exact absurd this (Nat.not_lt.2 h10)),h2,h3,h4,h5,h7.trans (h9.mono fun k o _ e=>.inr (.inl e))⟩
theorem setString (z:Nat) (s:ByteArray) (v:Value) (D:Nat->Int) (w:World) (hsz:s.size=64) (hD:∀j,j < 64->Hx (chr s j) (D j)/\0<=D j/\D j < 16) (hz:Ib w z r0) (he:w.cell? ⟨0,0,none⟩=some v) (hE:Eof v) (hz0:z≠0):
 Calls Tryz.prog 96 #[pz z,.string s,.int .i64 16] w fun e w'=>∃r,e=.returned (.tuple #[pz z,.bool true])/\Ib w' z r/\nv r.X r.n=hxv D 64/\r.s=false/\r.n<=4/\(∀x j,TQ r.q x j->w.heap.size<=x)/\Fr (Bl z) w w':=by
 refine Qd (vs:= [pz z,.string s,.int .i64 16]) Tryz.func96 rfl rfl ?_
 intro a H
 replace H:Hd a 16 [] [(0,pz z),(1,.string s),(2,.int .i64 16)]:=H
 refine Sq (Rl [_,_] (wl H (Ez.asn H rfl) rfl (kA rfl rfl (kW (kS (kR [_,_,_,_,_,_,_,_,_,_] (kM rfl rfl (kM rfl rfl ?_))))))));clear H a;intro a H
 refine wk H cf114 (newReader s w) rfl rfl ?_
 rintro _ w1 ⟨b,rfl,h1,h2,h3⟩
 refine ⟨_,rfl,?_⟩;clear H a;intro a H
 have hzl:=hz.lt
 have h0l:=Bl0 w _ he
 have h0l:0 < w.heap.size:=h0l
 obtain ⟨wA,rfl⟩:∃wA,wA=w1:=⟨w1,rfl⟩
 refine wl H (Ez.mki131 H rfl) rfl (kM rfl rfl ?_);clear H a;intro a H
 refine wk H cf113 (setFromScanner z b s v D wA hsz hD (hz.fr h3 (fun _ f=>f) (fun _ _ _ _ f=>f)) h2 (h3.someCell he (fun f=>f)) hE (by omega) hz0 (by omega)) rfl rfl ?_
 rintro _ w1 ⟨r,rfl,k1,k2,k3,k4,k5,k6⟩
 refine ⟨_,rfl,?_⟩;clear H a;intro a H
 refine wl H (Ez.ext0 H rfl) rfl (kL (fun a H=>Ez.ext1 H rfl) rfl (kA rfl rfl (kA rfl rfl (kP [(6,_),(7,_)] rfl (kW ?_)))));clear H a;intro a H
 refine Wr ?_
 refine rt2 H rfl rfl rfl ?_
 exact ⟨r,rfl,k1,k2,k3,k4,fun x j hh=>Nat.le_trans h3.size (k5 x j hh),((h3.noT (T:=fun k j=>Bl z k j\/w.heap.size<=k)).trans (k6.mono fun k o _ e=>by rcases e with e | e | e;exact .inl e;exact .inr (by omega);exact .inr (by omega))).mono fun k o hk e=>by rcases e with e | e;exact e;omega⟩
end
section
set_option maxRecDepth 8000
theorem Ez.eqS0 {a:Act} {N:Nat} {ds:List Deferred} {l:Env} {w:World} {d:Option Nat} {ty:TypeId} {pos:String} {after:Array Edge} {g:Option (Nat × Bool)} (H:Hd a N ds l) {x y:Operand} {s t:ByteArray} {u:TypeId} (h:ov l x=some (.string s)) (h':ov l y=some (.string t)) (hs:s.size≠t.size):
 (execOp a.eval ⟨d,.binOp .eql 9 x y u,ty,pos,after,g⟩).run Tryz.prog w=.ok (.value (.bool false)) w:=by
 have e:=H.o h
 have e':=H.o h'
 simp only [execOp,e,e'];go_simp
 intro e3
 apply hs
 rw [ByteArray.toList_eq,ByteArray.toList_eq] at e3
 have h9:=congrArg List.length e3
 rw [Array.length_toList,Array.length_toList] at h9
 exact h9
def hexD (s:ByteArray) (j:Nat):Int:=if chr s j<=57 then chr s j - 48 else chr s j - 87
def hexOk (s:ByteArray):Bool:=s.size==64 && (List.range 64).all fun j=>(decide (48<=chr s j) && decide (chr s j<=57)) || (decide (97<=chr s j) && decide (chr s j<=102))
theorem hexOk_d {s:ByteArray} (h:hexOk s=true):s.size=64/\∀j,j < 64->Hx (chr s j) (hexD s j)/\0<=hexD s j/\hexD s j < 16:=by
 simp only [hexOk,Bool.and_eq_true,beq_iff_eq,List.all_eq_true,List.mem_range,Bool.or_eq_true,decide_eq_true_eq] at h
 refine ⟨h.1,fun j hj=>?_⟩
 have:=h.2 j hj
 unfold hexD Hx
 split <;> omega
theorem fromHex (s:ByteArray) (v:Value) (w:World) (hs:hexOk s=true) (he:w.cell? ⟨0,0,none⟩=some v) (hE:Eof v):
 Calls Tryz.prog 77 #[.string s] w fun e w'=>∃p r,e=.returned (pz p)/\w.heap.size<=p/\Ib w' p r/\nv r.X r.n=hxv (hexD s) 64/\r.s=false/\r.n<=4/\(∀x j,TQ r.q x j->w.heap.size<=x)/\Fr NoT w w':=by
 refine Qd (vs:= [.string s]) Tryz.func77 rfl rfl ?_
 intro a H
 replace H:Hd a 20 [] [(0,.string s)]:=H
 refine Sq (Rl [_] (wl H (Ez.asn H rfl) rfl (kW (kS (kS (kR [_,_] (kM rfl rfl (kL (fun a H=>Ez.eqS0 H rfl rfl (by rw [(hexOk_d hs).1];decide)) rfl (kP [(0,_),(2,_),(6,_)] rfl (kW ?_))))))))));clear H a;intro a H
 refine Cf (H.o rfl) (Wk0 (thn (Sq (Rl [_,_,_,_,_,_,_,_] (wl H (Ez.al82) rfl ?_)))));clear H a;intro a H
 have hI:=Ib.new w
 have hF:=(Fr.refl NoT w).alloc (.cells #[.bool false,.slice none 0 0] 82)
 have h0l:0 < w.heap.size:=Bl0 w _ he
 obtain ⟨p,hp⟩:∃p,p=w.heap.size:=⟨_,rfl⟩
 rw [<-hp] at H hI
 generalize w.alloc (.cells #[.bool false,.slice none 0 0] 82)=wA at hI hF
 obtain ⟨hsz,hD⟩:=hexOk_d hs
 refine wl H (Ez.mv H rfl) rfl ?_;clear H a;intro a H
 refine wk H cf96 (setString p s v (hexD s) wA hsz hD hI (hF.someCell he (fun f=>f)) hE (by omega)) rfl rfl ?_
 rintro _ w1 ⟨r,rfl,k1,k2,k3,k4,k5,k6⟩
 refine ⟨_,rfl,?_⟩;clear H a;intro a H
 refine wl H (Ez.mv H rfl) rfl (kL (fun a H=>Ez.ext0 H rfl) rfl (kL (fun a H=>Ez.ext1 H rfl) rfl (kA rfl rfl (kA rfl rfl (kP [(0,_),(2,_),(3,_),(4,_)] rfl (kW (kS (kS (kR [_,_] (kM rfl rfl (kL (fun a H=>Ez.not H rfl (rfl)) rfl (kP [(0,_),(2,_),(3,_),(15,_)] rfl (kW ?_)))))))))))));clear H a;intro a H
 refine Cf (H.o rfl) (Wk0 (thn (Sq (Rl [_,_] (wl H (Ez.mv H rfl) rfl (kA rfl rfl (kP [(2,_)] rfl (kW ?_))))))));clear H a;intro a H
 refine Wr ?_
 refine rt1 H rfl rfl ?_
 exact ⟨p,r,rfl,by omega,k1,k2,k3,k4,fun x j hh=>Nat.le_trans hF.size (k5 x j hh),hF.plus k6 (by omega)⟩
end
section
set_option maxRecDepth 8000
theorem rowStep {w:World} {b j:Nat} {cs:Array Value} {t:TypeId} (hb:w.heap[b]?=some (.cells cs t (0,0))) (hj:j < cs.size) (v:Value):
 (∃u,w.cell? ⟨b,j,none⟩=some u)/\w.frozen? ⟨b,j,none⟩=false/\(w.setCell ⟨b,j,none⟩ v).heap[b]?=some (.cells (cs.setIfInBounds j v) t (0,0)):=
 ⟨⟨cs[j],by simp [World.cell?,hb,hj]⟩,by simp [World.frozen?,hb],Js hb v⟩
namespace Ez
section
variable {a:Act} {N:Nat} {ds:List Deferred} {l:Env} {w:World} {d:Option Nat} {ty:TypeId} {pos:String} {after:Array Edge} {g:Option (Nat × Bool)}
theorem al86:(execOp a.eval ⟨d,.alloc 86,ty,pos,after,g⟩).run Tryz.prog w=.ok (.value (.pointer (some ⟨w.heap.size,0,none⟩))) (w.alloc (.cells #[.pointer none,.pointer none,.pointer none,.pointer none,.int .i64 0,.int .i64 0,.int .i64 0] 86)):=by
 simp only [execOp];go_simp
theorem bld86 (H:Hd a N ds l) {x0 x1 x2 x3:Operand} {q0 q1 q2 q3:Option Addr} (h0:ov l x0=some (.pointer q0)) (h1:ov l x1=some (.pointer q1)) (h2:ov l x2=some (.pointer q2)) (h3:ov l x3=some (.pointer q3)):
 (execOp a.eval ⟨d,.build 86 #[(0,x0),(1,x1),(2,x2),(3,x3),(4,.const (.int .i64 256)),(5,.const (.int .i64 1)),(6,.const (.int .i64 32))],ty,pos,after,g⟩).run Tryz.prog w=.ok (.value (.agg #[.pointer q0,.pointer q1,.pointer q2,.pointer q3,.int .i64 256,.int .i64 1,.int .i64 32])) w:=by
 have e0:=H.o h0
 have e1:=H.o h1
 have e2:=H.o h2
 have e3:=H.o h3
 have c4:a.eval (.const (.int .i64 256))=.int .i64 256:=rfl
 have c5:a.eval (.const (.int .i64 1))=.int .i64 1:=rfl
 have c6:a.eval (.const (.int .i64 32))=.int .i64 32:=rfl
 revert e0 e1 e2 e3 c4 c5 c6;generalize a.eval=ρ;intro e0 e1 e2 e3 c4 c5 c6
 simp only [execOp];go_simp
theorem fld86 (H:Hd a N ds l) {x:Operand} {q0 q1 q2 q3:Option Addr} {v4 v5 v6:Value} (h:ov l x=some (.agg #[.pointer q0,.pointer q1,.pointer q2,.pointer q3,v4,v5,v6])):
 (execOp a.eval ⟨d,.field 86 x 1,ty,pos,after,g⟩).run Tryz.prog w=.ok (.value (.pointer q1)) w:=by
 have e:=H.o h
 simp only [execOp,e,Instr.field];go_simp
 simp [asAgg]
theorem st86 (H:Hd a N ds l) {x y:Operand} {b:Nat} {q0 q1 q2 q3:Option Addr} (hb:w.heap[b]?=some (.cells #[.pointer none,.pointer none,.pointer none,.pointer none,.int .i64 0,.int .i64 0,.int .i64 0] 86 (0,0))) (h:ov l x=some (.pointer (some ⟨b,0,none⟩))) (h':ov l y=some (.agg #[.pointer q0,.pointer q1,.pointer q2,.pointer q3,.int .i64 256,.int .i64 1,.int .i64 32])):
 ∃w',(execOp a.eval ⟨none,.store 86 x y,ty,pos,after,g⟩).run Tryz.prog w=.ok .skip w'/\w'.heap[b]?=some (.cells #[.pointer q0,.pointer q1,.pointer q2,.pointer q3,.int .i64 256,.int .i64 1,.int .i64 32] 86 (0,0))/\Fr (Bl b) w w':=by
 have e:=H.o h
 have e':=H.o h'
 obtain ⟨⟨u0,a0⟩,f0,b1⟩:=rowStep (j:=0) hb (by decide) (.pointer q0)
 obtain ⟨⟨u1,a1⟩,f1,b2⟩:=rowStep (j:=1) b1 (by simp) (.pointer q1)
 obtain ⟨⟨u2,a2⟩,f2,b3⟩:=rowStep (j:=2) b2 (by simp) (.pointer q2)
 obtain ⟨⟨u3,a3⟩,f3,b4⟩:=rowStep (j:=3) b3 (by simp) (.pointer q3)
 obtain ⟨⟨u4,a4⟩,f4,b5⟩:=rowStep (j:=4) b4 (by simp) (.int .i64 256)
 obtain ⟨⟨u5,a5⟩,f5,b6⟩:=rowStep (j:=5) b5 (by simp) (.int .i64 1)
 obtain ⟨⟨u6,a6⟩,f6,b7⟩:=rowStep (j:=6) b6 (by simp) (.int .i64 32)
 refine ⟨_,?_,b7,((((((Fr.bl (j:=0) _).trans (Fr.bl (j:=1) _)).trans (Fr.bl (j:=2) _)).trans (Fr.bl (j:=3) _)).trans (Fr.bl (j:=4) _)).trans (Fr.bl (j:=5) _)).trans (Fr.bl (j:=6) _)⟩
 simp only [execOp,e,e']
 go_simp
end
end Ez
theorem rtc86 {fn:Func} {R:Ending->World->Prop} {a:Act} {w:World} {N:Nat} {l:Env} {b:Nat} {q0 q1 q2 q3:Option Addr} (H:Hd a N [] l) (h:fn.results=#[.cell 0 86]) (ht:lk l 0=some (.pointer (some ⟨b,0,none⟩)))
 (hb:w.heap[b]?=some (.cells #[.pointer q0,.pointer q1,.pointer q2,.pointer q3,.int .i64 256,.int .i64 1,.int .i64 32] 86 (0,0))) (hR:R (.returned (.agg #[.pointer q0,.pointer q1,.pointer q2,.pointer q3,.int .i64 256,.int .i64 1,.int .i64 32])) w):bodyPost Tryz.prog fn R .ret a w:=by
 have e:a.tmps.getD 0 undef=.pointer (some ⟨b,0,none⟩):=H.g 0 _ ht
 have c0:w.cell? ⟨b,0,none⟩=some (.pointer q0):=by simp [World.cell?,hb]
 have c1:w.cell? ⟨b,1,none⟩=some (.pointer q1):=by simp [World.cell?,hb]
 have c2:w.cell? ⟨b,2,none⟩=some (.pointer q2):=by simp [World.cell?,hb]
 have c3:w.cell? ⟨b,3,none⟩=some (.pointer q3):=by simp [World.cell?,hb]
 have c4:w.cell? ⟨b,4,none⟩=some (.int .i64 256):=by simp [World.cell?,hb]
 have c5:w.cell? ⟨b,5,none⟩=some (.int .i64 1):=by simp [World.cell?,hb]
 have c6:w.cell? ⟨b,6,none⟩=some (.int .i64 32):=by simp [World.cell?,hb]
 refine ⟨H.df,_,?_,hR⟩
 unfold Go.results
 rw [h]
 generalize a.tmps=T at e
 simp only [Array.getD_eq_getD_getElem?] at e
 go_simp
end
section
set_option maxRecDepth 8000
theorem curveParams (v:Value) (w:World) (he:w.cell? ⟨0,0,none⟩=some v) (hE:Eof v):
 Calls Tryz.prog 61 #[] w fun e w'=>∃q0 p q2 q3 r,e=.returned (.agg #[.pointer q0,pz p,.pointer q2,.pointer q3,.int .i64 256,.int .i64 1,.int .i64 32])/\Ib w' p r/\nv r.X r.n=115792089237316195423570985008687907852837564279074904382605163141518161494337/\r.s=false/\r.n<=4/\w.heap.size<=p/\Fr NoT w w':=by
 refine Qd (vs:= []) Tryz.func61 rfl rfl ?_
 intro a H
 replace H:Hd a 6 [] []:=H
 refine Sq (Rl [_] (wl H (Ez.al86) rfl (kW ?_)));clear H a;intro a H
 have hb:=heap_alloc_new w (.cells #[.pointer none,.pointer none,.pointer none,.pointer none,.int .i64 0,.int .i64 0,.int .i64 0] 86)
 have hF:=(Fr.refl NoT w).alloc (.cells #[.pointer none,.pointer none,.pointer none,.pointer none,.int .i64 0,.int .i64 0,.int .i64 0] 86)
 have hbl:w.heap.size < (w.alloc (.cells #[.pointer none,.pointer none,.pointer none,.pointer none,.int .i64 0,.int .i64 0,.int .i64 0] 86)).heap.size:=by
  rcases Nat.lt_or_ge w.heap.size (w.alloc (.cells #[.pointer none,.pointer none,.pointer none,.pointer none,.int .i64 0,.int .i64 0,.int .i64 0] 86)).heap.size with h | h
  ·exact h
  rw [Array.getElem?_eq_none h] at hb;cases hb
 obtain ⟨b,hbb⟩:∃b,b=w.heap.size:=⟨_,rfl⟩
 rw [<-hbb] at H hb hbl
 generalize w.alloc (.cells #[.pointer none,.pointer none,.pointer none,.pointer none,.int .i64 0,.int .i64 0,.int .i64 0] 86)=wA at hb hF hbl
 have hbl:b < wA.heap.size:=hbl
 refine Sq (Rl [_,_,_,_,_,_] ?_)
 refine wk H cf77 (fromHex _ v wA (by kernel_rfl) (hF.someCell he (fun f=>f)) hE) rfl rfl ?_
 rintro _ w1 ⟨p0,r0',rfl,a1,a2,a3,a4,a5,a6,a7⟩
 refine ⟨_,rfl,?_⟩;clear H a;intro a H
 have hb1:=(a7.block b hbl (fun _ f=>f)).trans hb
 have hF1:=hF.trans a7
 obtain ⟨wB,rfl⟩:∃wB,wB=w1:=⟨w1,rfl⟩
 refine wk H cf77 (fromHex _ v wB (by kernel_rfl) (hF1.someCell he (fun f=>f)) hE) rfl rfl ?_
 rintro _ w1 ⟨p1,r1,rfl,b1,b2,b3,b4,b5,b6,b7⟩
 refine ⟨_,rfl,?_⟩;clear H a;intro a H
 have hb2:=(b7.block b (Nat.lt_of_lt_of_le hbl a7.size) (fun _ f=>f)).trans hb1
 have hF2:=hF1.trans b7
 obtain ⟨wC,rfl⟩:∃wC,wC=w1:=⟨w1,rfl⟩
 refine wk H cf77 (fromHex _ v wC (by kernel_rfl) (hF2.someCell he (fun f=>f)) hE) rfl rfl ?_
 rintro _ w1 ⟨p2,r2,rfl,c1,c2,c3,c4,c5,c6,c7⟩
 refine ⟨_,rfl,?_⟩;clear H a;intro a H
 have hb3:=(c7.block b (Nat.lt_of_lt_of_le hbl (Nat.le_trans a7.size b7.size)) (fun _ f=>f)).trans hb2
 have hF3:=hF2.trans c7
 have hI3:=b2.fr c7 (fun _ f=>f) (fun _ _ _ _ f=>f)
 obtain ⟨wD,rfl⟩:∃wD,wD=w1:=⟨w1,rfl⟩
 refine wk H cf77 (fromHex _ v wD (by kernel_rfl) (hF3.someCell he (fun f=>f)) hE) rfl rfl ?_
 rintro _ w1 ⟨p3,r3,rfl,d1,d2,d3,d4,d5,d6,d7⟩
 refine ⟨_,rfl,?_⟩;clear H a;intro a H
 have hb4:=(d7.block b (Nat.lt_of_lt_of_le hbl (Nat.le_trans (Nat.le_trans a7.size b7.size) c7.size)) (fun _ f=>f)).trans hb3
 have hF4:=hF3.trans d7
 have hI4:=hI3.fr d7 (fun _ f=>f) (fun _ _ _ _ f=>f)
 obtain ⟨wE,rfl⟩:∃wE,wE=w1:=⟨w1,rfl⟩
 refine wl H (Ez.bld86 H rfl rfl rfl rfl) rfl ?_;clear H a;intro a H
 obtain ⟨wG,eS,hb5,hF5⟩:=Ez.st86 (x:=.tmp 0) (y:=.tmp 5) (ty:=0) (pos:=_) (after:=_) (g:=none) H hb4 rfl rfl
 refine wls H (eS) ?_;clear eS H;intro H
 refine kP [(0,_)] rfl (kW ?_) a H;clear H a;intro a H
 refine Wr ?_
 refine rtc86 H rfl rfl hb5 ?_
 have hpb:p1≠b:=by have:=Nat.le_trans a7.size b1;omega
 refine ⟨_,p1,_,_,r1,rfl,hI4.fr hF5 (fun o e=>hpb e) (fun k j o ht e=>?_),by rw [b3];kernel_rfl,b4,b5,by have:=Nat.le_trans hF1.size b1;omega,hF4.plus hF5 (by omega)⟩
 have h1:=b6 k j ht
 have e:k=b:=e
 have:=a7.size
 omega
end
theorem evPutNe {a:Act} {d k:Nat} {v:Value} (h:k≠d):(a.put (some d) v).eval (.tmp k)=a.eval (.tmp k):=by
 simp [Act.put,Act.eval,Array.getD_eq_getD_getElem?,Ne.symm h]
theorem evPutEq {a:Act} {d:Nat} {v:Value} (h:d < a.tmps.size):(a.put (some d) v).eval (.tmp d)=v:=by
 simp [Act.put,Act.eval,Array.getD_eq_getD_getElem?,h]
theorem szPut {a:Act} {d:Nat} {v:Value}:(a.put (some d) v).tmps.size=a.tmps.size:=by simp [Act.put]
theorem stVal {P:Program} {ops:Array Oper} {w:World} {Q:Act->Prop} {rest:List Oper} {a:Act} {o:Oper} {v:Value} (hg:o.guard=none)
 (hr:(execOp a.eval o).run P w=.ok (.value v) w) (h:wpStill P ops w Q rest (a.put o.dst v)):wpStill P ops w Q (o::rest) a:=by
 refine wpStill_step (fun K hK=>?_)
 have hw:Region.wanted o (yielded ops a.tmps)=true:=by simp [Region.wanted,hg]
 rw [if_pos hw]
 unfold Oper.still
 rw [hr,Oper.stillUpon_value]
 exact hK _ h
section
variable {ρ:Operand->Value} {w:World} {d:Option Nat} {ty:TypeId} {pos:String} {after:Array Edge} {g:Option (Nat × Bool)}
theorem Qg {x:Operand} {v:Value} (h:ρ x=v):(execOp ρ ⟨d,.move x,ty,pos,after,g⟩).run Tryz.prog w=.ok (.value v) w:=by subst h;rfl
theorem J4 {x:Operand} {A:Addr} (h:ρ x=.pointer (some A)):(execOp ρ ⟨d,.nilCheck x,ty,pos,after,g⟩).run Tryz.prog w=.ok (.value (.pointer (some A))) w:=by
 simp only [execOp,h];go_simp
theorem Q7 {x:Operand} {b o:Nat} (h:ρ x=.pointer (some ⟨b,o,none⟩)):(execOp ρ ⟨d,.fieldAddr 44 x 0,ty,pos,after,g⟩).run Tryz.prog w=.ok (.value (.pointer (some ⟨b,o,none⟩))) w:=by
 simp only [execOp,h];go_simp
theorem exField75 {x:Operand} {b o:Nat} (h:ρ x=.pointer (some ⟨b,o,none⟩)):(execOp ρ ⟨d,.fieldAddr 75 x 0,ty,pos,after,g⟩).run Tryz.prog w=.ok (.value (.pointer (some ⟨b,o,none⟩))) w:=by
 simp only [execOp,h];go_simp
theorem Q6 {x:Operand} {b o i:Nat} (h:ρ x=.pointer (some ⟨b,o,none⟩)) (hc:ρ (.const (.int .i64 i))=.int .i64 i) (hi:i < 8):(execOp ρ ⟨d,.indexAddr 42 x (.const (.int .i64 i)),ty,pos,after,g⟩).run Tryz.prog w=.ok (.value (.pointer (some ⟨b,o+i,none⟩))) w:=by
 simp only [execOp,h,hc]
 rcases i with _ | _ | _ | _ | _ | _ | _ | _ | i
 all_goals first | (go_simp;done) | omega
theorem Kh {x:Operand} {A:Addr} {n:Int} (h:ρ x=.pointer (some A)) (hc:w.cell? A=some (.int .u32 n)):(execOp ρ ⟨d,.load 33 x,ty,pos,after,g⟩).run Tryz.prog w=.ok (.value (.int .u32 n)) w:=by
 simp only [execOp,h];go_simp
theorem exConv {x:Operand} {n:Int} (h:ρ x=.int .u32 n) (hn:U32 n):(execOp ρ ⟨d,.convert 33 28 x,ty,pos,after,g⟩).run Tryz.prog w=.ok (.value (.int .u64 n)) w:=by
 obtain ⟨h0,h1⟩:=hn
 have e:IntKind.u64.wrap n=n:=by rw [Jt];omega
 simp only [execOp,h];go_simp
theorem exMul {x y:Operand} {n m:Int} (h:ρ x=.int .u64 n) (h':ρ y=.int .u64 m) (h0:0<=n*m) (h1:n*m < 18446744073709551616):(execOp ρ ⟨d,.binOp .mul 28 x y 28,ty,pos,after,g⟩).run Tryz.prog w=.ok (.value (.int .u64 (n*m))) w:=by
 have e:IntKind.u64.wrap (n*m)=n*m:=by rw [Jt];exact Int.emod_eq_of_lt h0 h1
 simp only [execOp,h,h'];go_simp
theorem exCall1 {f:FuncId} {x:Operand} {v:Value} {ts:Array TypeId} (h:ρ x=v) (hf:ρ (.func f)=.func (.func f) #[] #[]) (hF:(callFunc f #[v]).run Tryz.prog w=.ok (.enter f #[v]) w):
 (execOp ρ ⟨d,.call { callee:=.value (.func f),args:=#[x],argTypes:=ts},ty,pos,after,g⟩).run Tryz.prog w=.ok (.enter f #[v]) w:=by
 simp only [execOp];go_simp
theorem exCall2 {f:FuncId} {x y:Operand} {v u:Value} {ts:Array TypeId} (h:ρ x=v) (h':ρ y=u) (hf:ρ (.func f)=.func (.func f) #[] #[]) (hF:(callFunc f #[v,u]).run Tryz.prog w=.ok (.enter f #[v,u]) w):
 (execOp ρ ⟨d,.call { callee:=.value (.func f),args:=#[x,y],argTypes:=ts},ty,pos,after,g⟩).run Tryz.prog w=.ok (.enter f #[v,u]) w:=by
 simp only [execOp];go_simp
end
structure Puts (a a':Act) (d:Nat) (v:Value):Prop where
 z:a'.tmps.size=a.tmps.size
 f:a'.defers=a.defers
 v:a'.eval (.tmp d)=v
 n:∀k,k≠d->a'.eval (.tmp k)=a.eval (.tmp k)
theorem puts {a:Act} {d:Nat} {v:Value} (h:d < a.tmps.size):Puts a (a.put (some d) v) d v:=⟨szPut,rfl,evPutEq h,fun _ hk=>evPutNe hk⟩
def PL (a a':Act) (ds:List Nat):Prop:=∀k,k ∉ ds->a'.eval (.tmp k)=a.eval (.tmp k)
theorem Puts.m {a a':Act} {d k:Nat} {v u:Value} (q:Puts a a' d v) (e:a.eval (.tmp k)=u) (h:Nat.beq k d=false):a'.eval (.tmp k)=u:=(q.n k (Nat.ne_of_beq_eq_false h)).trans e
theorem PL.nil (a:Act):PL a a []:=fun _ _=>rfl
theorem Puts.l {a a' a'':Act} {d:Nat} {v:Value} {ds:List Nat} (q:Puts a' a'' d v) (p:PL a a' ds):PL a a'' (d::ds):=fun k h=>(q.n k (fun e=>h (e▸List.mem_cons_self))).trans (p k (fun e=>h (List.mem_cons_of_mem _ e)))
theorem Qy {P:Program} {ops:Array Oper} {w:World} {Q:Act->Prop} {rest:List Oper} {a:Act} {op:Op} {d:Nat} {ty:TypeId} {pos:String} {after:Array Edge} {v:Value}
 (hr:(execOp a.eval ⟨some d,op,ty,pos,after,none⟩).run P w=.ok (.value v) w) (hd:d < a.tmps.size) (h:∀a',Puts a a' d v->wpStill P ops w Q rest a'):wpStill P ops w Q (⟨some d,op,ty,pos,after,none⟩::rest) a:=
 stVal rfl hr (h _ (puts hd))
section
variable {P:Program} {ops:Array Oper} {Q:Exit->Act->World->Prop} {a:Act} {w:World} {rest:List Oper} {op:Op} {d:Nat} {ty:TypeId} {pos:String} {after:Array Edge}
theorem Qu {v:Value} {w':World} (hr:(execOp a.eval ⟨some d,op,ty,pos,after,none⟩).run P w=.ok (.value v) w') (hd:d < a.tmps.size) (h:∀a',Puts a a' d v->wpList P ops Q rest a' w'):wpList P ops Q (⟨some d,op,ty,pos,after,none⟩::rest) a w:=
 wpList_plain rfl fun K hK=>by unfold Oper.wp;rw [hr];exact hK _ _ (h _ (puts hd))
theorem J2 {w':World} (hr:(execOp a.eval ⟨none,op,ty,pos,after,none⟩).run P w=.ok .skip w') (h:wpList P ops Q rest a w'):wpList P ops Q (⟨none,op,ty,pos,after,none⟩::rest) a w:=
 wpList_plain rfl fun K hK=>by unfold Oper.wp;rw [hr];exact hK _ _ h
theorem wlCall {f:FuncId} {args:Array Value} {R:Ending->World->Prop} (hr:(execOp a.eval ⟨some d,op,ty,pos,after,none⟩).run P w=.ok (.enter f args) w)
 (hc:Calls P f args w R) (hd:d < a.tmps.size) (h:∀e w',R e w'->∃v,e=.returned v/\∀a',Puts a a' d v->wpList P ops Q rest a' w'):wpList P ops Q (⟨some d,op,ty,pos,after,none⟩::rest) a w:=
 wpList_plain rfl fun K hK=>by
  unfold Oper.wp;rw [hr]
  exact hc.mono fun e w' hR=>by obtain ⟨v,rfl,h'⟩:=h e w' hR;exact hK _ _ (h' _ (puts hd))
end
section
variable {ρ:Operand->Value} {w:World} {d:Option Nat} {ty:TypeId} {pos:String} {after:Array Edge} {g:Option (Nat × Bool)}
theorem Ji {x:Operand} {v:Value} (h:ρ x=v):(execOp ρ ⟨d,.assign x,ty,pos,after,g⟩).run Tryz.prog w=.ok (.value v) w:=by subst h;rfl
theorem exIndex73 {x:Operand} {b o i:Nat} (h:ρ x=.pointer (some ⟨b,o,none⟩)) (hc:ρ (.const (.int .i64 i))=.int .i64 i) (hi:i < 3):(execOp ρ ⟨d,.indexAddr 73 x (.const (.int .i64 i)),ty,pos,after,g⟩).run Tryz.prog w=.ok (.value (.pointer (some ⟨b,o+i,none⟩))) w:=by
 simp only [execOp,h,hc]
 rcases i with _ | _ | _ | i
 all_goals first | (go_simp;done) | omega
theorem exMulC {x:Operand} {n K:Int} (h:ρ x=.int .u64 n) (hc:ρ (.const (.int .u64 K))=.int .u64 K) (h0:0<=n*K) (h1:n*K < 18446744073709551616):(execOp ρ ⟨d,.binOp .mul 28 x (.const (.int .u64 K)) 28,ty,pos,after,g⟩).run Tryz.prog w=.ok (.value (.int .u64 (n*K))) w:=
 exMul h hc h0 h1
theorem Jk {x:Operand} {n:Int} (h:ρ x=.int .u64 n) (hn:U32 n):(execOp ρ ⟨d,.convert 28 33 x,ty,pos,after,g⟩).run Tryz.prog w=.ok (.value (.int .u32 n)) w:=by
 obtain ⟨h0,h1⟩:=hn
 have e:IntKind.u32.wrap n=n:=by rw [J8];omega
 simp only [execOp,h];go_simp
theorem Jv {x y:Operand} {A:Addr} {n m:Int} (h:ρ x=.pointer (some A)) (h':ρ y=.int .u32 n) (hc:w.cell? A=some (.int .u32 m)) (hf:w.frozen? A=false):(execOp ρ ⟨d,.store 33 x y,ty,pos,after,g⟩).run Tryz.prog w=.ok .skip (w.setCell A (.int .u32 n)):=by
 simp only [execOp,h,h'];go_simp
end
structure Past (a a':Act) (s:Nat):Prop where
 z:a'.tmps.size=a.tmps.size
 f:a'.defers=a.defers
 n:∀k,k < s->a'.eval (.tmp k)=a.eval (.tmp k)
theorem Past.refl (a:Act) (s:Nat):Past a a s:=⟨rfl,rfl,fun _ _=>rfl⟩
theorem Past.put {a a' a'':Act} {s d:Nat} {v:Value} (h:Past a a' s) (k:Puts a' a'' d v) (hd:s<=d):Past a a'' s:=⟨k.z.trans h.z,k.f.trans h.f,fun i hi=>(k.n i (by omega)).trans (h.n i hi)⟩
def upd (V:Nat->Int) (d:Nat) (x:Int):Nat->Int:=fun k=>if k=d then x else V k
structure AM (lo hi gs g:Nat) (a0:Act) (w0:World) (V:Nat->Int) (A:Int) (n:Nat) (a:Act) (w:World):Prop where
 past:Past a0 a lo
 gp:a.eval (.tmp gs)=.pointer (some ⟨g,0,none⟩)
 v:∀k,lo<=k->k < hi->a.eval (.tmp k)=.int .u64 (V k)/\U32 (V k)
 acc:Ac w g 0 A
 fz:Af3 w g 0
 b0:0<=A
 b1:A<=n*18446744073709551616
 fr:Fr (Rng g 0 3) w0 w
theorem AM.next {lo hi gs g:Nat} {a0:Act} {w0:World} {V:Nat->Int} {A A':Int} {n n' s:Nat} {a a':Act} {w w':World} (h:AM lo hi gs g a0 w0 V A n a w) (q:Past a a' s)
 (hs:lo<=s/\hi<=s/\gs < s) (hA:Ac w' g 0 A') (hF:Fr (Rng g 0 3) w w') (h0:0<=A') (h1:A'<=n'*18446744073709551616):AM lo hi gs g a0 w0 V A' n' a' w':=
 ⟨⟨q.z.trans h.past.z,q.f.trans h.past.f,fun k hk=>(q.n k (by omega)).trans (h.past.n k hk)⟩,(q.n gs hs.2.2).trans h.gp,fun k h1 h2=>⟨(q.n k (by omega)).trans (h.v k h1 h2).1,(h.v k h1 h2).2⟩,hA,Af3.fr hF h.acc.lt h.fz,h0,h1,h.fr.trans hF⟩
theorem U32.mul {x y:Int} (ux:U32 x) (uy:U32 y):0<=x*y/\x*y<=18446744065119617025:=by
 refine ⟨Mn ux.1 uy.1,?_⟩
 have:=Int.mul_le_mul (a:=x) (c:=4294967295) (b:=y) (d:=4294967295) (by have:=ux.2;omega) (by have:=uy.2;omega) uy.1 (by decide)
 omega
theorem accLim {A x:Int} {n:Nat} (hn:n < 1000) (hA:A<=n*18446744073709551616) (hx:x<=18446744065119617025):A+x < 79228162514264337593543950336/\A+x<=(n+1:Nat)*18446744073709551616:=by omega
def mulOps (s i j:Nat) (pos:String):List Oper:=
 [⟨some s,.move (.tmp 1),51,pos,#[],none⟩,
  ⟨some (s+1),.nilCheck (.tmp s),0,pos,#[⟨0,.data⟩],none⟩,
  ⟨some (s+2),.fieldAddr 44 (.tmp (s+1)) 0,0,pos,#[⟨1,.data⟩],none⟩,
  ⟨some (s+3),.indexAddr 42 (.tmp (s+2)) (.const (.int .i64 i)),0,pos,#[⟨2,.data⟩],none⟩,
  ⟨some (s+4),.load 33 (.tmp (s+3)),33,pos,#[⟨3,.data⟩],none⟩,
  ⟨some (s+5),.convert 33 28 (.tmp (s+4)),28,pos,#[⟨4,.data⟩],none⟩,
  ⟨some (s+6),.move (.tmp 2),51,pos,#[],none⟩,
  ⟨some (s+7),.nilCheck (.tmp (s+6)),0,pos,#[⟨6,.data⟩],none⟩,
  ⟨some (s+8),.fieldAddr 44 (.tmp (s+7)) 0,0,pos,#[⟨7,.data⟩],none⟩,
  ⟨some (s+9),.indexAddr 42 (.tmp (s+8)) (.const (.int .i64 j)),0,pos,#[⟨8,.data⟩],none⟩,
  ⟨some (s+10),.load 33 (.tmp (s+9)),33,pos,#[⟨9,.data⟩],none⟩,
  ⟨some (s+11),.convert 33 28 (.tmp (s+10)),28,pos,#[⟨10,.data⟩],none⟩,
  ⟨some (s+12),.binOp .mul 28 (.tmp (s+5)) (.tmp (s+11)) 28,28,pos,#[⟨5,.data⟩,⟨11,.data⟩],none⟩,
  ⟨some (s+13),.call { callee:=.value (.func 55),args:=#[.tmp 7,.tmp (s+12)],argTypes:=#[75,28]},0,pos,#[⟨12,.data⟩],none⟩]
set_option maxRecDepth 10000 in
theorem mul_region {id s i j:Nat} {pos:String} {Q:Exit->Act->World->Prop} {a:Act} {w:World} {b o c p g:Nat} {x y A:Int}
 (hs:24<=s) (hz:s+14<=a.tmps.size) (hi:i < 8) (hj:j < 8) (e1:a.eval (.tmp 1)=.pointer (some ⟨b,o,none⟩)) (e2:a.eval (.tmp 2)=.pointer (some ⟨c,p,none⟩))
 (e7:a.eval (.tmp 7)=.pointer (some ⟨g,0,none⟩)) (hx:w.cell? ⟨b,o+i,none⟩=some (.int .u32 x)) (hy:w.cell? ⟨c,p+j,none⟩=some (.int .u32 y)) (ux:U32 x) (uy:U32 y)
 (hA:Ac w g 0 A) (hf:Af3 w g 0) (hl:A+x*y < 79228162514264337593543950336) (hB:Region.lexTailB .any (mulOps s i j pos).toArray 13=true)
 (h:∀a' w',Past a a' s->Ac w' g 0 (A+x*y)->Fr (Rng g 0 3) w w'->Q .normal a' w'):
 Code.wp Tryz.prog (.region id (mulOps s i j pos).toArray true) Q a w:=by
 obtain ⟨m0,m1⟩:=U32.mul ux uy
 have hl':=Lib.hid hl;clear hl
 refine wp_region_still_tail (l:=mulOps s i j pos) 13 (by kernel_rfl) hB ?_
 change wpStill _ _ _ _ [_,_,_,_,_,_,_,_,_,_,_,_,_] _
 have q:=Past.refl a s
 refine Qy (Qg e1) (by have:=q.z;omega) ?_
 intro a0 p0
 replace q:=q.put p0 (by omega)
 refine Qy (J4 p0.v) (by have:=q.z;omega) ?_
 intro a1 p1
 replace q:=q.put p1 (by omega)
 refine Qy (Q7 p1.v) (by have:=q.z;omega) ?_
 intro a2 p2
 replace q:=q.put p2 (by omega)
 refine Qy (Q6 p2.v rfl hi) (by have:=q.z;omega) ?_
 intro a3 p3
 replace q:=q.put p3 (by omega)
 refine Qy (Kh p3.v hx) (by have:=q.z;omega) ?_
 intro a4 p4
 replace q:=q.put p4 (by omega)
 refine Qy (exConv p4.v ux) (by have:=q.z;omega) ?_
 intro a5 p5
 replace q:=q.put p5 (by omega)
 have L2:=q.n 2 (by omega)
 refine Qy (Qg (L2.trans e2)) (by have:=q.z;omega) ?_
 intro a6 p6
 replace q:=q.put p6 (by omega)
 refine Qy (J4 p6.v) (by have:=q.z;omega) ?_
 intro a7 p7
 replace q:=q.put p7 (by omega)
 refine Qy (Q7 p7.v) (by have:=q.z;omega) ?_
 intro a8 p8
 replace q:=q.put p8 (by omega)
 refine Qy (Q6 p8.v rfl hj) (by have:=q.z;omega) ?_
 intro a9 p9
 replace q:=q.put p9 (by omega)
 refine Qy (Kh p9.v hy) (by have:=q.z;omega) ?_
 intro a10 p10
 replace q:=q.put p10 (by omega)
 refine Qy (exConv p10.v uy) (by have:=q.z;omega) ?_
 intro a11 p11
 replace q:=q.put p11 (by omega)
 have L5:=(p11.n _ (by omega)).trans ((p10.n _ (by omega)).trans ((p9.n _ (by omega)).trans ((p8.n _ (by omega)).trans ((p7.n _ (by omega)).trans ((p6.n _ (by omega)).trans (p5.v))))))
 refine Qy (exMul L5 p11.v m0 (by omega)) (by have:=q.z;omega) ?_
 intro a12 p12
 replace q:=q.put p12 (by omega)
 refine wpStill_nil ?_
 change wpList _ _ _ [_] _ _
 refine wlCall (exCall2 ((q.n 7 (by omega)).trans e7) p12.v rfl (by go_simp)) (accAdd g 0 A (x*y) _ hA hf m0 m1 hl'.out) (by have:=q.z;omega) ?_
 rintro e w' ⟨rfl,hA',hF⟩
 refine ⟨_,rfl,fun a' pa=>Wn (h _ _ (q.put pa (by omega)) hA' ?_)⟩
 exact (Fr.refl _ _).drew.trans hF
section
variable {lo hi gs g:Nat} {a0:Act} {w0:World} {V:Nat->Int} {A:Int} {n s id src:Nat} {a:Act} {w:World} {Q:Exit->Act->World->Prop} {pos:String}
def addOps (s gs src:Nat) (pos:String):List Oper:=
 [⟨some s,.move (.tmp src),28,pos,#[],none⟩,
  ⟨some (s+1),.call { callee:=.value (.func 55),args:=#[.tmp gs,.tmp s],argTypes:=#[75,28]},0,pos,#[⟨0,.data⟩],none⟩]
theorem Qp (h:AM lo hi gs g a0 w0 V A n a w) (hs:lo<=s/\hi<=s/\gs < s) (hz:s+2<=a.tmps.size) (hk:lo<=src/\src < hi) (hn:n < 1000)
 (k:∀a' w',AM lo hi gs g a0 w0 V (A+V src) (n+1) a' w'->a'.tmps.size=a.tmps.size->Q .normal a' w'):Code.wp Tryz.prog (.region id (addOps s gs src pos).toArray false) Q a w:=by
 obtain ⟨e,u⟩:=h.v src hk.1 hk.2
 obtain ⟨l1,l2⟩:=accLim (x:=V src) hn h.b1 (by have:=u.2;omega)
 have q:=Past.refl a s
 refine wp_region_lit (l:=addOps s gs src pos) ?_
 change wpList _ _ _ [_,_] _ _
 refine Qu (Qg e) (by omega) ?_
 intro a1 p1
 replace q:=q.put p1 (by omega)
 refine wlCall (exCall2 ((q.n gs (by omega)).trans h.gp) p1.v rfl (by go_simp)) (accAdd g 0 A (V src) _ h.acc h.fz u.1 (by have:=u.2;omega) l1) (by have:=q.z;omega) ?_
 rintro e' w' ⟨rfl,hA',hF⟩
 refine ⟨_,rfl,fun a' pa=>Wn (k _ _ (h.next (q.put pa (by omega)) hs hA' hF (by have:=h.b0;have:=u.1;omega) l2) (q.put pa (by omega)).z)⟩
def mulcOps (s gs src:Nat) (K:Int) (pos:String):List Oper:=
 [⟨some s,.move (.tmp src),28,pos,#[],none⟩,
  ⟨some (s+1),.binOp .mul 28 (.tmp s) (.const (.int .u64 K)) 28,28,pos,#[⟨0,.data⟩],none⟩,
  ⟨some (s+2),.call { callee:=.value (.func 55),args:=#[.tmp gs,.tmp (s+1)],argTypes:=#[75,28]},0,pos,#[⟨1,.data⟩],none⟩]
theorem Qe {K:Int} (h:AM lo hi gs g a0 w0 V A n a w) (hs:lo<=s/\hi<=s/\gs < s) (hz:s+3<=a.tmps.size) (hk:lo<=src/\src < hi) (hn:n < 1000) (uK:U32 K)
 (k:∀a' w',AM lo hi gs g a0 w0 V (A+V src*K) (n+1) a' w'->a'.tmps.size=a.tmps.size->Q .normal a' w'):Code.wp Tryz.prog (.region id (mulcOps s gs src K pos).toArray false) Q a w:=by
 obtain ⟨e,u⟩:=h.v src hk.1 hk.2
 obtain ⟨m0,m1⟩:=U32.mul u uK
 obtain ⟨l1,l2⟩:=accLim (x:=V src*K) hn h.b1 m1
 have q:=Past.refl a s
 refine wp_region_lit (l:=mulcOps s gs src K pos) ?_
 change wpList _ _ _ [_,_,_] _ _
 refine Qu (Qg e) (by omega) ?_
 intro a1 p1
 replace q:=q.put p1 (by omega)
 refine Qu (exMulC p1.v rfl m0 (by omega)) (by have:=q.z;omega) ?_
 intro a2 p2
 replace q:=q.put p2 (by omega)
 refine wlCall (exCall2 ((q.n gs (by omega)).trans h.gp) p2.v rfl (by go_simp)) (accAdd g 0 A (V src*K) _ h.acc h.fz m0 m1 l1) (by have:=q.z;omega) ?_
 rintro e' w' ⟨rfl,hA',hF⟩
 refine ⟨_,rfl,fun a' pa=>Wn (k _ _ (h.next (q.put pa (by omega)) hs hA' hF (by have:=h.b0;omega) l2) (q.put pa (by omega)).z)⟩
def rshOps (s gs:Nat) (pos:String):List Oper:=
 [⟨some s,.call { callee:=.value (.func 56),args:=#[.tmp gs],argTypes:=#[75]},0,pos,#[],none⟩]
theorem Qj (h:AM lo hi gs g a0 w0 V A n a w) (hs:lo<=s/\hi<=s/\gs < s) (hz:s+1<=a.tmps.size) (hn:n < 1000)
 (k:∀a' w',AM lo hi gs g a0 w0 V (A / 4294967296) 1 a' w'->a'.tmps.size=a.tmps.size->Q .normal a' w'):Code.wp Tryz.prog (.region id (rshOps s gs pos).toArray false) Q a w:=by
 have q:=Past.refl a s
 refine wp_region_lit (l:=rshOps s gs pos) ?_
 change wpList _ _ _ [_] _ _
 refine wlCall (exCall1 h.gp rfl (by go_simp)) (accRsh g 0 A _ h.acc h.fz) (by have:=q.z;omega) ?_
 rintro e' w' ⟨rfl,hA',hF⟩
 refine ⟨_,rfl,fun a' pa=>Wn (k _ _ (h.next (q.put pa (by omega)) hs hA' hF (by have:=h.b0;omega) (by have:=h.b0;have:=h.b1;omega)) (q.put pa (by omega)).z)⟩
def getOps (s gs d:Nat) (pos:String):List Oper:=
 [⟨some s,.fieldAddr 75 (.tmp gs) 0,0,pos,#[],none⟩,
  ⟨some (s+1),.indexAddr 73 (.tmp s) (.const (.int .i64 (0:Nat))),0,pos,#[⟨0,.data⟩],none⟩,
  ⟨some (s+2),.load 33 (.tmp (s+1)),33,pos,#[⟨1,.data⟩],none⟩,
  ⟨some (s+3),.convert 33 28 (.tmp (s+2)),28,pos,#[⟨2,.data⟩],none⟩,
  ⟨some d,.assign (.tmp (s+3)),28,pos,#[⟨3,.data⟩,⟨0,.phase⟩,⟨1,.phase⟩,⟨2,.phase⟩,⟨3,.phase⟩],none⟩]
theorem Qi {d top:Nat} (h:AM lo hi gs g a0 w0 V A n a w) (hs:lo<=s/\top<=s/\gs < s) (hz:s+4<=a.tmps.size) (hd:lo<=d/\d < top/\d≠gs) (hh:hi<=top) (ht:∀k,lo<=k->k < top->k < hi\/k=d)
 (k:∀a' w',AM lo top gs g a0 w0 (upd V d (A % 4294967296)) A n a' w'->a'.tmps.size=a.tmps.size->Q .normal a' w'):Code.wp Tryz.prog (.region id (getOps s gs d pos).toArray false) Q a w:=by
 obtain ⟨n0,n1,n2,hA,HX⟩:=h.acc
 have hu:=hA.2.2.2.1
 have e0:A % 4294967296=n0:=by have:=hu.1;have:=hu.2;omega
 have q:=Past.refl a s
 refine wp_region_lit (l:=getOps s gs d pos) ?_
 change wpList _ _ _ [_,_,_,_,_] _ _
 refine Qu (exField75 h.gp) (by omega) ?_
 intro a1 p1
 replace q:=q.put p1 (by omega)
 refine Qu (exIndex73 p1.v rfl (by decide)) (by have:=q.z;omega) ?_
 intro a2 p2
 replace q:=q.put p2 (by omega)
 refine Qu (Kh p2.v hA.1) (by have:=q.z;omega) ?_
 intro a3 p3
 replace q:=q.put p3 (by omega)
 refine Qu (exConv p3.v hu) (by have:=q.z;omega) ?_
 intro a4 p4
 replace q:=q.put p4 (by omega)
 refine Qu (Ji p4.v) (by have:=q.z;omega) ?_
 intro a5 p5
 refine Wn (k _ _ ⟨⟨p5.z.trans (q.z.trans h.past.z),p5.f.trans (q.f.trans h.past.f),fun k hk=>(p5.n k (by omega)).trans ((q.n k (by omega)).trans (h.past.n k hk))⟩,(p5.n gs (by omega)).trans ((q.n gs (by omega)).trans h.gp),fun k h1 h2=>?_,h.acc,h.fz,h.b0,h.b1,h.fr⟩ (p5.z.trans q.z))
 unfold upd
 split
 ·subst k;rw [e0];exact ⟨p5.v,hu⟩
 rename_i hne
 have hk:k < hi:=(ht k h1 h2).resolve_right hne
 exact ⟨(p5.n k hne).trans ((q.n k (by omega)).trans (h.v k h1 hk).1),(h.v k h1 hk).2⟩
end
section
variable {ρ:Operand->Value} {w:World} {d:Option Nat} {ty:TypeId} {pos:String} {after:Array Edge} {g:Option (Nat × Bool)}
theorem exAlloc75:(execOp ρ ⟨d,.alloc 75,ty,pos,after,g⟩).run Tryz.prog w=.ok (.value (.pointer (some ⟨w.heap.size,0,none⟩))) (w.alloc (.cells #[.int .u32 0,.int .u32 0,.int .u32 0] 75)):=by
 simp only [execOp];go_simp
end
theorem enterA {f:FuncId} {fn:Func} {c:Code} {args:Array Value} {w:World} {R:Ending->World->Prop} (hf:Tryz.prog.funcs[f]?=some fn) (hb:fn.body=some c)
 (h:∀a:Act,a.tmps.size=args.size+(fn.ntmps - args.size)->a.defers= []->(∀k v,args[k]?=some v->a.eval (.tmp k)=v)->c.wp Tryz.prog (bodyPost Tryz.prog fn R) a w):Calls Tryz.prog f args w R:=by
 refine calls_of_wp hf hb (h _ (by simp) rfl fun k v hk=>?_)
 simp only [Act.eval]
 have hlt:k < args.size:=by
  rcases Nat.lt_or_ge k args.size with h1 | h1
  ·exact h1
  rw [Array.getElem?_eq_none h1] at hk;cases hk
 rw [Array.getD_eq_getD_getElem?,Array.getElem?_append_left hlt,hk];rfl
theorem retA {fn:Func} {R:Ending->World->Prop} {a:Act} {w:World} {t:Tmp} {v:Value} (h:fn.results=#[.tmp t]) (hd:a.defers= []) (hv:a.eval (.tmp t)=v) (hR:R (.returned v) w):
 Code.ret.wp Tryz.prog (bodyPost Tryz.prog fn R) a w:=by
 refine Wr ⟨hd,v,?_,hR⟩
 subst hv
 exact results_tmp h _ _ _
theorem endA {fn:Func} {R:Ending->World->Prop} {a:Act} {w:World} (h:fn.results=#[]) (hd:a.defers= []) (hR:R (.returned (.tuple #[])) w):
 bodyPost Tryz.prog fn R .normal a w:=⟨hd,.tuple #[],results_none h _ _ _,hR⟩
theorem ltz {a:Act} {n d:Nat} (z:a.tmps.size=n) (h:Nat.blt d n=true):d < a.tmps.size:=by rw [z];simpa using h
theorem Qa {K:Act->World->Prop} {Q:Exit->Act->World->Prop} {a:Act} {w:World} (h:K a w):Exit.then K Q .normal a w:=h
theorem Ke {P:Program} {id:Nat} {o:Oper} {Q:Exit->Act->World->Prop} {a:Act} {w:World} (h:wpList P #[o] Q [o] a w):(Code.region id #[o] false).wp P Q a w:=wp_region_lit (l:= [o]) h
theorem F8.of {w:World} {b o:Nat} (h:∀j,w.frozen? ⟨b,o+j,none⟩=false):F8 w b o:=⟨h 0,h 1,h 2,h 3,h 4,h 5,h 6,h 7⟩
theorem allocAcc (w:World):Ac (w.alloc (.cells #[.int .u32 0,.int .u32 0,.int .u32 0] 75)) w.heap.size 0 0/\Af3 (w.alloc (.cells #[.int .u32 0,.int .u32 0,.int .u32 0] 75)) w.heap.size 0:=by
 refine ⟨⟨0,0,0,⟨?_,?_,?_,⟨by decide,by decide⟩,⟨by decide,by decide⟩,⟨by decide,by decide⟩⟩,by decide⟩,?_,?_,?_⟩
 all_goals first | (simp [World.cell?_alloc_new];done) | (simp [World.frozen?,World.alloc];done)
theorem wP {P:Program} {ops:Array Oper} {Q:Exit->Act->World->Prop} {rest:List Oper} {a:Act} {w:World} {op:Op} {d N:Nat} {ty:TypeId} {pos:String} {after:Array Edge} {ds:List Deferred} {v:Value} {w':World} (hr:(execOp a.eval ⟨some d,op,ty,pos,after,none⟩).run P w=.ok (.value v) w') (z:a.tmps.size=N) (df:a.defers=ds) (hd:Nat.blt d N=true) (h:∀a',Puts a a' d v->a'.tmps.size=N->a'.defers=ds->wpList P ops Q rest a' w'):wpList P ops Q (⟨some d,op,ty,pos,after,none⟩::rest) a w:=Qu hr (ltz z hd) fun a' q=>h a' q (q.z.trans z) (q.f.trans df)
def W8 (w:World) (b o:Nat) (X:Nat->Int):Prop:=∀i,i < 8->w.cell? ⟨b,o+i,none⟩=some (.int .u32 (X i))/\U32 (X i)
theorem Ql {hi g s id i j n b o c p:Nat} {a0 a:Act} {w0 w:World} {V X Y:Nat->Int} {A:Int} {Q:Exit->Act->World->Prop} {pos:String}
 (h:AM 8 hi 7 g a0 w0 V A n a w) (e1:a0.eval (.tmp 1)=.pointer (some ⟨b,o,none⟩)) (e2:a0.eval (.tmp 2)=.pointer (some ⟨c,p,none⟩)) (hx:W8 w0 b o X) (hy:W8 w0 c p Y) (hb:b≠g) (hc:c≠g)
 (hij:i < 8/\j < 8) (hs:24<=s/\hi<=24) (hz:s+14<=a.tmps.size) (hn:n < 1000) (hB:Region.lexTailB .any (mulOps s i j pos).toArray 13=true)
 (k:∀a' w',AM 8 hi 7 g a0 w0 V (A+X i*Y j) (n+1) a' w'->a'.tmps.size=a.tmps.size->Q .normal a' w'):Code.wp Tryz.prog (.region id (mulOps s i j pos).toArray true) Q a w:=by
 have hx':=hx i hij.1
 have hy':=hy j hij.2
 obtain ⟨m0,m1⟩:=U32.mul hx'.2 hy'.2
 obtain ⟨l1,l2⟩:=accLim (x:=X i*Y j) hn h.b1 m1
 refine mul_region hs.1 hz hij.1 hij.2 ((h.past.n 1 (by decide)).trans e1) ((h.past.n 2 (by decide)).trans e2) h.gp (h.fr.someCell hx'.1 (fun f=>hb f.1)) (h.fr.someCell hy'.1 (fun f=>hc f.1)) hx'.2 hy'.2 h.acc h.fz l1 hB (fun a' w' q hA hF=>?_)
 exact k _ _ (h.next q ⟨by omega,by omega,by omega⟩ hA hF (by have:=h.b0;omega) l2) q.z
theorem Qs {lo hi gs g:Nat} {a0:Act} {w0:World} {V:Nat->Int} {A:Int} {n:Nat} {a:Act} {w:World} (h:AM lo hi gs g a0 w0 V A n a w):∃B,B=A/\AM lo hi gs g a0 w0 V B n a w:=⟨A,rfl,h⟩
section
variable {ρ:Operand->Value} {w:World} {d:Option Nat} {ty:TypeId} {pos:String} {after:Array Edge} {g:Option (Nat × Bool)}
theorem exAdd {x y:Operand} {n m:Int} (h:ρ x=.int .u64 n) (h':ρ y=.int .u64 m) (h0:0<=n+m) (h1:n+m < 18446744073709551616):(execOp ρ ⟨d,.binOp .add 28 x y 28,ty,pos,after,g⟩).run Tryz.prog w=.ok (.value (.int .u64 (n+m))) w:=by
 have e:IntKind.u64.wrap (n+m)=n+m:=by rw [Jt];exact Int.emod_eq_of_lt h0 h1
 simp only [execOp,h,h'];go_simp
theorem exAdd32 {x y:Operand} {n m:Int} (h:ρ x=.int .u32 n) (h':ρ y=.int .u32 m) (h0:0<=n+m) (h1:n+m < 4294967296):(execOp ρ ⟨d,.binOp .add 33 x y 33,ty,pos,after,g⟩).run Tryz.prog w=.ok (.value (.int .u32 (n+m))) w:=by
 have e:IntKind.u32.wrap (n+m)=n+m:=by rw [J8];exact Int.emod_eq_of_lt h0 h1
 simp only [execOp,h,h'];go_simp
theorem Ko {x:Operand} {n:Int} (h:ρ x=.int .u64 n) (hc:ρ (.const (.int .u64 32))=.int .u64 32) (h0:0<=n) (h1:n < 18446744073709551616):(execOp ρ ⟨d,.binOp .shr 28 x (.const (.int .u64 32)) 54,ty,pos,after,g⟩).run Tryz.prog w=.ok (.value (.int .u64 (n / 4294967296))) w:=by
 have e:IntKind.u64.wrap (n / 4294967296)=n / 4294967296:=by rw [Jt];omega
 simp only [execOp,h,hc];go_simp
theorem exAndM {x:Operand} {n:Int} (h:ρ x=.int .u64 n) (hc:ρ (.const (.int .u64 4294967295))=.int .u64 4294967295) (h0:0<=n) (h1:n < 18446744073709551616):(execOp ρ ⟨d,.binOp .and 28 x (.const (.int .u64 4294967295)) 28,ty,pos,after,g⟩).run Tryz.prog w=.ok (.value (.int .u64 (n % 4294967296))) w:=by
 rw [<-and_low' n h0 h1]
 simp only [execOp,h,hc];go_simp
end
section
variable {lo hi gs g:Nat} {a0:Act} {w0:World} {V:Nat->Int} {A:Int} {n s id src:Nat} {a:Act} {w:World} {Q:Exit->Act->World->Prop} {pos:String}
def setOps (s gs src:Nat) (pos:String):List Oper:=
 [⟨some s,.move (.tmp src),28,pos,#[],none⟩,
  ⟨some (s+1),.convert 28 33 (.tmp s),33,pos,#[⟨0,.data⟩],none⟩,
  ⟨some (s+2),.fieldAddr 75 (.tmp gs) 0,0,pos,#[],none⟩,
  ⟨some (s+3),.indexAddr 73 (.tmp (s+2)) (.const (.int .i64 (0:Nat))),0,pos,#[⟨2,.data⟩,⟨0,.phase⟩,⟨1,.phase⟩],none⟩,
  ⟨none,.store 33 (.tmp (s+3)) (.tmp (s+1)),0,pos,#[⟨3,.data⟩,⟨1,.data⟩,⟨0,.phase⟩,⟨1,.phase⟩],none⟩]
end
section
variable {lo hi gs g:Nat} {a0:Act} {w0:World} {V:Nat->Int} {A:Int} {n s id src:Nat} {a:Act} {w:World} {Q:Exit->Act->World->Prop} {pos:String}
theorem set_region (h:AM lo hi gs g a0 w0 V 0 n a w) (hs:lo<=s/\hi<=s/\gs < s) (hz:s+4<=a.tmps.size) (hk:lo<=src/\src < hi)
 (k:∀a' w',AM lo hi gs g a0 w0 V (V src) 1 a' w'->a'.tmps.size=a.tmps.size->Q .normal a' w'):Code.wp Tryz.prog (.region id (setOps s gs src pos).toArray false) Q a w:=by
 obtain ⟨n0,n1,n2,hA,HX⟩:=h.acc
 obtain ⟨e,u⟩:=h.v src hk.1 hk.2
 have q:=Past.refl a s
 refine wp_region_lit (l:=setOps s gs src pos) ?_
 change wpList _ _ _ [_,_,_,_,_] _ _
 refine Qu (Qg e) (by omega) ?_
 intro a1 p1
 replace q:=q.put p1 (by omega)
 refine Qu (Jk p1.v u) (by have:=q.z;omega) ?_
 intro a2 p2
 have q1:=q
 replace q:=q.put p2 (by omega)
 refine Qu (exField75 ((q.n gs (by omega)).trans h.gp)) (by have:=q.z;omega) ?_
 intro a3 p3
 replace q:=q.put p3 (by omega)
 refine Qu (exIndex73 p3.v rfl (by decide)) (by have:=q.z;omega) ?_
 intro a4 p4
 replace q:=q.put p4 (by omega)
 refine J2 (Jv p4.v ((p4.n _ (by omega)).trans ((p3.n _ (by omega)).trans p2.v)) hA.1 h.fz.1) ?_
 refine Wn (k _ _ (h.next q hs ⟨V src,n1,n2,hA.set0 _ u,?_⟩ ((Fr.refl _ _).setCell (b:=g) (o:=0) (fun _=>⟨rfl,by omega,by omega⟩) _) u.1 (by have:=u.2;omega)) q.z)
 have:=hA.2.2.2;unfold U32 at this;omega
end
def J5 (v1 v2 v3 v4 v5 v6 v7 v8 v9 v10 v11 v12 v13:Int):Int:=v1+4294967296*v2+18446744073709551616*v3+79228162514264337593543950336*v4+340282366920938463463374607431768211456*v5+1461501637330902918203684832716283019655932542976*v6+6277101735386680763835789423207666416102355444464034512896*v7+26959946667150639794667015087019630673637144422540572481103610249216*v8+115792089237316195423570985008687907853269984665640564039457584007913129639936*v9+497323236409786642155382248146820840100456150797347717440463976893159497012533375533056*v10+2135987035920910082395021706169552114602704522356652769947041607822219725780640550022962086936576*v11+9173994463960286046443283581208347763186259956673124494950355357547691504353939232280074212440502746218496*v12+39402006196394479212279040100143613805079739270465446667948293404245721771497210611414266254884915640806627990306816*v13
def V13 (v1 v2 v3 v4 v5 v6 v7 v8 v9 v10 v11 v12 v13:Int) (k:Nat):Int:=match k with | 1=>v1 | 2=>v2 | 3=>v3 | 4=>v4 | 5=>v5 | 6=>v6 | 7=>v7 | 8=>v8 | 9=>v9 | 10=>v10 | 11=>v11 | 12=>v12 | 13=>v13 | _=>0
theorem arith385 {v1 v2 v3 v4 v5 v6 v7 v8 v9 v10 v11 v12 v13 A1 A2 A3 A4 A5 A6 A7 A8 A9 c0 c1 c2 c3 c4 c5 c6 c7:Int} (u1:U32 v1) (u2:U32 v2) (u3:U32 v3) (u4:U32 v4) (u5:U32 v5) (u6:U32 v6) (u7:U32 v7) (u8:U32 v8) (u9:U32 v9) (u10:U32 v10) (u11:U32 v11) (u12:U32 v12) (u13:U32 v13) (hv:v13<=3) (h1:A1=v1+v9*801750719) (h2:A2=A1 / 4294967296+v2+v9*1076732275+v10*801750719) (h3:A3=A2 / 4294967296+v3+v9*1354194884+v10*1076732275+v11*801750719) (h4:A4=A3 / 4294967296+v4+v9*1162945305+v10*1354194884+v11*1076732275+v12*801750719) (h5:A5=A4 / 4294967296+v5+v9+v10*1162945305+v11*1354194884+v12*1076732275+v13*801750719) (h6:A6=A5 / 4294967296+v6+v10+v11*1162945305+v12*1354194884+v13*1076732275) (h7:A7=A6 / 4294967296+v7+v11+v12*1162945305+v13*1354194884) (h8:A8=A7 / 4294967296+v8+v12+v13*1162945305) (h9:A9=A8 / 4294967296+v13) (g0:c0=A1 % 4294967296+A9 % 4294967296*801750719) (g1:c1=c0 / 4294967296+A2 % 4294967296+A9 % 4294967296*1076732275) (g2:c2=c1 / 4294967296+A3 % 4294967296+A9 % 4294967296*1354194884) (g3:c3=c2 / 4294967296+A4 % 4294967296+A9 % 4294967296*1162945305) (g4:c4=c3 / 4294967296+A5 % 4294967296+A9 % 4294967296) (g5:c5=c4 / 4294967296+A6 % 4294967296) (g6:c6=c5 / 4294967296+A7 % 4294967296) (g7:c7=c6 / 4294967296+A8 % 4294967296):
 (c7 / 4294967296+ovN (val8 (c0 % 4294967296) (c1 % 4294967296) (c2 % 4294967296) (c3 % 4294967296) (c4 % 4294967296) (c5 % 4294967296) (c6 % 4294967296) (c7 % 4294967296))=0\/c7 / 4294967296+ovN (val8 (c0 % 4294967296) (c1 % 4294967296) (c2 % 4294967296) (c3 % 4294967296) (c4 % 4294967296) (c5 % 4294967296) (c6 % 4294967296) (c7 % 4294967296))=1)/\0<=c7 / 4294967296/\c7 / 4294967296<=1/\A9 % 4294967296<=9/\
 (val8 (c0 % 4294967296) (c1 % 4294967296) (c2 % 4294967296) (c3 % 4294967296) (c4 % 4294967296) (c5 % 4294967296) (c6 % 4294967296) (c7 % 4294967296)+(c7 / 4294967296+ovN (val8 (c0 % 4294967296) (c1 % 4294967296) (c2 % 4294967296) (c3 % 4294967296) (c4 % 4294967296) (c5 % 4294967296) (c6 % 4294967296) (c7 % 4294967296)))*432420386565659656852420866394968145599) % 115792089237316195423570985008687907853269984665640564039457584007913129639936=J5 v1 v2 v3 v4 v5 v6 v7 v8 v9 v10 v11 v12 v13 % NN:=by
 unfold U32 at u1 u2 u3 u4 u5 u6 u7 u8 u9 u10 u11 u12 u13
 obtain ⟨hi,hhi⟩:∃hi,hi=v9+4294967296*v10+18446744073709551616*v11+79228162514264337593543950336*v12+340282366920938463463374607431768211456*v13:=⟨_,rfl⟩
 obtain ⟨X,hX⟩:∃X,X=val8 (c0 % 4294967296) (c1 % 4294967296) (c2 % 4294967296) (c3 % 4294967296) (c4 % 4294967296) (c5 % 4294967296) (c6 % 4294967296) (c7 % 4294967296):=⟨_,rfl⟩
 rw [<-hX]
 have e1:A1 % 4294967296+4294967296*(A2 % 4294967296)+18446744073709551616*(A3 % 4294967296)+79228162514264337593543950336*(A4 % 4294967296)+340282366920938463463374607431768211456*(A5 % 4294967296)+1461501637330902918203684832716283019655932542976*(A6 % 4294967296)+6277101735386680763835789423207666416102355444464034512896*(A7 % 4294967296)+26959946667150639794667015087019630673637144422540572481103610249216*(A8 % 4294967296)+115792089237316195423570985008687907853269984665640564039457584007913129639936*(A9 % 4294967296)+497323236409786642155382248146820840100456150797347717440463976893159497012533375533056*(A9 / 4294967296)=J5 v1 v2 v3 v4 v5 v6 v7 v8 v9 v10 v11 v12 v13 - hi*115792089237316195423570985008687907852837564279074904382605163141518161494337:=by
  unfold J5;omega
 have e2:X+115792089237316195423570985008687907853269984665640564039457584007913129639936*(c7 / 4294967296)=A1 % 4294967296+4294967296*(A2 % 4294967296)+18446744073709551616*(A3 % 4294967296)+79228162514264337593543950336*(A4 % 4294967296)+340282366920938463463374607431768211456*(A5 % 4294967296)+1461501637330902918203684832716283019655932542976*(A6 % 4294967296)+6277101735386680763835789423207666416102355444464034512896*(A7 % 4294967296)+26959946667150639794667015087019630673637144422540572481103610249216*(A8 % 4294967296)+(A9 % 4294967296)*432420386565659656852420866394968145599:=by
  unfold val8 at hX;omega
 have b1:0<=hi/\hi < 1361129467683753853853498429727072845824:=by omega
 have b2:0<=J5 v1 v2 v3 v4 v5 v6 v7 v8 v9 v10 v11 v12 v13 - hi*115792089237316195423570985008687907852837564279074904382605163141518161494337/\J5 v1 v2 v3 v4 v5 v6 v7 v8 v9 v10 v11 v12 v13 - hi*115792089237316195423570985008687907852837564279074904382605163141518161494337 < 1042128803135845758812138865078191170679429861990765076355118256071218166759424:=by unfold J5;omega
 obtain ⟨Z,hZ⟩:∃Z,Z=J5 v1 v2 v3 v4 v5 v6 v7 v8 v9 v10 v11 v12 v13:=⟨_,rfl⟩
 rw [<-hZ] at e1 b2 ⊢
 obtain ⟨L,hL⟩:∃L,L=A1 % 4294967296+4294967296*(A2 % 4294967296)+18446744073709551616*(A3 % 4294967296)+79228162514264337593543950336*(A4 % 4294967296)+340282366920938463463374607431768211456*(A5 % 4294967296)+1461501637330902918203684832716283019655932542976*(A6 % 4294967296)+6277101735386680763835789423207666416102355444464034512896*(A7 % 4294967296)+26959946667150639794667015087019630673637144422540572481103610249216*(A8 % 4294967296):=⟨_,rfl⟩
 have b3:0<=L/\L < 115792089237316195423570985008687907853269984665640564039457584007913129639936:=by omega
 rw [<-hL] at e1 e2
 have b4:0<=X/\X < 115792089237316195423570985008687907853269984665640564039457584007913129639936:=by unfold val8 at hX;omega
 clear hX hL hhi h1 h2 h3 h4 h5 h6 h7 h8 h9 g0 g1 g2 g3 g4 g5 g6 g7 u1 u2 u3 u4 u5 u6 u7 u8 u9 u10 u11 u12 u13
 obtain ⟨r,hr⟩:∃r,r=A9 % 4294967296:=⟨_,rfl⟩
 obtain ⟨s,hs⟩:∃s,s=A9 / 4294967296:=⟨_,rfl⟩
 obtain ⟨k,hk⟩:∃k,k=c7 / 4294967296:=⟨_,rfl⟩
 have b5:0<=r/\r < 4294967296:=by omega
 rw [<-hr,<-hs] at e1
 rw [<-hr,<-hk] at e2
 rw [<-hr,<-hk]
 clear hr hs hk
 have b6:s=0:=by omega
 have b7:r<=9:=by omega
 have b8:0<=k/\k<=1:=by omega
 have key:∀R,0<=R->R < NN->(∃j,Z=R+NN*j)->Z % NN=R:=by
  rintro R h0 h1 ⟨j,rfl⟩
  rw [Int.add_mul_emod_self_left,Int.emod_eq_of_lt h0 h1]
 unfold ovN NN at*
 refine ⟨by split <;> omega,b8.1,b8.2,b7,?_⟩
 split
 ·rw [key (X+(k+1)*432420386565659656852420866394968145599 - 115792089237316195423570985008687907853269984665640564039457584007913129639936) (by omega) (by omega) ⟨hi+r+1 - k,by omega⟩];omega
 rw [key (X+(k+0)*432420386565659656852420866394968145599) (by omega) (by omega) ⟨hi+r+k,by omega⟩];omega
set_option maxRecDepth 100000 in
set_option maxHeartbeats 4000000 in
theorem reduce385 (d q:Nat) (x v1 v2 v3 v4 v5 v6 v7 v8 v9 v10 v11 v12 v13:Int) (w:World) (hS:Sc w d q x) (hf:F8 w d q) (u1:U32 v1) (u2:U32 v2) (u3:U32 v3) (u4:U32 v4) (u5:U32 v5) (u6:U32 v6) (u7:U32 v7) (u8:U32 v8) (u9:U32 v9) (u10:U32 v10) (u11:U32 v11) (u12:U32 v12) (u13:U32 v13) (hv:v13<=3):
 Calls Tryz.prog 68 #[.pointer (some ⟨d,q,none⟩),.int .u64 v1,.int .u64 v2,.int .u64 v3,.int .u64 v4,.int .u64 v5,.int .u64 v6,.int .u64 v7,.int .u64 v8,.int .u64 v9,.int .u64 v10,.int .u64 v11,.int .u64 v12,.int .u64 v13] w fun e w'=>e=.returned (.tuple #[])/\Sc w' d q (J5 v1 v2 v3 v4 v5 v6 v7 v8 v9 v10 v11 v12 v13 % NN)/\Fr (Rng d q 8) w w':=by
 have hld:=hS.lt
 obtain ⟨m0,m1,m2,m3,m4,m5,m6,m7,hS,HX⟩:=hS
 clear HX
 refine enterA Tryz.func68 rfl (fun a0 z0 d0 ha=>?_)
 have e0:=ha 0 _ rfl
 have e1:=ha 1 _ rfl
 have e2:=ha 2 _ rfl
 have e3:=ha 3 _ rfl
 have e4:=ha 4 _ rfl
 have e5:=ha 5 _ rfl
 have e6:=ha 6 _ rfl
 have e7:=ha 7 _ rfl
 have e8:=ha 8 _ rfl
 have e9:=ha 9 _ rfl
 have e10:=ha 10 _ rfl
 have e11:=ha 11 _ rfl
 have e12:=ha 12 _ rfl
 have e13:=ha 13 _ rfl
 replace z0:a0.tmps.size=269:=z0
 refine Sq (Ke (Qu exAlloc75 (ltz z0 rfl) fun a1 p1=>Wn (Qa ?_)))
 have z1:=p1.z.trans z0
 have d1:=p1.f.trans d0
 have hF0:Fr NoT w (w.alloc (.cells #[.int .u32 0,.int .u32 0,.int .u32 0] 75)):=(Fr.refl _ _).alloc _
 have hS0:=hS.fr hF0 (fun _ _ _ f=>f)
 have hf0:=F8.fr hF0 hld hf
 obtain ⟨hA0,hg0⟩:=allocAcc w
 obtain ⟨g,hg⟩:∃g,g=w.heap.size:=⟨_,rfl⟩
 rw [<-hg] at hA0 hg0
 have hdg:d≠g:=by omega
 have h:AM 1 14 28 g a1 (w.alloc (.cells #[.int .u32 0,.int .u32 0,.int .u32 0] 75)) (V13 v1 v2 v3 v4 v5 v6 v7 v8 v9 v10 v11 v12 v13) 0 0 a1 (w.alloc (.cells #[.int .u32 0,.int .u32 0,.int .u32 0] 75)):=by
  refine ⟨Past.refl _ _,p1.v.trans (by rw [hg]),fun k h1 h2=>?_,hA0,hg0,by decide,by decide,Fr.refl _ _⟩
  refine (p1.n k (by omega))▸?_
  rcases k with _ | _ | _ | _ | _ | _ | _ | _ | _ | _ | _ | _ | _ | _ | k
  ·omega
  ·exact ⟨e1,u1⟩
  ·exact ⟨e2,u2⟩
  ·exact ⟨e3,u3⟩
  ·exact ⟨e4,u4⟩
  ·exact ⟨e5,u5⟩
  ·exact ⟨e6,u6⟩
  ·exact ⟨e7,u7⟩
  ·exact ⟨e8,u8⟩
  ·exact ⟨e9,u9⟩
  ·exact ⟨e10,u10⟩
  ·exact ⟨e11,u11⟩
  ·exact ⟨e12,u12⟩
  ·exact ⟨e13,u13⟩
  omega
 have e0':=(p1.n 0 (by decide)).trans e0
 generalize w.alloc (.cells #[.int .u32 0,.int .u32 0,.int .u32 0] 75)=w0 at h hF0 hS0 hf0 ⊢
 refine Sq (set_region (s:=30) (src:=1) h (by decide) (by rw [z1];decide) (by decide) (fun bb0 ww0 h' zz=>Qa ?_))
 have y0:=zz.trans z1;replace h:=h';clear h' zz
 refine Sq (Qe (s:=34) (src:=9) (K:=801750719) h (by decide) (by rw [y0];decide) (by decide) (by decide) ⟨by decide,by decide⟩ (fun bb1 ww1 h' zz=>Qa ?_))
 have y1:=zz.trans y0;replace h:=h';clear h' zz
 obtain ⟨A1,hA1,h⟩:=Qs h
 refine Sq (Qi (s:=37) (d:=1) (top:=14) h (by decide) (by rw [y1];decide) (by decide) (by decide) (fun k _ hk=>.inl hk) (fun bb2 ww2 h' zz=>Qa ?_))
 have y2:=zz.trans y1;replace h:=h';clear h' zz
 refine Sq (Qj (s:=41) h (by decide) (by rw [y2];decide) (by decide) (fun bb3 ww3 h' zz=>Qa ?_))
 have y3:=zz.trans y2;replace h:=h';clear h' zz
 refine Sq (Qp (s:=42) (src:=2) h (by decide) (by rw [y3];decide) (by decide) (by decide) (fun bb4 ww4 h' zz=>Qa ?_))
 have y4:=zz.trans y3;replace h:=h';clear h' zz
 refine Sq (Qe (s:=44) (src:=9) (K:=1076732275) h (by decide) (by rw [y4];decide) (by decide) (by decide) ⟨by decide,by decide⟩ (fun bb5 ww5 h' zz=>Qa ?_))
 have y5:=zz.trans y4;replace h:=h';clear h' zz
 refine Sq (Qe (s:=47) (src:=10) (K:=801750719) h (by decide) (by rw [y5];decide) (by decide) (by decide) ⟨by decide,by decide⟩ (fun bb6 ww6 h' zz=>Qa ?_))
 have y6:=zz.trans y5;replace h:=h';clear h' zz
 obtain ⟨A2,hA2,h⟩:=Qs h
 refine Sq (Qi (s:=50) (d:=2) (top:=14) h (by decide) (by rw [y6];decide) (by decide) (by decide) (fun k _ hk=>.inl hk) (fun bb7 ww7 h' zz=>Qa ?_))
 have y7:=zz.trans y6;replace h:=h';clear h' zz
 refine Sq (Qj (s:=54) h (by decide) (by rw [y7];decide) (by decide) (fun bb8 ww8 h' zz=>Qa ?_))
 have y8:=zz.trans y7;replace h:=h';clear h' zz
 refine Sq (Qp (s:=55) (src:=3) h (by decide) (by rw [y8];decide) (by decide) (by decide) (fun bb9 ww9 h' zz=>Qa ?_))
 have y9:=zz.trans y8;replace h:=h';clear h' zz
 refine Sq (Qe (s:=57) (src:=9) (K:=1354194884) h (by decide) (by rw [y9];decide) (by decide) (by decide) ⟨by decide,by decide⟩ (fun bb10 ww10 h' zz=>Qa ?_))
 have y10:=zz.trans y9;replace h:=h';clear h' zz
 refine Sq (Qe (s:=60) (src:=10) (K:=1076732275) h (by decide) (by rw [y10];decide) (by decide) (by decide) ⟨by decide,by decide⟩ (fun bb11 ww11 h' zz=>Qa ?_))
 have y11:=zz.trans y10;replace h:=h';clear h' zz
 refine Sq (Qe (s:=63) (src:=11) (K:=801750719) h (by decide) (by rw [y11];decide) (by decide) (by decide) ⟨by decide,by decide⟩ (fun bb12 ww12 h' zz=>Qa ?_))
 have y12:=zz.trans y11;replace h:=h';clear h' zz
 obtain ⟨A3,hA3,h⟩:=Qs h
 refine Sq (Qi (s:=66) (d:=3) (top:=14) h (by decide) (by rw [y12];decide) (by decide) (by decide) (fun k _ hk=>.inl hk) (fun bb13 ww13 h' zz=>Qa ?_))
 have y13:=zz.trans y12;replace h:=h';clear h' zz
 refine Sq (Qj (s:=70) h (by decide) (by rw [y13];decide) (by decide) (fun bb14 ww14 h' zz=>Qa ?_))
 have y14:=zz.trans y13;replace h:=h';clear h' zz
 refine Sq (Qp (s:=71) (src:=4) h (by decide) (by rw [y14];decide) (by decide) (by decide) (fun bb15 ww15 h' zz=>Qa ?_))
 have y15:=zz.trans y14;replace h:=h';clear h' zz
 refine Sq (Qe (s:=73) (src:=9) (K:=1162945305) h (by decide) (by rw [y15];decide) (by decide) (by decide) ⟨by decide,by decide⟩ (fun bb16 ww16 h' zz=>Qa ?_))
 have y16:=zz.trans y15;replace h:=h';clear h' zz
 refine Sq (Qe (s:=76) (src:=10) (K:=1354194884) h (by decide) (by rw [y16];decide) (by decide) (by decide) ⟨by decide,by decide⟩ (fun bb17 ww17 h' zz=>Qa ?_))
 have y17:=zz.trans y16;replace h:=h';clear h' zz
 refine Sq (Qe (s:=79) (src:=11) (K:=1076732275) h (by decide) (by rw [y17];decide) (by decide) (by decide) ⟨by decide,by decide⟩ (fun bb18 ww18 h' zz=>Qa ?_))
 have y18:=zz.trans y17;replace h:=h';clear h' zz
 refine Sq (Qe (s:=82) (src:=12) (K:=801750719) h (by decide) (by rw [y18];decide) (by decide) (by decide) ⟨by decide,by decide⟩ (fun bb19 ww19 h' zz=>Qa ?_))
 have y19:=zz.trans y18;replace h:=h';clear h' zz
 obtain ⟨A4,hA4,h⟩:=Qs h
 refine Sq (Qi (s:=85) (d:=4) (top:=14) h (by decide) (by rw [y19];decide) (by decide) (by decide) (fun k _ hk=>.inl hk) (fun bb20 ww20 h' zz=>Qa ?_))
 have y20:=zz.trans y19;replace h:=h';clear h' zz
 refine Sq (Qj (s:=89) h (by decide) (by rw [y20];decide) (by decide) (fun bb21 ww21 h' zz=>Qa ?_))
 have y21:=zz.trans y20;replace h:=h';clear h' zz
 refine Sq (Qp (s:=90) (src:=5) h (by decide) (by rw [y21];decide) (by decide) (by decide) (fun bb22 ww22 h' zz=>Qa ?_))
 have y22:=zz.trans y21;replace h:=h';clear h' zz
 refine Sq (Qp (s:=92) (src:=9) h (by decide) (by rw [y22];decide) (by decide) (by decide) (fun bb23 ww23 h' zz=>Qa ?_))
 have y23:=zz.trans y22;replace h:=h';clear h' zz
 refine Sq (Qe (s:=94) (src:=10) (K:=1162945305) h (by decide) (by rw [y23];decide) (by decide) (by decide) ⟨by decide,by decide⟩ (fun bb24 ww24 h' zz=>Qa ?_))
 have y24:=zz.trans y23;replace h:=h';clear h' zz
 refine Sq (Qe (s:=97) (src:=11) (K:=1354194884) h (by decide) (by rw [y24];decide) (by decide) (by decide) ⟨by decide,by decide⟩ (fun bb25 ww25 h' zz=>Qa ?_))
 have y25:=zz.trans y24;replace h:=h';clear h' zz
 refine Sq (Qe (s:=100) (src:=12) (K:=1076732275) h (by decide) (by rw [y25];decide) (by decide) (by decide) ⟨by decide,by decide⟩ (fun bb26 ww26 h' zz=>Qa ?_))
 have y26:=zz.trans y25;replace h:=h';clear h' zz
 refine Sq (Qe (s:=103) (src:=13) (K:=801750719) h (by decide) (by rw [y26];decide) (by decide) (by decide) ⟨by decide,by decide⟩ (fun bb27 ww27 h' zz=>Qa ?_))
 have y27:=zz.trans y26;replace h:=h';clear h' zz
 obtain ⟨A5,hA5,h⟩:=Qs h
 refine Sq (Qi (s:=106) (d:=5) (top:=14) h (by decide) (by rw [y27];decide) (by decide) (by decide) (fun k _ hk=>.inl hk) (fun bb28 ww28 h' zz=>Qa ?_))
 have y28:=zz.trans y27;replace h:=h';clear h' zz
 refine Sq (Qj (s:=110) h (by decide) (by rw [y28];decide) (by decide) (fun bb29 ww29 h' zz=>Qa ?_))
 have y29:=zz.trans y28;replace h:=h';clear h' zz
 refine Sq (Qp (s:=111) (src:=6) h (by decide) (by rw [y29];decide) (by decide) (by decide) (fun bb30 ww30 h' zz=>Qa ?_))
 have y30:=zz.trans y29;replace h:=h';clear h' zz
 refine Sq (Qp (s:=113) (src:=10) h (by decide) (by rw [y30];decide) (by decide) (by decide) (fun bb31 ww31 h' zz=>Qa ?_))
 have y31:=zz.trans y30;replace h:=h';clear h' zz
 refine Sq (Qe (s:=115) (src:=11) (K:=1162945305) h (by decide) (by rw [y31];decide) (by decide) (by decide) ⟨by decide,by decide⟩ (fun bb32 ww32 h' zz=>Qa ?_))
 have y32:=zz.trans y31;replace h:=h';clear h' zz
 refine Sq (Qe (s:=118) (src:=12) (K:=1354194884) h (by decide) (by rw [y32];decide) (by decide) (by decide) ⟨by decide,by decide⟩ (fun bb33 ww33 h' zz=>Qa ?_))
 have y33:=zz.trans y32;replace h:=h';clear h' zz
 refine Sq (Qe (s:=121) (src:=13) (K:=1076732275) h (by decide) (by rw [y33];decide) (by decide) (by decide) ⟨by decide,by decide⟩ (fun bb34 ww34 h' zz=>Qa ?_))
 have y34:=zz.trans y33;replace h:=h';clear h' zz
 obtain ⟨A6,hA6,h⟩:=Qs h
 refine Sq (Qi (s:=124) (d:=6) (top:=14) h (by decide) (by rw [y34];decide) (by decide) (by decide) (fun k _ hk=>.inl hk) (fun bb35 ww35 h' zz=>Qa ?_))
 have y35:=zz.trans y34;replace h:=h';clear h' zz
 refine Sq (Qj (s:=128) h (by decide) (by rw [y35];decide) (by decide) (fun bb36 ww36 h' zz=>Qa ?_))
 have y36:=zz.trans y35;replace h:=h';clear h' zz
 refine Sq (Qp (s:=129) (src:=7) h (by decide) (by rw [y36];decide) (by decide) (by decide) (fun bb37 ww37 h' zz=>Qa ?_))
 have y37:=zz.trans y36;replace h:=h';clear h' zz
 refine Sq (Qp (s:=131) (src:=11) h (by decide) (by rw [y37];decide) (by decide) (by decide) (fun bb38 ww38 h' zz=>Qa ?_))
 have y38:=zz.trans y37;replace h:=h';clear h' zz
 refine Sq (Qe (s:=133) (src:=12) (K:=1162945305) h (by decide) (by rw [y38];decide) (by decide) (by decide) ⟨by decide,by decide⟩ (fun bb39 ww39 h' zz=>Qa ?_))
 have y39:=zz.trans y38;replace h:=h';clear h' zz
 refine Sq (Qe (s:=136) (src:=13) (K:=1354194884) h (by decide) (by rw [y39];decide) (by decide) (by decide) ⟨by decide,by decide⟩ (fun bb40 ww40 h' zz=>Qa ?_))
 have y40:=zz.trans y39;replace h:=h';clear h' zz
 obtain ⟨A7,hA7,h⟩:=Qs h
 refine Sq (Qi (s:=139) (d:=7) (top:=14) h (by decide) (by rw [y40];decide) (by decide) (by decide) (fun k _ hk=>.inl hk) (fun bb41 ww41 h' zz=>Qa ?_))
 have y41:=zz.trans y40;replace h:=h';clear h' zz
 refine Sq (Qj (s:=143) h (by decide) (by rw [y41];decide) (by decide) (fun bb42 ww42 h' zz=>Qa ?_))
 have y42:=zz.trans y41;replace h:=h';clear h' zz
 refine Sq (Qp (s:=144) (src:=8) h (by decide) (by rw [y42];decide) (by decide) (by decide) (fun bb43 ww43 h' zz=>Qa ?_))
 have y43:=zz.trans y42;replace h:=h';clear h' zz
 refine Sq (Qp (s:=146) (src:=12) h (by decide) (by rw [y43];decide) (by decide) (by decide) (fun bb44 ww44 h' zz=>Qa ?_))
 have y44:=zz.trans y43;replace h:=h';clear h' zz
 refine Sq (Qe (s:=148) (src:=13) (K:=1162945305) h (by decide) (by rw [y44];decide) (by decide) (by decide) ⟨by decide,by decide⟩ (fun bb45 ww45 h' zz=>Qa ?_))
 have y45:=zz.trans y44;replace h:=h';clear h' zz
 obtain ⟨A8,hA8,h⟩:=Qs h
 refine Sq (Qi (s:=151) (d:=8) (top:=14) h (by decide) (by rw [y45];decide) (by decide) (by decide) (fun k _ hk=>.inl hk) (fun bb46 ww46 h' zz=>Qa ?_))
 have y46:=zz.trans y45;replace h:=h';clear h' zz
 refine Sq (Qj (s:=155) h (by decide) (by rw [y46];decide) (by decide) (fun bb47 ww47 h' zz=>Qa ?_))
 have y47:=zz.trans y46;replace h:=h';clear h' zz
 refine Sq (Qp (s:=156) (src:=13) h (by decide) (by rw [y47];decide) (by decide) (by decide) (fun bb48 ww48 h' zz=>Qa ?_))
 have y48:=zz.trans y47;replace h:=h';clear h' zz
 obtain ⟨A9,hA9,h⟩:=Qs h
 refine Sq (Qi (s:=158) (d:=9) (top:=14) h (by decide) (by rw [y48];decide) (by decide) (by decide) (fun k _ hk=>.inl hk) (fun bb49 ww49 h' zz=>Qa ?_))
 have y49:=zz.trans y48;replace h:=h';clear h' zz
 have g0:=(h.past.n 0 (by decide)).trans e0'
 have dd0:=h.past.f.trans d1
 have w1:bb49.eval (.tmp 1)=.int .u64 (A1 % 4294967296):=(h.v 1 (by decide) (by decide)).1
 have w2:bb49.eval (.tmp 2)=.int .u64 (A2 % 4294967296):=(h.v 2 (by decide) (by decide)).1
 have w3:bb49.eval (.tmp 3)=.int .u64 (A3 % 4294967296):=(h.v 3 (by decide) (by decide)).1
 have w4:bb49.eval (.tmp 4)=.int .u64 (A4 % 4294967296):=(h.v 4 (by decide) (by decide)).1
 have w5:bb49.eval (.tmp 5)=.int .u64 (A5 % 4294967296):=(h.v 5 (by decide) (by decide)).1
 have w6:bb49.eval (.tmp 6)=.int .u64 (A6 % 4294967296):=(h.v 6 (by decide) (by decide)).1
 have w7:bb49.eval (.tmp 7)=.int .u64 (A7 % 4294967296):=(h.v 7 (by decide) (by decide)).1
 have w8:bb49.eval (.tmp 8)=.int .u64 (A8 % 4294967296):=(h.v 8 (by decide) (by decide)).1
 have w9:bb49.eval (.tmp 9)=.int .u64 (A9 % 4294967296):=(h.v 9 (by decide) (by decide)).1
 have R1:A1 % 4294967296 < 4294967296:=El _ (by decide)
 have RR1:0<=A1 % 4294967296:=En _ (by decide)
 have R2:A2 % 4294967296 < 4294967296:=El _ (by decide)
 have RR2:0<=A2 % 4294967296:=En _ (by decide)
 have R3:A3 % 4294967296 < 4294967296:=El _ (by decide)
 have RR3:0<=A3 % 4294967296:=En _ (by decide)
 have R4:A4 % 4294967296 < 4294967296:=El _ (by decide)
 have RR4:0<=A4 % 4294967296:=En _ (by decide)
 have R5:A5 % 4294967296 < 4294967296:=El _ (by decide)
 have RR5:0<=A5 % 4294967296:=En _ (by decide)
 have R6:A6 % 4294967296 < 4294967296:=El _ (by decide)
 have RR6:0<=A6 % 4294967296:=En _ (by decide)
 have R7:A7 % 4294967296 < 4294967296:=El _ (by decide)
 have RR7:0<=A7 % 4294967296:=En _ (by decide)
 have R8:A8 % 4294967296 < 4294967296:=El _ (by decide)
 have RR8:0<=A8 % 4294967296:=En _ (by decide)
 have R9:A9 % 4294967296 < 4294967296:=El _ (by decide)
 have RR9:0<=A9 % 4294967296:=En _ (by decide)
 replace hA1:A1=v1+v9*801750719:=hA1
 replace hA2:A2=A1 / 4294967296+v2+v9*1076732275+v10*801750719:=hA2
 replace hA3:A3=A2 / 4294967296+v3+v9*1354194884+v10*1076732275+v11*801750719:=hA3
 replace hA4:A4=A3 / 4294967296+v4+v9*1162945305+v10*1354194884+v11*1076732275+v12*801750719:=hA4
 replace hA5:A5=A4 / 4294967296+v5+v9+v10*1162945305+v11*1354194884+v12*1076732275+v13*801750719:=hA5
 replace hA6:A6=A5 / 4294967296+v6+v10+v11*1162945305+v12*1354194884+v13*1076732275:=hA6
 replace hA7:A7=A6 / 4294967296+v7+v11+v12*1162945305+v13*1354194884:=hA7
 replace hA8:A8=A7 / 4294967296+v8+v12+v13*1162945305:=hA8
 replace hA9:A9=A8 / 4294967296+v13:=hA9
 obtain ⟨c0,k0⟩:∃c,c=A1 % 4294967296+A9 % 4294967296*801750719:=⟨_,rfl⟩
 obtain ⟨c1,k1⟩:∃c,c=c0 / 4294967296+A2 % 4294967296+A9 % 4294967296*1076732275:=⟨_,rfl⟩
 obtain ⟨c2,k2⟩:∃c,c=c1 / 4294967296+A3 % 4294967296+A9 % 4294967296*1354194884:=⟨_,rfl⟩
 obtain ⟨c3,k3⟩:∃c,c=c2 / 4294967296+A4 % 4294967296+A9 % 4294967296*1162945305:=⟨_,rfl⟩
 obtain ⟨c4,k4⟩:∃c,c=c3 / 4294967296+A5 % 4294967296+A9 % 4294967296:=⟨_,rfl⟩
 obtain ⟨c5,k5⟩:∃c,c=c4 / 4294967296+A6 % 4294967296:=⟨_,rfl⟩
 obtain ⟨c6,k6⟩:∃c,c=c5 / 4294967296+A7 % 4294967296:=⟨_,rfl⟩
 obtain ⟨c7,k7⟩:∃c,c=c6 / 4294967296+A8 % 4294967296:=⟨_,rfl⟩
 have AA:=arith385 u1 u2 u3 u4 u5 u6 u7 u8 u9 u10 u11 u12 u13 hv hA1 hA2 hA3 hA4 hA5 hA6 hA7 hA8 hA9 k0 k1 k2 k3 k4 k5 k6 k7
 obtain ⟨AA1,AA2,AA3,AA4,AA5⟩:=AA
 have hSw:=hS0.fr h.fr (fun _ _ _ f=>hdg f.1)
 have hfw:=F8.fr h.fr hS0.lt hf0
 have hT:Fr (Or2 (Rng d q 8) (Rng g 0 3)) ww49 ww49:=Fr.refl _ _
 refine Sq (wp_region_lit ?_)
 show wpList _ _ _ _ _ _
 refine wP (Qg (w1)) y49 dd0 rfl fun ac1 q1 zz1 dd1=>?_
 refine wP (Qg (q1.m w9 rfl)) zz1 dd1 rfl fun ac2 q2 zz2 dd2=>?_
 refine wP (exMulC (q2.v) rfl (by omega) (by omega)) zz2 dd2 rfl fun ac3 q3 zz3 dd3=>?_
 refine wP (exAdd (q3.m (q2.m q1.v rfl) rfl) (q3.v) (by omega) (by omega)) zz3 dd3 rfl fun ac4 q4 zz4 dd4=>?_
 refine wP (Ji ((q4.v).trans (congrArg (Value.int .u64) k0.symm))) zz4 dd4 rfl fun ac5 q5 zz5 dd5=>?_
 have t1:=q5.l (q4.l (q3.l (q2.l (q1.l (PL.nil _)))))
 have f0_5:=(t1 _ (by decide)).trans (g0)
 have f1_5:=(t1 _ (by decide)).trans (w1)
 have f2_5:=(t1 _ (by decide)).trans (w2)
 have f3_5:=(t1 _ (by decide)).trans (w3)
 have f4_5:=(t1 _ (by decide)).trans (w4)
 have f5_5:=(t1 _ (by decide)).trans (w5)
 have f6_5:=(t1 _ (by decide)).trans (w6)
 have f7_5:=(t1 _ (by decide)).trans (w7)
 have f8_5:=(t1 _ (by decide)).trans (w8)
 have f9_5:=(t1 _ (by decide)).trans (w9)
 refine Wn (Qa ?_)
 refine Sq (wp_region_lit ?_)
 show wpList _ _ _ _ _ _
 refine wP (Qg (f0_5)) zz5 dd5 rfl fun ac6 q6 zz6 dd6=>?_
 refine wP (Qg (q6.m q5.v rfl)) zz6 dd6 rfl fun ac7 q7 zz7 dd7=>?_
 refine wP (exAndM (q7.v) rfl (by omega) (by omega)) zz7 dd7 rfl fun ac8 q8 zz8 dd8=>?_
 refine wP (Jk (q8.v) ⟨by omega,by omega⟩) zz8 dd8 rfl fun ac9 q9 zz9 dd9=>?_
 refine wP (J4 (q9.m (q8.m (q7.m q6.v rfl) rfl) rfl)) zz9 dd9 rfl fun ac10 q10 zz10 dd10=>?_
 refine wP (Q7 (q10.v)) zz10 dd10 rfl fun ac11 q11 zz11 dd11=>?_
 refine wP (Q6 (i:=0) (q11.v) rfl (by decide)) zz11 dd11 rfl fun ac12 q12 zz12 dd12=>?_
 refine J2 (Jv (q12.v) (q12.m (q11.m (q10.m q9.v rfl) rfl) rfl) hSw.1 hfw.1) ?_
 replace hfw:=F8.fr ((Fr.refl (Rng d q 8) _).setCell (b:=d) (o:=q) (fun _=>⟨rfl,by omega,by omega⟩) (.int .u32 (c0 % 4294967296))) hSw.lt hfw
 replace hT:=hT.setCell (b:=d) (o:=q) (fun _=>.inl ⟨rfl,by omega,by omega⟩) (.int .u32 (c0 % 4294967296))
 replace hSw:=hSw.set0 (c0 % 4294967296) ⟨by omega,by omega⟩
 change wpList _ _ _ _ _ (World.setCell ww49 ⟨d,q,none⟩ (.int .u32 (c0 % 4294967296)))
 generalize World.setCell ww49 ⟨d,q,none⟩ (.int .u32 (c0 % 4294967296))=wt0 at hSw hfw hT ⊢
 have t2:=q12.l (q11.l (q10.l (q9.l (q8.l (q7.l (q6.l (PL.nil _)))))))
 have f0_12:=(t2 _ (by decide)).trans (f0_5)
 have f29_12:=(t2 _ (by decide)).trans (q5.v)
 have f1_12:=(t2 _ (by decide)).trans (f1_5)
 have f2_12:=(t2 _ (by decide)).trans (f2_5)
 have f3_12:=(t2 _ (by decide)).trans (f3_5)
 have f4_12:=(t2 _ (by decide)).trans (f4_5)
 have f5_12:=(t2 _ (by decide)).trans (f5_5)
 have f6_12:=(t2 _ (by decide)).trans (f6_5)
 have f7_12:=(t2 _ (by decide)).trans (f7_5)
 have f8_12:=(t2 _ (by decide)).trans (f8_5)
 have f9_12:=(t2 _ (by decide)).trans (f9_5)
 refine Wn (Qa ?_)
 refine Sq (wp_region_lit ?_)
 show wpList _ _ _ _ _ _
 refine wP (Qg (f29_12)) zz12 dd12 rfl fun ac13 q13 zz13 dd13=>?_
 refine wP (Ko (q13.v) rfl (by omega) (by omega)) zz13 dd13 rfl fun ac14 q14 zz14 dd14=>?_
 refine wP (Qg (q14.m (q13.m f2_12 rfl) rfl)) zz14 dd14 rfl fun ac15 q15 zz15 dd15=>?_
 refine wP (exAdd (q15.m q14.v rfl) (q15.v) (by omega) (by omega)) zz15 dd15 rfl fun ac16 q16 zz16 dd16=>?_
 refine wP (Qg (q16.m (q15.m (q14.m (q13.m f9_12 rfl) rfl) rfl) rfl)) zz16 dd16 rfl fun ac17 q17 zz17 dd17=>?_
 refine wP (exMulC (q17.v) rfl (by omega) (by omega)) zz17 dd17 rfl fun ac18 q18 zz18 dd18=>?_
 refine wP (exAdd (q18.m (q17.m q16.v rfl) rfl) (q18.v) (by omega) (by omega)) zz18 dd18 rfl fun ac19 q19 zz19 dd19=>?_
 refine wP (Ji ((q19.v).trans (congrArg (Value.int .u64) k1.symm))) zz19 dd19 rfl fun ac20 q20 zz20 dd20=>?_
 have t3:=q20.l (q19.l (q18.l (q17.l (q16.l (q15.l (q14.l (q13.l (PL.nil _))))))))
 have f0_20:=(t3 _ (by decide)).trans (f0_12)
 have f1_20:=(t3 _ (by decide)).trans (f1_12)
 have f2_20:=(t3 _ (by decide)).trans (f2_12)
 have f3_20:=(t3 _ (by decide)).trans (f3_12)
 have f4_20:=(t3 _ (by decide)).trans (f4_12)
 have f5_20:=(t3 _ (by decide)).trans (f5_12)
 have f6_20:=(t3 _ (by decide)).trans (f6_12)
 have f7_20:=(t3 _ (by decide)).trans (f7_12)
 have f8_20:=(t3 _ (by decide)).trans (f8_12)
 have f9_20:=(t3 _ (by decide)).trans (f9_12)
 refine Wn (Qa ?_)
 refine Sq (wp_region_lit ?_)
 show wpList _ _ _ _ _ _
 refine wP (Qg (f0_20)) zz20 dd20 rfl fun ac21 q21 zz21 dd21=>?_
 refine wP (Qg (q21.m q20.v rfl)) zz21 dd21 rfl fun ac22 q22 zz22 dd22=>?_
 refine wP (exAndM (q22.v) rfl (by omega) (by omega)) zz22 dd22 rfl fun ac23 q23 zz23 dd23=>?_
 refine wP (Jk (q23.v) ⟨by omega,by omega⟩) zz23 dd23 rfl fun ac24 q24 zz24 dd24=>?_
 refine wP (J4 (q24.m (q23.m (q22.m q21.v rfl) rfl) rfl)) zz24 dd24 rfl fun ac25 q25 zz25 dd25=>?_
 refine wP (Q7 (q25.v)) zz25 dd25 rfl fun ac26 q26 zz26 dd26=>?_
 refine wP (Q6 (i:=1) (q26.v) rfl (by decide)) zz26 dd26 rfl fun ac27 q27 zz27 dd27=>?_
 refine J2 (Jv (q27.v) (q27.m (q26.m (q25.m q24.v rfl) rfl) rfl) hSw.2.1 hfw.2.1) ?_
 replace hfw:=F8.fr ((Fr.refl (Rng d q 8) _).setCell (b:=d) (o:=q+1) (fun _=>⟨rfl,by omega,by omega⟩) (.int .u32 (c1 % 4294967296))) hSw.lt hfw
 replace hT:=hT.setCell (b:=d) (o:=q+1) (fun _=>.inl ⟨rfl,by omega,by omega⟩) (.int .u32 (c1 % 4294967296))
 replace hSw:=hSw.set1 (c1 % 4294967296) ⟨by omega,by omega⟩
 change wpList _ _ _ _ _ (World.setCell wt0 ⟨d,q+1,none⟩ (.int .u32 (c1 % 4294967296)))
 generalize World.setCell wt0 ⟨d,q+1,none⟩ (.int .u32 (c1 % 4294967296))=wt1 at hSw hfw hT ⊢
 have t4:=q27.l (q26.l (q25.l (q24.l (q23.l (q22.l (q21.l (PL.nil _)))))))
 have f0_27:=(t4 _ (by decide)).trans (f0_20)
 have f29_27:=(t4 _ (by decide)).trans (q20.v)
 have f1_27:=(t4 _ (by decide)).trans (f1_20)
 have f2_27:=(t4 _ (by decide)).trans (f2_20)
 have f3_27:=(t4 _ (by decide)).trans (f3_20)
 have f4_27:=(t4 _ (by decide)).trans (f4_20)
 have f5_27:=(t4 _ (by decide)).trans (f5_20)
 have f6_27:=(t4 _ (by decide)).trans (f6_20)
 have f7_27:=(t4 _ (by decide)).trans (f7_20)
 have f8_27:=(t4 _ (by decide)).trans (f8_20)
 have f9_27:=(t4 _ (by decide)).trans (f9_20)
 refine Wn (Qa ?_)
 refine Sq (wp_region_lit ?_)
 show wpList _ _ _ _ _ _
 refine wP (Qg (f29_27)) zz27 dd27 rfl fun ac28 q28 zz28 dd28=>?_
 refine wP (Ko (q28.v) rfl (by omega) (by omega)) zz28 dd28 rfl fun ac29 q29 zz29 dd29=>?_
 refine wP (Qg (q29.m (q28.m f3_27 rfl) rfl)) zz29 dd29 rfl fun ac30 q30 zz30 dd30=>?_
 refine wP (exAdd (q30.m q29.v rfl) (q30.v) (by omega) (by omega)) zz30 dd30 rfl fun ac31 q31 zz31 dd31=>?_
 refine wP (Qg (q31.m (q30.m (q29.m (q28.m f9_27 rfl) rfl) rfl) rfl)) zz31 dd31 rfl fun ac32 q32 zz32 dd32=>?_
 refine wP (exMulC (q32.v) rfl (by omega) (by omega)) zz32 dd32 rfl fun ac33 q33 zz33 dd33=>?_
 refine wP (exAdd (q33.m (q32.m q31.v rfl) rfl) (q33.v) (by omega) (by omega)) zz33 dd33 rfl fun ac34 q34 zz34 dd34=>?_
 refine wP (Ji ((q34.v).trans (congrArg (Value.int .u64) k2.symm))) zz34 dd34 rfl fun ac35 q35 zz35 dd35=>?_
 have t5:=q35.l (q34.l (q33.l (q32.l (q31.l (q30.l (q29.l (q28.l (PL.nil _))))))))
 have f0_35:=(t5 _ (by decide)).trans (f0_27)
 have f1_35:=(t5 _ (by decide)).trans (f1_27)
 have f2_35:=(t5 _ (by decide)).trans (f2_27)
 have f3_35:=(t5 _ (by decide)).trans (f3_27)
 have f4_35:=(t5 _ (by decide)).trans (f4_27)
 have f5_35:=(t5 _ (by decide)).trans (f5_27)
 have f6_35:=(t5 _ (by decide)).trans (f6_27)
 have f7_35:=(t5 _ (by decide)).trans (f7_27)
 have f8_35:=(t5 _ (by decide)).trans (f8_27)
 have f9_35:=(t5 _ (by decide)).trans (f9_27)
 refine Wn (Qa ?_)
 refine Sq (wp_region_lit ?_)
 show wpList _ _ _ _ _ _
 refine wP (Qg (f0_35)) zz35 dd35 rfl fun ac36 q36 zz36 dd36=>?_
 refine wP (Qg (q36.m q35.v rfl)) zz36 dd36 rfl fun ac37 q37 zz37 dd37=>?_
 refine wP (exAndM (q37.v) rfl (by omega) (by omega)) zz37 dd37 rfl fun ac38 q38 zz38 dd38=>?_
 refine wP (Jk (q38.v) ⟨by omega,by omega⟩) zz38 dd38 rfl fun ac39 q39 zz39 dd39=>?_
 refine wP (J4 (q39.m (q38.m (q37.m q36.v rfl) rfl) rfl)) zz39 dd39 rfl fun ac40 q40 zz40 dd40=>?_
 refine wP (Q7 (q40.v)) zz40 dd40 rfl fun ac41 q41 zz41 dd41=>?_
 refine wP (Q6 (i:=2) (q41.v) rfl (by decide)) zz41 dd41 rfl fun ac42 q42 zz42 dd42=>?_
 refine J2 (Jv (q42.v) (q42.m (q41.m (q40.m q39.v rfl) rfl) rfl) hSw.2.2.1 hfw.2.2.1) ?_
 replace hfw:=F8.fr ((Fr.refl (Rng d q 8) _).setCell (b:=d) (o:=q+2) (fun _=>⟨rfl,by omega,by omega⟩) (.int .u32 (c2 % 4294967296))) hSw.lt hfw
 replace hT:=hT.setCell (b:=d) (o:=q+2) (fun _=>.inl ⟨rfl,by omega,by omega⟩) (.int .u32 (c2 % 4294967296))
 replace hSw:=hSw.set2 (c2 % 4294967296) ⟨by omega,by omega⟩
 change wpList _ _ _ _ _ (World.setCell wt1 ⟨d,q+2,none⟩ (.int .u32 (c2 % 4294967296)))
 generalize World.setCell wt1 ⟨d,q+2,none⟩ (.int .u32 (c2 % 4294967296))=wt2 at hSw hfw hT ⊢
 have t6:=q42.l (q41.l (q40.l (q39.l (q38.l (q37.l (q36.l (PL.nil _)))))))
 have f0_42:=(t6 _ (by decide)).trans (f0_35)
 have f29_42:=(t6 _ (by decide)).trans (q35.v)
 have f1_42:=(t6 _ (by decide)).trans (f1_35)
 have f2_42:=(t6 _ (by decide)).trans (f2_35)
 have f3_42:=(t6 _ (by decide)).trans (f3_35)
 have f4_42:=(t6 _ (by decide)).trans (f4_35)
 have f5_42:=(t6 _ (by decide)).trans (f5_35)
 have f6_42:=(t6 _ (by decide)).trans (f6_35)
 have f7_42:=(t6 _ (by decide)).trans (f7_35)
 have f8_42:=(t6 _ (by decide)).trans (f8_35)
 have f9_42:=(t6 _ (by decide)).trans (f9_35)
 refine Wn (Qa ?_)
 refine Sq (wp_region_lit ?_)
 show wpList _ _ _ _ _ _
 refine wP (Qg (f29_42)) zz42 dd42 rfl fun ac43 q43 zz43 dd43=>?_
 refine wP (Ko (q43.v) rfl (by omega) (by omega)) zz43 dd43 rfl fun ac44 q44 zz44 dd44=>?_
 refine wP (Qg (q44.m (q43.m f4_42 rfl) rfl)) zz44 dd44 rfl fun ac45 q45 zz45 dd45=>?_
 refine wP (exAdd (q45.m q44.v rfl) (q45.v) (by omega) (by omega)) zz45 dd45 rfl fun ac46 q46 zz46 dd46=>?_
 refine wP (Qg (q46.m (q45.m (q44.m (q43.m f9_42 rfl) rfl) rfl) rfl)) zz46 dd46 rfl fun ac47 q47 zz47 dd47=>?_
 refine wP (exMulC (q47.v) rfl (by omega) (by omega)) zz47 dd47 rfl fun ac48 q48 zz48 dd48=>?_
 refine wP (exAdd (q48.m (q47.m q46.v rfl) rfl) (q48.v) (by omega) (by omega)) zz48 dd48 rfl fun ac49 q49 zz49 dd49=>?_
 refine wP (Ji ((q49.v).trans (congrArg (Value.int .u64) k3.symm))) zz49 dd49 rfl fun ac50 q50 zz50 dd50=>?_
 have t7:=q50.l (q49.l (q48.l (q47.l (q46.l (q45.l (q44.l (q43.l (PL.nil _))))))))
 have f0_50:=(t7 _ (by decide)).trans (f0_42)
 have f1_50:=(t7 _ (by decide)).trans (f1_42)
 have f2_50:=(t7 _ (by decide)).trans (f2_42)
 have f3_50:=(t7 _ (by decide)).trans (f3_42)
 have f4_50:=(t7 _ (by decide)).trans (f4_42)
 have f5_50:=(t7 _ (by decide)).trans (f5_42)
 have f6_50:=(t7 _ (by decide)).trans (f6_42)
 have f7_50:=(t7 _ (by decide)).trans (f7_42)
 have f8_50:=(t7 _ (by decide)).trans (f8_42)
 have f9_50:=(t7 _ (by decide)).trans (f9_42)
 refine Wn (Qa ?_)
 refine Sq (wp_region_lit ?_)
 show wpList _ _ _ _ _ _
 refine wP (Qg (f0_50)) zz50 dd50 rfl fun ac51 q51 zz51 dd51=>?_
 refine wP (Qg (q51.m q50.v rfl)) zz51 dd51 rfl fun ac52 q52 zz52 dd52=>?_
 refine wP (exAndM (q52.v) rfl (by omega) (by omega)) zz52 dd52 rfl fun ac53 q53 zz53 dd53=>?_
 refine wP (Jk (q53.v) ⟨by omega,by omega⟩) zz53 dd53 rfl fun ac54 q54 zz54 dd54=>?_
 refine wP (J4 (q54.m (q53.m (q52.m q51.v rfl) rfl) rfl)) zz54 dd54 rfl fun ac55 q55 zz55 dd55=>?_
 refine wP (Q7 (q55.v)) zz55 dd55 rfl fun ac56 q56 zz56 dd56=>?_
 refine wP (Q6 (i:=3) (q56.v) rfl (by decide)) zz56 dd56 rfl fun ac57 q57 zz57 dd57=>?_
 refine J2 (Jv (q57.v) (q57.m (q56.m (q55.m q54.v rfl) rfl) rfl) hSw.2.2.2.1 hfw.2.2.2.1) ?_
 replace hfw:=F8.fr ((Fr.refl (Rng d q 8) _).setCell (b:=d) (o:=q+3) (fun _=>⟨rfl,by omega,by omega⟩) (.int .u32 (c3 % 4294967296))) hSw.lt hfw
 replace hT:=hT.setCell (b:=d) (o:=q+3) (fun _=>.inl ⟨rfl,by omega,by omega⟩) (.int .u32 (c3 % 4294967296))
 replace hSw:=hSw.set3 (c3 % 4294967296) ⟨by omega,by omega⟩
 change wpList _ _ _ _ _ (World.setCell wt2 ⟨d,q+3,none⟩ (.int .u32 (c3 % 4294967296)))
 generalize World.setCell wt2 ⟨d,q+3,none⟩ (.int .u32 (c3 % 4294967296))=wt3 at hSw hfw hT ⊢
 have t8:=q57.l (q56.l (q55.l (q54.l (q53.l (q52.l (q51.l (PL.nil _)))))))
 have f0_57:=(t8 _ (by decide)).trans (f0_50)
 have f29_57:=(t8 _ (by decide)).trans (q50.v)
 have f1_57:=(t8 _ (by decide)).trans (f1_50)
 have f2_57:=(t8 _ (by decide)).trans (f2_50)
 have f3_57:=(t8 _ (by decide)).trans (f3_50)
 have f4_57:=(t8 _ (by decide)).trans (f4_50)
 have f5_57:=(t8 _ (by decide)).trans (f5_50)
 have f6_57:=(t8 _ (by decide)).trans (f6_50)
 have f7_57:=(t8 _ (by decide)).trans (f7_50)
 have f8_57:=(t8 _ (by decide)).trans (f8_50)
 have f9_57:=(t8 _ (by decide)).trans (f9_50)
 refine Wn (Qa ?_)
 refine Sq (wp_region_lit ?_)
 show wpList _ _ _ _ _ _
 refine wP (Qg (f29_57)) zz57 dd57 rfl fun ac58 q58 zz58 dd58=>?_
 refine wP (Ko (q58.v) rfl (by omega) (by omega)) zz58 dd58 rfl fun ac59 q59 zz59 dd59=>?_
 refine wP (Qg (q59.m (q58.m f5_57 rfl) rfl)) zz59 dd59 rfl fun ac60 q60 zz60 dd60=>?_
 refine wP (exAdd (q60.m q59.v rfl) (q60.v) (by omega) (by omega)) zz60 dd60 rfl fun ac61 q61 zz61 dd61=>?_
 refine wP (Qg (q61.m (q60.m (q59.m (q58.m f9_57 rfl) rfl) rfl) rfl)) zz61 dd61 rfl fun ac62 q62 zz62 dd62=>?_
 refine wP (exAdd (q62.m q61.v rfl) (q62.v) (by omega) (by omega)) zz62 dd62 rfl fun ac63 q63 zz63 dd63=>?_
 refine wP (Ji ((q63.v).trans (congrArg (Value.int .u64) k4.symm))) zz63 dd63 rfl fun ac64 q64 zz64 dd64=>?_
 have t9:=q64.l (q63.l (q62.l (q61.l (q60.l (q59.l (q58.l (PL.nil _)))))))
 have f0_64:=(t9 _ (by decide)).trans (f0_57)
 have f1_64:=(t9 _ (by decide)).trans (f1_57)
 have f2_64:=(t9 _ (by decide)).trans (f2_57)
 have f3_64:=(t9 _ (by decide)).trans (f3_57)
 have f4_64:=(t9 _ (by decide)).trans (f4_57)
 have f5_64:=(t9 _ (by decide)).trans (f5_57)
 have f6_64:=(t9 _ (by decide)).trans (f6_57)
 have f7_64:=(t9 _ (by decide)).trans (f7_57)
 have f8_64:=(t9 _ (by decide)).trans (f8_57)
 have f9_64:=(t9 _ (by decide)).trans (f9_57)
 refine Wn (Qa ?_)
 refine Sq (wp_region_lit ?_)
 show wpList _ _ _ _ _ _
 refine wP (Qg (f0_64)) zz64 dd64 rfl fun ac65 q65 zz65 dd65=>?_
 refine wP (Qg (q65.m q64.v rfl)) zz65 dd65 rfl fun ac66 q66 zz66 dd66=>?_
 refine wP (exAndM (q66.v) rfl (by omega) (by omega)) zz66 dd66 rfl fun ac67 q67 zz67 dd67=>?_
 refine wP (Jk (q67.v) ⟨by omega,by omega⟩) zz67 dd67 rfl fun ac68 q68 zz68 dd68=>?_
 refine wP (J4 (q68.m (q67.m (q66.m q65.v rfl) rfl) rfl)) zz68 dd68 rfl fun ac69 q69 zz69 dd69=>?_
 refine wP (Q7 (q69.v)) zz69 dd69 rfl fun ac70 q70 zz70 dd70=>?_
 refine wP (Q6 (i:=4) (q70.v) rfl (by decide)) zz70 dd70 rfl fun ac71 q71 zz71 dd71=>?_
 refine J2 (Jv (q71.v) (q71.m (q70.m (q69.m q68.v rfl) rfl) rfl) hSw.2.2.2.2.1 hfw.2.2.2.2.1) ?_
 replace hfw:=F8.fr ((Fr.refl (Rng d q 8) _).setCell (b:=d) (o:=q+4) (fun _=>⟨rfl,by omega,by omega⟩) (.int .u32 (c4 % 4294967296))) hSw.lt hfw
 replace hT:=hT.setCell (b:=d) (o:=q+4) (fun _=>.inl ⟨rfl,by omega,by omega⟩) (.int .u32 (c4 % 4294967296))
 replace hSw:=hSw.set4 (c4 % 4294967296) ⟨by omega,by omega⟩
 change wpList _ _ _ _ _ (World.setCell wt3 ⟨d,q+4,none⟩ (.int .u32 (c4 % 4294967296)))
 generalize World.setCell wt3 ⟨d,q+4,none⟩ (.int .u32 (c4 % 4294967296))=wt4 at hSw hfw hT ⊢
 have t10:=q71.l (q70.l (q69.l (q68.l (q67.l (q66.l (q65.l (PL.nil _)))))))
 have f0_71:=(t10 _ (by decide)).trans (f0_64)
 have f29_71:=(t10 _ (by decide)).trans (q64.v)
 have f1_71:=(t10 _ (by decide)).trans (f1_64)
 have f2_71:=(t10 _ (by decide)).trans (f2_64)
 have f3_71:=(t10 _ (by decide)).trans (f3_64)
 have f4_71:=(t10 _ (by decide)).trans (f4_64)
 have f5_71:=(t10 _ (by decide)).trans (f5_64)
 have f6_71:=(t10 _ (by decide)).trans (f6_64)
 have f7_71:=(t10 _ (by decide)).trans (f7_64)
 have f8_71:=(t10 _ (by decide)).trans (f8_64)
 have f9_71:=(t10 _ (by decide)).trans (f9_64)
 refine Wn (Qa ?_)
 refine Sq (wp_region_lit ?_)
 show wpList _ _ _ _ _ _
 refine wP (Qg (f29_71)) zz71 dd71 rfl fun ac72 q72 zz72 dd72=>?_
 refine wP (Ko (q72.v) rfl (by omega) (by omega)) zz72 dd72 rfl fun ac73 q73 zz73 dd73=>?_
 refine wP (Qg (q73.m (q72.m f6_71 rfl) rfl)) zz73 dd73 rfl fun ac74 q74 zz74 dd74=>?_
 refine wP (exAdd (q74.m q73.v rfl) (q74.v) (by omega) (by omega)) zz74 dd74 rfl fun ac75 q75 zz75 dd75=>?_
 refine wP (Ji ((q75.v).trans (congrArg (Value.int .u64) k5.symm))) zz75 dd75 rfl fun ac76 q76 zz76 dd76=>?_
 have t11:=q76.l (q75.l (q74.l (q73.l (q72.l (PL.nil _)))))
 have f0_76:=(t11 _ (by decide)).trans (f0_71)
 have f1_76:=(t11 _ (by decide)).trans (f1_71)
 have f2_76:=(t11 _ (by decide)).trans (f2_71)
 have f3_76:=(t11 _ (by decide)).trans (f3_71)
 have f4_76:=(t11 _ (by decide)).trans (f4_71)
 have f5_76:=(t11 _ (by decide)).trans (f5_71)
 have f6_76:=(t11 _ (by decide)).trans (f6_71)
 have f7_76:=(t11 _ (by decide)).trans (f7_71)
 have f8_76:=(t11 _ (by decide)).trans (f8_71)
 have f9_76:=(t11 _ (by decide)).trans (f9_71)
 refine Wn (Qa ?_)
 refine Sq (wp_region_lit ?_)
 show wpList _ _ _ _ _ _
 refine wP (Qg (f0_76)) zz76 dd76 rfl fun ac77 q77 zz77 dd77=>?_
 refine wP (Qg (q77.m q76.v rfl)) zz77 dd77 rfl fun ac78 q78 zz78 dd78=>?_
 refine wP (exAndM (q78.v) rfl (by omega) (by omega)) zz78 dd78 rfl fun ac79 q79 zz79 dd79=>?_
 refine wP (Jk (q79.v) ⟨by omega,by omega⟩) zz79 dd79 rfl fun ac80 q80 zz80 dd80=>?_
 refine wP (J4 (q80.m (q79.m (q78.m q77.v rfl) rfl) rfl)) zz80 dd80 rfl fun ac81 q81 zz81 dd81=>?_
 refine wP (Q7 (q81.v)) zz81 dd81 rfl fun ac82 q82 zz82 dd82=>?_
 refine wP (Q6 (i:=5) (q82.v) rfl (by decide)) zz82 dd82 rfl fun ac83 q83 zz83 dd83=>?_
 refine J2 (Jv (q83.v) (q83.m (q82.m (q81.m q80.v rfl) rfl) rfl) hSw.2.2.2.2.2.1 hfw.2.2.2.2.2.1) ?_
 replace hfw:=F8.fr ((Fr.refl (Rng d q 8) _).setCell (b:=d) (o:=q+5) (fun _=>⟨rfl,by omega,by omega⟩) (.int .u32 (c5 % 4294967296))) hSw.lt hfw
 replace hT:=hT.setCell (b:=d) (o:=q+5) (fun _=>.inl ⟨rfl,by omega,by omega⟩) (.int .u32 (c5 % 4294967296))
 replace hSw:=hSw.set5 (c5 % 4294967296) ⟨by omega,by omega⟩
 change wpList _ _ _ _ _ (World.setCell wt4 ⟨d,q+5,none⟩ (.int .u32 (c5 % 4294967296)))
 generalize World.setCell wt4 ⟨d,q+5,none⟩ (.int .u32 (c5 % 4294967296))=wt5 at hSw hfw hT ⊢
 have t12:=q83.l (q82.l (q81.l (q80.l (q79.l (q78.l (q77.l (PL.nil _)))))))
 have f0_83:=(t12 _ (by decide)).trans (f0_76)
 have f29_83:=(t12 _ (by decide)).trans (q76.v)
 have f1_83:=(t12 _ (by decide)).trans (f1_76)
 have f2_83:=(t12 _ (by decide)).trans (f2_76)
 have f3_83:=(t12 _ (by decide)).trans (f3_76)
 have f4_83:=(t12 _ (by decide)).trans (f4_76)
 have f5_83:=(t12 _ (by decide)).trans (f5_76)
 have f6_83:=(t12 _ (by decide)).trans (f6_76)
 have f7_83:=(t12 _ (by decide)).trans (f7_76)
 have f8_83:=(t12 _ (by decide)).trans (f8_76)
 have f9_83:=(t12 _ (by decide)).trans (f9_76)
 refine Wn (Qa ?_)
 refine Sq (wp_region_lit ?_)
 show wpList _ _ _ _ _ _
 refine wP (Qg (f29_83)) zz83 dd83 rfl fun ac84 q84 zz84 dd84=>?_
 refine wP (Ko (q84.v) rfl (by omega) (by omega)) zz84 dd84 rfl fun ac85 q85 zz85 dd85=>?_
 refine wP (Qg (q85.m (q84.m f7_83 rfl) rfl)) zz85 dd85 rfl fun ac86 q86 zz86 dd86=>?_
 refine wP (exAdd (q86.m q85.v rfl) (q86.v) (by omega) (by omega)) zz86 dd86 rfl fun ac87 q87 zz87 dd87=>?_
 refine wP (Ji ((q87.v).trans (congrArg (Value.int .u64) k6.symm))) zz87 dd87 rfl fun ac88 q88 zz88 dd88=>?_
 have t13:=q88.l (q87.l (q86.l (q85.l (q84.l (PL.nil _)))))
 have f0_88:=(t13 _ (by decide)).trans (f0_83)
 have f1_88:=(t13 _ (by decide)).trans (f1_83)
 have f2_88:=(t13 _ (by decide)).trans (f2_83)
 have f3_88:=(t13 _ (by decide)).trans (f3_83)
 have f4_88:=(t13 _ (by decide)).trans (f4_83)
 have f5_88:=(t13 _ (by decide)).trans (f5_83)
 have f6_88:=(t13 _ (by decide)).trans (f6_83)
 have f7_88:=(t13 _ (by decide)).trans (f7_83)
 have f8_88:=(t13 _ (by decide)).trans (f8_83)
 have f9_88:=(t13 _ (by decide)).trans (f9_83)
 refine Wn (Qa ?_)
 refine Sq (wp_region_lit ?_)
 show wpList _ _ _ _ _ _
 refine wP (Qg (f0_88)) zz88 dd88 rfl fun ac89 q89 zz89 dd89=>?_
 refine wP (Qg (q89.m q88.v rfl)) zz89 dd89 rfl fun ac90 q90 zz90 dd90=>?_
 refine wP (exAndM (q90.v) rfl (by omega) (by omega)) zz90 dd90 rfl fun ac91 q91 zz91 dd91=>?_
 refine wP (Jk (q91.v) ⟨by omega,by omega⟩) zz91 dd91 rfl fun ac92 q92 zz92 dd92=>?_
 refine wP (J4 (q92.m (q91.m (q90.m q89.v rfl) rfl) rfl)) zz92 dd92 rfl fun ac93 q93 zz93 dd93=>?_
 refine wP (Q7 (q93.v)) zz93 dd93 rfl fun ac94 q94 zz94 dd94=>?_
 refine wP (Q6 (i:=6) (q94.v) rfl (by decide)) zz94 dd94 rfl fun ac95 q95 zz95 dd95=>?_
 refine J2 (Jv (q95.v) (q95.m (q94.m (q93.m q92.v rfl) rfl) rfl) hSw.2.2.2.2.2.2.1 hfw.2.2.2.2.2.2.1) ?_
 replace hfw:=F8.fr ((Fr.refl (Rng d q 8) _).setCell (b:=d) (o:=q+6) (fun _=>⟨rfl,by omega,by omega⟩) (.int .u32 (c6 % 4294967296))) hSw.lt hfw
 replace hT:=hT.setCell (b:=d) (o:=q+6) (fun _=>.inl ⟨rfl,by omega,by omega⟩) (.int .u32 (c6 % 4294967296))
 replace hSw:=hSw.set6 (c6 % 4294967296) ⟨by omega,by omega⟩
 change wpList _ _ _ _ _ (World.setCell wt5 ⟨d,q+6,none⟩ (.int .u32 (c6 % 4294967296)))
 generalize World.setCell wt5 ⟨d,q+6,none⟩ (.int .u32 (c6 % 4294967296))=wt6 at hSw hfw hT ⊢
 have t14:=q95.l (q94.l (q93.l (q92.l (q91.l (q90.l (q89.l (PL.nil _)))))))
 have f0_95:=(t14 _ (by decide)).trans (f0_88)
 have f29_95:=(t14 _ (by decide)).trans (q88.v)
 have f1_95:=(t14 _ (by decide)).trans (f1_88)
 have f2_95:=(t14 _ (by decide)).trans (f2_88)
 have f3_95:=(t14 _ (by decide)).trans (f3_88)
 have f4_95:=(t14 _ (by decide)).trans (f4_88)
 have f5_95:=(t14 _ (by decide)).trans (f5_88)
 have f6_95:=(t14 _ (by decide)).trans (f6_88)
 have f7_95:=(t14 _ (by decide)).trans (f7_88)
 have f8_95:=(t14 _ (by decide)).trans (f8_88)
 have f9_95:=(t14 _ (by decide)).trans (f9_88)
 refine Wn (Qa ?_)
 refine Sq (wp_region_lit ?_)
 show wpList _ _ _ _ _ _
 refine wP (Qg (f29_95)) zz95 dd95 rfl fun ac96 q96 zz96 dd96=>?_
 refine wP (Ko (q96.v) rfl (by omega) (by omega)) zz96 dd96 rfl fun ac97 q97 zz97 dd97=>?_
 refine wP (Qg (q97.m (q96.m f8_95 rfl) rfl)) zz97 dd97 rfl fun ac98 q98 zz98 dd98=>?_
 refine wP (exAdd (q98.m q97.v rfl) (q98.v) (by omega) (by omega)) zz98 dd98 rfl fun ac99 q99 zz99 dd99=>?_
 refine wP (Ji ((q99.v).trans (congrArg (Value.int .u64) k7.symm))) zz99 dd99 rfl fun ac100 q100 zz100 dd100=>?_
 have t15:=q100.l (q99.l (q98.l (q97.l (q96.l (PL.nil _)))))
 have f0_100:=(t15 _ (by decide)).trans (f0_95)
 have f1_100:=(t15 _ (by decide)).trans (f1_95)
 have f2_100:=(t15 _ (by decide)).trans (f2_95)
 have f3_100:=(t15 _ (by decide)).trans (f3_95)
 have f4_100:=(t15 _ (by decide)).trans (f4_95)
 have f5_100:=(t15 _ (by decide)).trans (f5_95)
 have f6_100:=(t15 _ (by decide)).trans (f6_95)
 have f7_100:=(t15 _ (by decide)).trans (f7_95)
 have f8_100:=(t15 _ (by decide)).trans (f8_95)
 have f9_100:=(t15 _ (by decide)).trans (f9_95)
 refine Wn (Qa ?_)
 refine Sq (wp_region_lit ?_)
 show wpList _ _ _ _ _ _
 refine wP (Qg (f0_100)) zz100 dd100 rfl fun ac101 q101 zz101 dd101=>?_
 refine wP (Qg (q101.m q100.v rfl)) zz101 dd101 rfl fun ac102 q102 zz102 dd102=>?_
 refine wP (exAndM (q102.v) rfl (by omega) (by omega)) zz102 dd102 rfl fun ac103 q103 zz103 dd103=>?_
 refine wP (Jk (q103.v) ⟨by omega,by omega⟩) zz103 dd103 rfl fun ac104 q104 zz104 dd104=>?_
 refine wP (J4 (q104.m (q103.m (q102.m q101.v rfl) rfl) rfl)) zz104 dd104 rfl fun ac105 q105 zz105 dd105=>?_
 refine wP (Q7 (q105.v)) zz105 dd105 rfl fun ac106 q106 zz106 dd106=>?_
 refine wP (Q6 (i:=7) (q106.v) rfl (by decide)) zz106 dd106 rfl fun ac107 q107 zz107 dd107=>?_
 refine J2 (Jv (q107.v) (q107.m (q106.m (q105.m q104.v rfl) rfl) rfl) hSw.2.2.2.2.2.2.2.1 hfw.2.2.2.2.2.2.2) ?_
 replace hfw:=F8.fr ((Fr.refl (Rng d q 8) _).setCell (b:=d) (o:=q+7) (fun _=>⟨rfl,by omega,by omega⟩) (.int .u32 (c7 % 4294967296))) hSw.lt hfw
 replace hT:=hT.setCell (b:=d) (o:=q+7) (fun _=>.inl ⟨rfl,by omega,by omega⟩) (.int .u32 (c7 % 4294967296))
 replace hSw:=hSw.set7 (c7 % 4294967296) ⟨by omega,by omega⟩
 change wpList _ _ _ _ _ (World.setCell wt6 ⟨d,q+7,none⟩ (.int .u32 (c7 % 4294967296)))
 generalize World.setCell wt6 ⟨d,q+7,none⟩ (.int .u32 (c7 % 4294967296))=wt7 at hSw hfw hT ⊢
 have t16:=q107.l (q106.l (q105.l (q104.l (q103.l (q102.l (q101.l (PL.nil _)))))))
 have f0_107:=(t16 _ (by decide)).trans (f0_100)
 have f29_107:=(t16 _ (by decide)).trans (q100.v)
 have f1_107:=(t16 _ (by decide)).trans (f1_100)
 have f2_107:=(t16 _ (by decide)).trans (f2_100)
 have f3_107:=(t16 _ (by decide)).trans (f3_100)
 have f4_107:=(t16 _ (by decide)).trans (f4_100)
 have f5_107:=(t16 _ (by decide)).trans (f5_100)
 have f6_107:=(t16 _ (by decide)).trans (f6_100)
 have f7_107:=(t16 _ (by decide)).trans (f7_100)
 have f8_107:=(t16 _ (by decide)).trans (f8_100)
 have f9_107:=(t16 _ (by decide)).trans (f9_100)
 refine Wn (Qa ?_)
 refine wp_region_lit ?_
 show wpList _ _ _ _ _ _
 refine wP (Qg (f0_107)) zz107 dd107 rfl fun ac108 q108 zz108 dd108=>?_
 refine wP (Qg (q108.m f29_107 rfl)) zz108 dd108 rfl fun ac109 q109 zz109 dd109=>?_
 refine wP (Ko (q109.v) rfl (by omega) (by omega)) zz109 dd109 rfl fun ac110 q110 zz110 dd110=>?_
 refine wP (Jk (q110.v) ⟨by omega,by omega⟩) zz110 dd110 rfl fun ac111 q111 zz111 dd111=>?_
 refine wP (Qg (q111.m (q110.m (q109.m (q108.m f0_107 rfl) rfl) rfl) rfl)) zz111 dd111 rfl fun ac112 q112 zz112 dd112=>?_
 refine wlCall (exCall1 (q112.v) rfl (by go_simp)) (overflows d q (c0 % 4294967296) (c1 % 4294967296) (c2 % 4294967296) (c3 % 4294967296) (c4 % 4294967296) (c5 % 4294967296) (c6 % 4294967296) (c7 % 4294967296) _ hSw) (ltz zz112 rfl) ?_
 rintro e w' ⟨rfl,rfl⟩
 refine ⟨_,rfl,fun ac113 q113=>?_⟩
 have zz113:=q113.z.trans zz112
 have dd113:=q113.f.trans dd112
 refine wP (exAdd32 (q113.m (q112.m q111.v rfl) rfl) (q113.v) (by omega) (by omega)) zz113 dd113 rfl fun ac114 q114 zz114 dd114=>?_
 refine wlCall (exCall2 (q114.m (q113.m (q112.m (q111.m (q110.m (q109.m q108.v rfl) rfl) rfl) rfl) rfl) rfl) (q114.v) rfl (by go_simp)) (reduce256g d q _ _ _ ⟨_,_,_,_,_,_,_,_,hSw,rfl⟩ hfw AA1) (ltz zz114 rfl) ?_
 rintro e w' ⟨rfl,hR,hFR⟩
 refine ⟨_,rfl,fun aE qE=>Wn ?_⟩
 rw [AA5] at hR
 refine endA rfl (qE.f.trans dd114) ⟨rfl,hR,?_⟩
 refine ((hF0.mono (fun _ _ _ f=>f.elim)).trans ((h.fr.mono (T:=Or2 (Rng d q 8) (Rng g 0 3)) (fun _ _ _ f=>.inr f)).trans (hT.trans (hFR.mono (fun _ _ _ f=>.inl f))))).mono (fun k o hk f=>?_)
 rcases f with f | f
 ·exact f
 have:=f.1;omega
theorem exCall14 {ρ:Operand->Value} {w:World} {d:Option Nat} {ty:TypeId} {pos:String} {after:Array Edge} {g:Option (Nat × Bool)} {f:FuncId} {x0 x1 x2 x3 x4 x5 x6 x7 x8 x9 x10 x11 x12 x13:Operand} {y0 y1 y2 y3 y4 y5 y6 y7 y8 y9 y10 y11 y12 y13:Value} {ts:Array TypeId} (h0:ρ x0=y0) (h1:ρ x1=y1) (h2:ρ x2=y2) (h3:ρ x3=y3) (h4:ρ x4=y4) (h5:ρ x5=y5) (h6:ρ x6=y6) (h7:ρ x7=y7) (h8:ρ x8=y8) (h9:ρ x9=y9) (h10:ρ x10=y10) (h11:ρ x11=y11) (h12:ρ x12=y12) (h13:ρ x13=y13) (hf:ρ (.func f)=.func (.func f) #[] #[])
 (hF:(callFunc f #[y0,y1,y2,y3,y4,y5,y6,y7,y8,y9,y10,y11,y12,y13]).run Tryz.prog w=.ok (.enter f #[y0,y1,y2,y3,y4,y5,y6,y7,y8,y9,y10,y11,y12,y13]) w):
 (execOp ρ ⟨d,.call { callee:=.value (.func f),args:=#[x0,x1,x2,x3,x4,x5,x6,x7,x8,x9,x10,x11,x12,x13],argTypes:=ts},ty,pos,after,g⟩).run Tryz.prog w=.ok (.enter f #[y0,y1,y2,y3,y4,y5,y6,y7,y8,y9,y10,y11,y12,y13]) w:=by
 simp only [execOp];go_simp
def Kj (v1 v2 v3 v4 v5 v6 v7 v8 v9 v10 v11 v12 v13 v14 v15 v16:Int):Int:=v1+4294967296*v2+18446744073709551616*v3+79228162514264337593543950336*v4+340282366920938463463374607431768211456*v5+1461501637330902918203684832716283019655932542976*v6+6277101735386680763835789423207666416102355444464034512896*v7+26959946667150639794667015087019630673637144422540572481103610249216*v8+115792089237316195423570985008687907853269984665640564039457584007913129639936*v9+497323236409786642155382248146820840100456150797347717440463976893159497012533375533056*v10+2135987035920910082395021706169552114602704522356652769947041607822219725780640550022962086936576*v11+9173994463960286046443283581208347763186259956673124494950355357547691504353939232280074212440502746218496*v12+39402006196394479212279040100143613805079739270465446667948293404245721771497210611414266254884915640806627990306816*v13+169230328010303641331690318856389386196071598838855992136870091590247882556495704531248437872567112920983350278405979725889536*v14+726838724295606890549323807888004534353641360687318060281490199180639288113397923326191050713763565560762521606266177933534601628614656*v15+3121748550315992231381597229793166305748598142664971150859156959625371738819765620120306103063491971159826931121406622895447975679288285306290176*v16
def V16 (v1 v2 v3 v4 v5 v6 v7 v8 v9 v10 v11 v12 v13 v14 v15 v16:Int) (k:Nat):Int:=match k with | 1=>v1 | 2=>v2 | 3=>v3 | 4=>v4 | 5=>v5 | 6=>v6 | 7=>v7 | 8=>v8 | 9=>v9 | 10=>v10 | 11=>v11 | 12=>v12 | 13=>v13 | 14=>v14 | 15=>v15 | 16=>v16 | _=>0
set_option maxHeartbeats 4000000 in
theorem arith512 {v1 v2 v3 v4 v5 v6 v7 v8 v9 v10 v11 v12 v13 v14 v15 v16 A1 A2 A3 A4 A5 A6 A7 A8 A9 A10 A11 A12 A13:Int} (u1:U32 v1) (u2:U32 v2) (u3:U32 v3) (u4:U32 v4) (u5:U32 v5) (u6:U32 v6) (u7:U32 v7) (u8:U32 v8) (u9:U32 v9) (u10:U32 v10) (u11:U32 v11) (u12:U32 v12) (u13:U32 v13) (u14:U32 v14) (u15:U32 v15) (u16:U32 v16) (h1:A1=v1+v9*801750719) (h2:A2=A1 / 4294967296+v2+v9*1076732275+v10*801750719) (h3:A3=A2 / 4294967296+v3+v9*1354194884+v10*1076732275+v11*801750719) (h4:A4=A3 / 4294967296+v4+v9*1162945305+v10*1354194884+v11*1076732275+v12*801750719) (h5:A5=A4 / 4294967296+v5+v9+v10*1162945305+v11*1354194884+v12*1076732275+v13*801750719) (h6:A6=A5 / 4294967296+v6+v10+v11*1162945305+v12*1354194884+v13*1076732275+v14*801750719) (h7:A7=A6 / 4294967296+v7+v11+v12*1162945305+v13*1354194884+v14*1076732275+v15*801750719) (h8:A8=A7 / 4294967296+v8+v12+v13*1162945305+v14*1354194884+v15*1076732275+v16*801750719) (h9:A9=A8 / 4294967296+v13+v14*1162945305+v15*1354194884+v16*1076732275) (h10:A10=A9 / 4294967296+v14+v15*1162945305+v16*1354194884) (h11:A11=A10 / 4294967296+v15+v16*1162945305) (h12:A12=A11 / 4294967296+v16) (h13:A13=A12 / 4294967296):A13 % 4294967296<=3/\J5 (A1 % 4294967296) (A2 % 4294967296) (A3 % 4294967296) (A4 % 4294967296) (A5 % 4294967296) (A6 % 4294967296) (A7 % 4294967296) (A8 % 4294967296) (A9 % 4294967296) (A10 % 4294967296) (A11 % 4294967296) (A12 % 4294967296) (A13 % 4294967296) % NN=Kj v1 v2 v3 v4 v5 v6 v7 v8 v9 v10 v11 v12 v13 v14 v15 v16 % NN:=by
 unfold U32 at u1 u2 u3 u4 u5 u6 u7 u8 u9 u10 u11 u12 u13 u14 u15 u16
 obtain ⟨hi,hhi⟩:∃hi,hi=v9+4294967296*v10+18446744073709551616*v11+79228162514264337593543950336*v12+340282366920938463463374607431768211456*v13+1461501637330902918203684832716283019655932542976*v14+6277101735386680763835789423207666416102355444464034512896*v15+26959946667150639794667015087019630673637144422540572481103610249216*v16:=⟨_,rfl⟩
 obtain ⟨P1,hP1⟩:∃P,P=1*(A1 % 4294967296):=⟨_,rfl⟩
 obtain ⟨C1,hC1⟩:∃C,C=1*v1+801750719*v9:=⟨_,rfl⟩
 have s1:P1+4294967296*(A1 / 4294967296)=C1:=by
  clear h2 h3 h4 h5 h6 h7 h8 h9 h10 h11 h12 h13 u1 u2 u3 u4 u5 u6 u7 u8 u9 u10 u11 u12 u13 u14 u15 u16 hhi
  omega
 obtain ⟨P2,hP2⟩:∃P,P=P1+4294967296*(A2 % 4294967296):=⟨_,rfl⟩
 obtain ⟨C2,hC2⟩:∃C,C=C1+4294967296*v2+4624529907672678400*v9+3443493117649485824*v10:=⟨_,rfl⟩
 have s2:P2+18446744073709551616*(A2 / 4294967296)=C2:=by
  clear hP1 hC1 h1 h3 h4 h5 h6 h7 h8 h9 h10 h11 h12 h13 u1 u2 u3 u4 u5 u6 u7 u8 u9 u10 u11 u12 u13 u14 u15 u16 hhi
  omega
 obtain ⟨P3,hP3⟩:∃P,P=P2+18446744073709551616*(A3 % 4294967296):=⟨_,rfl⟩
 obtain ⟨C3,hC3⟩:∃C,C=C2+18446744073709551616*v3+24980486451074793700321132544*v9+19862204712828053200725606400*v10+14789690324305622005295611904*v11:=⟨_,rfl⟩
 have s3:P3+79228162514264337593543950336*(A3 / 4294967296)=C3:=by
  clear hP1 hC1 hP2 hC2 s1 h1 h2 h4 h5 h6 h7 h8 h9 h10 h11 h12 h13 u1 u2 u3 u4 u5 u6 u7 u8 u9 u10 u11 u12 u13 u14 u15 u16 hhi
  omega
 obtain ⟨P4,hP4⟩:∃P,P=P3+79228162514264337593543950336*(A4 % 4294967296):=⟨_,rfl⟩
 obtain ⟨C4,hC4⟩:∃C,C=C3+79228162514264337593543950336*v4+92138019619740706933346935354404372480*v9+107290372345537342992826088974161281024*v10+85307519668053560168464602957768294400*v11+63521236260860280421682591939988291584*v12:=⟨_,rfl⟩
 have s4:P4+340282366920938463463374607431768211456*(A4 / 4294967296)=C4:=by
  clear hP1 hC1 hP2 hC2 hP3 hC3 s1 s2 h1 h2 h3 h5 h6 h7 h8 h9 h10 h11 h12 h13 u1 u2 u3 u4 u5 u6 u7 u8 u9 u10 u11 u12 u13 u14 u15 u16 hhi
  omega
 obtain ⟨P5,hP5⟩:∃P,P=P4+340282366920938463463374607431768211456*(A5 % 4294967296):=⟨_,rfl⟩
 obtain ⟨C5,hC5⟩:∃C,C=C4+340282366920938463463374607431768211456*v5+340282366920938463463374607431768211456*v9+395729780984992692278645539168992949361002414080*v10+460808640399745699700922814759608891027545391104*v11+366393007077166816899923720237239693593699942400*v12+272821632341884229236515821674762906976192036864*v13:=⟨_,rfl⟩
 have s5:P5+1461501637330902918203684832716283019655932542976*(A5 / 4294967296)=C5:=by
  clear hP1 hC1 hP2 hC2 hP3 hC3 hP4 hC4 s1 s2 s3 h1 h2 h3 h4 h6 h7 h8 h9 h10 h11 h12 h13 u1 u2 u3 u4 u5 u6 u7 u8 u9 u10 u11 u12 u13 u14 u15 u16 hhi
  omega
 obtain ⟨P6,hP6⟩:∃P,P=P5+1461501637330902918203684832716283019655932542976*(A6 % 4294967296):=⟨_,rfl⟩
 obtain ⟨C6,hC6⟩:∃C,C=C5+1461501637330902918203684832716283019655932542976*v6+1461501637330902918203684832716283019655932542976*v10+1699646467383786280135774309907111734760089466250649927680*v11+1979158040231132146932100470412786288714135289947209334784*v12+1573645982879528026921592483313597845298001964245083750400*v13+1171759988549728655589002503079674634016635048946506399744*v14:=⟨_,rfl⟩
 have s6:P6+6277101735386680763835789423207666416102355444464034512896*(A6 / 4294967296)=C6:=by
  clear hP1 hC1 hP2 hC2 hP3 hC3 hP4 hC4 hP5 hC5 s1 s2 s3 s4 h1 h2 h3 h4 h5 h7 h8 h9 h10 h11 h12 h13 u1 u2 u3 u4 u5 u6 u7 u8 u9 u10 u11 u12 u13 u14 u15 u16 hhi
  omega
 obtain ⟨P7,hP7⟩:∃P,P=P6+6277101735386680763835789423207666416102355444464034512896*(A7 % 4294967296):=⟨_,rfl⟩
 obtain ⟨C7,hC7⟩:∃C,C=C6+6277101735386680763835789423207666416102355444464034512896*v7+6277101735386680763835789423207666416102355444464034512896*v11+7299925992175292753836645100688013698612410663580637178130365153280*v12+8500419056408164852127638253009132730264424963242741659363195224064*v13+6758758031949348783543647272071328457650985810576396036749026918400*v14+5032670829582419045428813367989341835422216655192604240355182772224*v15:=⟨_,rfl⟩
 have s7:P7+26959946667150639794667015087019630673637144422540572481103610249216*(A7 / 4294967296)=C7:=by
  clear hP1 hC1 hP2 hC2 hP3 hC3 hP4 hC4 hP5 hC5 hP6 hC6 s1 s2 s3 s4 s5 h1 h2 h3 h4 h5 h6 h8 h9 h10 h11 h12 h13 u1 u2 u3 u4 u5 u6 u7 u8 u9 u10 u11 u12 u13 u14 u15 u16 hhi
  omega
 obtain ⟨P8,hP8⟩:∃P,P=P7+26959946667150639794667015087019630673637144422540572481103610249216*(A8 % 4294967296):=⟨_,rfl⟩
 obtain ⟨C8,hC8⟩:∃C,C=C7+26959946667150639794667015087019630673637144422540572481103610249216*v8+26959946667150639794667015087019630673637144422540572481103610249216*v12+31352943399613234276954169233813645934740304379800494938911644757875627130880*v13+36509021849568247267264882314392798665808894649373577536341695673418272210944*v14+29028644708799776153817348022105969904885105038585671887381084774351660646400*v15+21615156624589679136684291711601836459703034885878743793396433430804697186304*v16:=⟨_,rfl⟩
 have s8:P8+115792089237316195423570985008687907853269984665640564039457584007913129639936*(A8 / 4294967296)=C8:=by
  clear hP1 hC1 hP2 hC2 hP3 hC3 hP4 hC4 hP5 hC5 hP6 hC6 hP7 hC7 s1 s2 s3 s4 s5 s6 h1 h2 h3 h4 h5 h6 h7 h9 h10 h11 h12 h13 u1 u2 u3 u4 u5 u6 u7 u8 u9 u10 u11 u12 u13 u14 u15 u16 hhi
  omega
 obtain ⟨P9,hP9⟩:∃P,P=P8+115792089237316195423570985008687907853269984665640564039457584007913129639936*(A9 % 4294967296):=⟨_,rfl⟩
 obtain ⟨C9,hC9⟩:∃C,C=C8+115792089237316195423570985008687907853269984665640564039457584007913129639936*v13+134659866534677900268304363350078986648232957564328688767239032068645656962619911700480*v14+156805054852845053732944040909605860367561635904968902405107834398516175674830093287424*v15+124677079671498481992766175312395425787841756778250278850488354194843922079578220134400*v16:=⟨_,rfl⟩
 have s9:P9+497323236409786642155382248146820840100456150797347717440463976893159497012533375533056*(A9 / 4294967296)=C9:=by
  clear hP1 hC1 hP2 hC2 hP3 hC3 hP4 hC4 hP5 hC5 hP6 hC6 hP7 hC7 hP8 hC8 s1 s2 s3 s4 s5 s6 s7 h1 h2 h3 h4 h5 h6 h7 h8 h10 h11 h12 h13 u1 u2 u3 u4 u5 u6 u7 u8 u9 u10 u11 u12 u13 u14 u15 u16 hhi
  omega
 obtain ⟨P10,hP10⟩:∃P,P=P9+497323236409786642155382248146820840100456150797347717440463976893159497012533375533056*(A10 % 4294967296):=⟨_,rfl⟩
 obtain ⟨C10,hC10⟩:∃C,C=C9+497323236409786642155382248146820840100456150797347717440463976893159497012533375533056*v14+578359722850166431546316865962690246670981208928147534449854198949528323666887215231969347502080*v15+673472582440455598338357373504843262528619765476100799726953892095010805450385981026115208085504*v16:=⟨_,rfl⟩
 have s10:P10+2135987035920910082395021706169552114602704522356652769947041607822219725780640550022962086936576*(A10 / 4294967296)=C10:=by
  clear hP1 hC1 hP2 hC2 hP3 hC3 hP4 hC4 hP5 hC5 hP6 hC6 hP7 hC7 hP8 hC8 hP9 hC9 s1 s2 s3 s4 s5 s6 s7 s8 h1 h2 h3 h4 h5 h6 h7 h8 h9 h11 h12 h13 u1 u2 u3 u4 u5 u6 u7 u8 u9 u10 u11 u12 u13 u14 u15 u16 hhi
  omega
 obtain ⟨P11,hP11⟩:∃P,P=P10+2135987035920910082395021706169552114602704522356652769947041607822219725780640550022962086936576*(A11 % 4294967296):=⟨_,rfl⟩
 obtain ⟨C11,hC11⟩:∃C,C=C10+2135987035920910082395021706169552114602704522356652769947041607822219725780640550022962086936576*v15+2484036094965088731648453648562970165630037164576936874325157136456501704774983387541821401195892891975680*v16:=⟨_,rfl⟩
 have s11:P11+9173994463960286046443283581208347763186259956673124494950355357547691504353939232280074212440502746218496*(A11 / 4294967296)=C11:=by
  clear hP1 hC1 hP2 hC2 hP3 hC3 hP4 hC4 hP5 hC5 hP6 hC6 hP7 hC7 hP8 hC8 hP9 hC9 hP10 hC10 s1 s2 s3 s4 s5 s6 s7 s8 s9 h1 h2 h3 h4 h5 h6 h7 h8 h9 h10 h12 h13 u1 u2 u3 u4 u5 u6 u7 u8 u9 u10 u11 u12 u13 u14 u15 u16 hhi
  omega
 obtain ⟨P12,hP12⟩:∃P,P=P11+9173994463960286046443283581208347763186259956673124494950355357547691504353939232280074212440502746218496*(A12 % 4294967296):=⟨_,rfl⟩
 obtain ⟨C12,hC12⟩:∃C,C=C11+9173994463960286046443283581208347763186259956673124494950355357547691504353939232280074212440502746218496*v16:=⟨_,rfl⟩
 have s12:P12+39402006196394479212279040100143613805079739270465446667948293404245721771497210611414266254884915640806627990306816*(A12 / 4294967296)=C12:=by
  clear hP1 hC1 hP2 hC2 hP3 hC3 hP4 hC4 hP5 hC5 hP6 hC6 hP7 hC7 hP8 hC8 hP9 hC9 hP10 hC10 hP11 hC11 s1 s2 s3 s4 s5 s6 s7 s8 s9 s10 h1 h2 h3 h4 h5 h6 h7 h8 h9 h10 h11 h13 u1 u2 u3 u4 u5 u6 u7 u8 u9 u10 u11 u12 u13 u14 u15 u16 hhi
  omega
 obtain ⟨P13,hP13⟩:∃P,P=P12+39402006196394479212279040100143613805079739270465446667948293404245721771497210611414266254884915640806627990306816*(A13 % 4294967296):=⟨_,rfl⟩
 obtain ⟨C13,hC13⟩:∃C,C=C12+0:=⟨_,rfl⟩
 have s13:P13+169230328010303641331690318856389386196071598838855992136870091590247882556495704531248437872567112920983350278405979725889536*(A13 / 4294967296)=C13:=by
  clear hP1 hC1 hP2 hC2 hP3 hC3 hP4 hC4 hP5 hC5 hP6 hC6 hP7 hC7 hP8 hC8 hP9 hC9 hP10 hC10 hP11 hC11 hP12 hC12 s1 s2 s3 s4 s5 s6 s7 s8 s9 s10 s11 h1 h2 h3 h4 h5 h6 h7 h8 h9 h10 h11 h12 u1 u2 u3 u4 u5 u6 u7 u8 u9 u10 u11 u12 u13 u14 u15 u16 hhi
  omega
 have e0:J5 (A1 % 4294967296) (A2 % 4294967296) (A3 % 4294967296) (A4 % 4294967296) (A5 % 4294967296) (A6 % 4294967296) (A7 % 4294967296) (A8 % 4294967296) (A9 % 4294967296) (A10 % 4294967296) (A11 % 4294967296) (A12 % 4294967296) (A13 % 4294967296)=P13:=by
  unfold J5;rw [hP13,hP12,hP11,hP10,hP9,hP8,hP7,hP6,hP5,hP4,hP3,hP2,hP1];clear hC1 s1 h1 hC2 s2 h2 hC3 s3 h3 hC4 s4 h4 hC5 s5 h5 hC6 s6 h6 hC7 s7 h7 hC8 s8 h8 hC9 s9 h9 hC10 s10 h10 hC11 s11 h11 hC12 s12 h12 hC13 s13 h13 hP1 hP2 hP3 hP4 hP5 hP6 hP7 hP8 hP9 hP10 hP11 hP12 hP13 hhi u1 u2 u3 u4 u5 u6 u7 u8 u9 u10 u11 u12 u13 u14 u15 u16;omega
 have e0':C13=Kj v1 v2 v3 v4 v5 v6 v7 v8 v9 v10 v11 v12 v13 v14 v15 v16 - hi*115792089237316195423570985008687907852837564279074904382605163141518161494337:=by
  unfold Kj;rw [hC13,hC12,hC11,hC10,hC9,hC8,hC7,hC6,hC5,hC4,hC3,hC2,hC1,hhi];clear hC1 s1 h1 hC2 s2 h2 hC3 s3 h3 hC4 s4 h4 hC5 s5 h5 hC6 s6 h6 hC7 s7 h7 hC8 s8 h8 hC9 s9 h9 hC10 s10 h10 hC11 s11 h11 hC12 s12 h12 hC13 s13 h13 hP1 hP2 hP3 hP4 hP5 hP6 hP7 hP8 hP9 hP10 hP11 hP12 hP13 hhi e0 u1 u2 u3 u4 u5 u6 u7 u8 u9 u10 u11 u12 u13 u14 u15 u16;omega
 have e1:J5 (A1 % 4294967296) (A2 % 4294967296) (A3 % 4294967296) (A4 % 4294967296) (A5 % 4294967296) (A6 % 4294967296) (A7 % 4294967296) (A8 % 4294967296) (A9 % 4294967296) (A10 % 4294967296) (A11 % 4294967296) (A12 % 4294967296) (A13 % 4294967296)+169230328010303641331690318856389386196071598838855992136870091590247882556495704531248437872567112920983350278405979725889536*(A13 / 4294967296)=Kj v1 v2 v3 v4 v5 v6 v7 v8 v9 v10 v11 v12 v13 v14 v15 v16 - hi*115792089237316195423570985008687907852837564279074904382605163141518161494337:=by rw [e0,s13,e0']
 clear hP1 hC1 s1 hP2 hC2 s2 hP3 hC3 s3 hP4 hC4 s4 hP5 hC5 s5 hP6 hC6 s6 hP7 hC7 s7 hP8 hC8 s8 hP9 hC9 s9 hP10 hC10 s10 hP11 hC11 s11 hP12 hC12 s12 hP13 hC13 s13 e0 e0'
 clear h1 h2 h3 h4 h5 h6 h7 h8 h9 h10 h11 h12 h13
 have b2:0<=Kj v1 v2 v3 v4 v5 v6 v7 v8 v9 v10 v11 v12 v13 v14 v15 v16 - hi*115792089237316195423570985008687907852837564279074904382605163141518161494337/\Kj v1 v2 v3 v4 v5 v6 v7 v8 v9 v10 v11 v12 v13 v14 v15 v16 - hi*115792089237316195423570985008687907852837564279074904382605163141518161494337 < 78804012392788958424558080200287227610275270630168209531320157793500131450847691207494173073809288865621169110253568:=by unfold Kj;omega
 have b3:39402006196394479212279040100143613805079739270465446667948293404245721771497210611414266254884915640806627990306816*(A13 % 4294967296)<=J5 (A1 % 4294967296) (A2 % 4294967296) (A3 % 4294967296) (A4 % 4294967296) (A5 % 4294967296) (A6 % 4294967296) (A7 % 4294967296) (A8 % 4294967296) (A9 % 4294967296) (A10 % 4294967296) (A11 % 4294967296) (A12 % 4294967296) (A13 % 4294967296):=by unfold J5;omega
 have b4:0<=J5 (A1 % 4294967296) (A2 % 4294967296) (A3 % 4294967296) (A4 % 4294967296) (A5 % 4294967296) (A6 % 4294967296) (A7 % 4294967296) (A8 % 4294967296) (A9 % 4294967296) (A10 % 4294967296) (A11 % 4294967296) (A12 % 4294967296) (A13 % 4294967296)/\J5 (A1 % 4294967296) (A2 % 4294967296) (A3 % 4294967296) (A4 % 4294967296) (A5 % 4294967296) (A6 % 4294967296) (A7 % 4294967296) (A8 % 4294967296) (A9 % 4294967296) (A10 % 4294967296) (A11 % 4294967296) (A12 % 4294967296) (A13 % 4294967296) < 169230328010303641331690318856389386196071598838855992136870091590247882556495704531248437872567112920983350278405979725889536:=by unfold J5;omega
 clear hhi u1 u2 u3 u4 u5 u6 u7 u8 u9 u10 u11 u12 u13 u14 u15 u16
 generalize J5 (A1 % 4294967296) (A2 % 4294967296) (A3 % 4294967296) (A4 % 4294967296) (A5 % 4294967296) (A6 % 4294967296) (A7 % 4294967296) (A8 % 4294967296) (A9 % 4294967296) (A10 % 4294967296) (A11 % 4294967296) (A12 % 4294967296) (A13 % 4294967296)=T at*
 generalize Kj v1 v2 v3 v4 v5 v6 v7 v8 v9 v10 v11 v12 v13 v14 v15 v16=Z at*
 have b5:A13 / 4294967296=0:=by omega
 refine ⟨by omega,?_⟩
 have e2:Z=T+NN*hi:=by unfold NN;omega
 rw [e2,Int.add_mul_emod_self_left]
set_option maxRecDepth 100000 in
set_option maxHeartbeats 4000000 in
theorem reduce512 (d q:Nat) (x v1 v2 v3 v4 v5 v6 v7 v8 v9 v10 v11 v12 v13 v14 v15 v16:Int) (w:World) (hS:Sc w d q x) (hf:F8 w d q) (u1:U32 v1) (u2:U32 v2) (u3:U32 v3) (u4:U32 v4) (u5:U32 v5) (u6:U32 v6) (u7:U32 v7) (u8:U32 v8) (u9:U32 v9) (u10:U32 v10) (u11:U32 v11) (u12:U32 v12) (u13:U32 v13) (u14:U32 v14) (u15:U32 v15) (u16:U32 v16):
 Calls Tryz.prog 57 #[.pointer (some ⟨d,q,none⟩),.int .u64 v1,.int .u64 v2,.int .u64 v3,.int .u64 v4,.int .u64 v5,.int .u64 v6,.int .u64 v7,.int .u64 v8,.int .u64 v9,.int .u64 v10,.int .u64 v11,.int .u64 v12,.int .u64 v13,.int .u64 v14,.int .u64 v15,.int .u64 v16] w fun e w'=>e=.returned (.tuple #[])/\Sc w' d q (Kj v1 v2 v3 v4 v5 v6 v7 v8 v9 v10 v11 v12 v13 v14 v15 v16 % NN)/\Fr (Rng d q 8) w w':=by
 have hld:=hS.lt
 refine enterA Tryz.func57 rfl (fun a0 z0 d0 ha=>?_)
 have e0:=ha 0 _ rfl
 have e1:=ha 1 _ rfl
 have e2:=ha 2 _ rfl
 have e3:=ha 3 _ rfl
 have e4:=ha 4 _ rfl
 have e5:=ha 5 _ rfl
 have e6:=ha 6 _ rfl
 have e7:=ha 7 _ rfl
 have e8:=ha 8 _ rfl
 have e9:=ha 9 _ rfl
 have e10:=ha 10 _ rfl
 have e11:=ha 11 _ rfl
 have e12:=ha 12 _ rfl
 have e13:=ha 13 _ rfl
 have e14:=ha 14 _ rfl
 have e15:=ha 15 _ rfl
 have e16:=ha 16 _ rfl
 replace z0:a0.tmps.size=244:=z0
 refine Sq (Ke (Qu exAlloc75 (ltz z0 rfl) fun a1 p1=>Wn (Qa ?_)))
 have z1:=p1.z.trans z0
 have d1:=p1.f.trans d0
 have hF0:Fr NoT w (w.alloc (.cells #[.int .u32 0,.int .u32 0,.int .u32 0] 75)):=(Fr.refl _ _).alloc _
 have hS0:=hS.fr hF0 (fun _ _ _ f=>f)
 have hf0:=F8.fr hF0 hld hf
 obtain ⟨hA0,hg0⟩:=allocAcc w
 obtain ⟨g,hg⟩:∃g,g=w.heap.size:=⟨_,rfl⟩
 rw [<-hg] at hA0 hg0
 have hdg:d≠g:=by omega
 have h:AM 1 17 34 g a1 (w.alloc (.cells #[.int .u32 0,.int .u32 0,.int .u32 0] 75)) (V16 v1 v2 v3 v4 v5 v6 v7 v8 v9 v10 v11 v12 v13 v14 v15 v16) 0 0 a1 (w.alloc (.cells #[.int .u32 0,.int .u32 0,.int .u32 0] 75)):=by
  refine ⟨Past.refl _ _,p1.v.trans (by rw [hg]),fun k h1 h2=>?_,hA0,hg0,by decide,by decide,Fr.refl _ _⟩
  refine (p1.n k (by omega))▸?_
  rcases k with _ | _ | _ | _ | _ | _ | _ | _ | _ | _ | _ | _ | _ | _ | _ | _ | _ | k
  ·omega
  ·exact ⟨e1,u1⟩
  ·exact ⟨e2,u2⟩
  ·exact ⟨e3,u3⟩
  ·exact ⟨e4,u4⟩
  ·exact ⟨e5,u5⟩
  ·exact ⟨e6,u6⟩
  ·exact ⟨e7,u7⟩
  ·exact ⟨e8,u8⟩
  ·exact ⟨e9,u9⟩
  ·exact ⟨e10,u10⟩
  ·exact ⟨e11,u11⟩
  ·exact ⟨e12,u12⟩
  ·exact ⟨e13,u13⟩
  ·exact ⟨e14,u14⟩
  ·exact ⟨e15,u15⟩
  ·exact ⟨e16,u16⟩
  omega
 have e0':=(p1.n 0 (by decide)).trans e0
 generalize w.alloc (.cells #[.int .u32 0,.int .u32 0,.int .u32 0] 75)=w0 at h hF0 hS0 hf0 ⊢
 refine Sq (set_region (s:=35) (src:=1) h (by decide) (by rw [z1];decide) (by decide) (fun bb0 ww0 h' zz=>Qa ?_))
 have y0:=zz.trans z1;replace h:=h';clear h' zz
 refine Sq (Qe (s:=39) (src:=9) (K:=801750719) h (by decide) (by rw [y0];decide) (by decide) (by decide) ⟨by decide,by decide⟩ (fun bb1 ww1 h' zz=>Qa ?_))
 have y1:=zz.trans y0;replace h:=h';clear h' zz
 obtain ⟨A1,hA1,h⟩:=Qs h
 refine Sq (Qi (s:=42) (d:=1) (top:=17) h (by decide) (by rw [y1];decide) (by decide) (by decide) (fun k _ hk=>.inl hk) (fun bb2 ww2 h' zz=>Qa ?_))
 have y2:=zz.trans y1;replace h:=h';clear h' zz
 refine Sq (Qj (s:=46) h (by decide) (by rw [y2];decide) (by decide) (fun bb3 ww3 h' zz=>Qa ?_))
 have y3:=zz.trans y2;replace h:=h';clear h' zz
 refine Sq (Qp (s:=47) (src:=2) h (by decide) (by rw [y3];decide) (by decide) (by decide) (fun bb4 ww4 h' zz=>Qa ?_))
 have y4:=zz.trans y3;replace h:=h';clear h' zz
 refine Sq (Qe (s:=49) (src:=9) (K:=1076732275) h (by decide) (by rw [y4];decide) (by decide) (by decide) ⟨by decide,by decide⟩ (fun bb5 ww5 h' zz=>Qa ?_))
 have y5:=zz.trans y4;replace h:=h';clear h' zz
 refine Sq (Qe (s:=52) (src:=10) (K:=801750719) h (by decide) (by rw [y5];decide) (by decide) (by decide) ⟨by decide,by decide⟩ (fun bb6 ww6 h' zz=>Qa ?_))
 have y6:=zz.trans y5;replace h:=h';clear h' zz
 obtain ⟨A2,hA2,h⟩:=Qs h
 refine Sq (Qi (s:=55) (d:=2) (top:=17) h (by decide) (by rw [y6];decide) (by decide) (by decide) (fun k _ hk=>.inl hk) (fun bb7 ww7 h' zz=>Qa ?_))
 have y7:=zz.trans y6;replace h:=h';clear h' zz
 refine Sq (Qj (s:=59) h (by decide) (by rw [y7];decide) (by decide) (fun bb8 ww8 h' zz=>Qa ?_))
 have y8:=zz.trans y7;replace h:=h';clear h' zz
 refine Sq (Qp (s:=60) (src:=3) h (by decide) (by rw [y8];decide) (by decide) (by decide) (fun bb9 ww9 h' zz=>Qa ?_))
 have y9:=zz.trans y8;replace h:=h';clear h' zz
 refine Sq (Qe (s:=62) (src:=9) (K:=1354194884) h (by decide) (by rw [y9];decide) (by decide) (by decide) ⟨by decide,by decide⟩ (fun bb10 ww10 h' zz=>Qa ?_))
 have y10:=zz.trans y9;replace h:=h';clear h' zz
 refine Sq (Qe (s:=65) (src:=10) (K:=1076732275) h (by decide) (by rw [y10];decide) (by decide) (by decide) ⟨by decide,by decide⟩ (fun bb11 ww11 h' zz=>Qa ?_))
 have y11:=zz.trans y10;replace h:=h';clear h' zz
 refine Sq (Qe (s:=68) (src:=11) (K:=801750719) h (by decide) (by rw [y11];decide) (by decide) (by decide) ⟨by decide,by decide⟩ (fun bb12 ww12 h' zz=>Qa ?_))
 have y12:=zz.trans y11;replace h:=h';clear h' zz
 obtain ⟨A3,hA3,h⟩:=Qs h
 refine Sq (Qi (s:=71) (d:=3) (top:=17) h (by decide) (by rw [y12];decide) (by decide) (by decide) (fun k _ hk=>.inl hk) (fun bb13 ww13 h' zz=>Qa ?_))
 have y13:=zz.trans y12;replace h:=h';clear h' zz
 refine Sq (Qj (s:=75) h (by decide) (by rw [y13];decide) (by decide) (fun bb14 ww14 h' zz=>Qa ?_))
 have y14:=zz.trans y13;replace h:=h';clear h' zz
 refine Sq (Qp (s:=76) (src:=4) h (by decide) (by rw [y14];decide) (by decide) (by decide) (fun bb15 ww15 h' zz=>Qa ?_))
 have y15:=zz.trans y14;replace h:=h';clear h' zz
 refine Sq (Qe (s:=78) (src:=9) (K:=1162945305) h (by decide) (by rw [y15];decide) (by decide) (by decide) ⟨by decide,by decide⟩ (fun bb16 ww16 h' zz=>Qa ?_))
 have y16:=zz.trans y15;replace h:=h';clear h' zz
 refine Sq (Qe (s:=81) (src:=10) (K:=1354194884) h (by decide) (by rw [y16];decide) (by decide) (by decide) ⟨by decide,by decide⟩ (fun bb17 ww17 h' zz=>Qa ?_))
 have y17:=zz.trans y16;replace h:=h';clear h' zz
 refine Sq (Qe (s:=84) (src:=11) (K:=1076732275) h (by decide) (by rw [y17];decide) (by decide) (by decide) ⟨by decide,by decide⟩ (fun bb18 ww18 h' zz=>Qa ?_))
 have y18:=zz.trans y17;replace h:=h';clear h' zz
 refine Sq (Qe (s:=87) (src:=12) (K:=801750719) h (by decide) (by rw [y18];decide) (by decide) (by decide) ⟨by decide,by decide⟩ (fun bb19 ww19 h' zz=>Qa ?_))
 have y19:=zz.trans y18;replace h:=h';clear h' zz
 obtain ⟨A4,hA4,h⟩:=Qs h
 refine Sq (Qi (s:=90) (d:=4) (top:=17) h (by decide) (by rw [y19];decide) (by decide) (by decide) (fun k _ hk=>.inl hk) (fun bb20 ww20 h' zz=>Qa ?_))
 have y20:=zz.trans y19;replace h:=h';clear h' zz
 refine Sq (Qj (s:=94) h (by decide) (by rw [y20];decide) (by decide) (fun bb21 ww21 h' zz=>Qa ?_))
 have y21:=zz.trans y20;replace h:=h';clear h' zz
 refine Sq (Qp (s:=95) (src:=5) h (by decide) (by rw [y21];decide) (by decide) (by decide) (fun bb22 ww22 h' zz=>Qa ?_))
 have y22:=zz.trans y21;replace h:=h';clear h' zz
 refine Sq (Qp (s:=97) (src:=9) h (by decide) (by rw [y22];decide) (by decide) (by decide) (fun bb23 ww23 h' zz=>Qa ?_))
 have y23:=zz.trans y22;replace h:=h';clear h' zz
 refine Sq (Qe (s:=99) (src:=10) (K:=1162945305) h (by decide) (by rw [y23];decide) (by decide) (by decide) ⟨by decide,by decide⟩ (fun bb24 ww24 h' zz=>Qa ?_))
 have y24:=zz.trans y23;replace h:=h';clear h' zz
 refine Sq (Qe (s:=102) (src:=11) (K:=1354194884) h (by decide) (by rw [y24];decide) (by decide) (by decide) ⟨by decide,by decide⟩ (fun bb25 ww25 h' zz=>Qa ?_))
 have y25:=zz.trans y24;replace h:=h';clear h' zz
 refine Sq (Qe (s:=105) (src:=12) (K:=1076732275) h (by decide) (by rw [y25];decide) (by decide) (by decide) ⟨by decide,by decide⟩ (fun bb26 ww26 h' zz=>Qa ?_))
 have y26:=zz.trans y25;replace h:=h';clear h' zz
 refine Sq (Qe (s:=108) (src:=13) (K:=801750719) h (by decide) (by rw [y26];decide) (by decide) (by decide) ⟨by decide,by decide⟩ (fun bb27 ww27 h' zz=>Qa ?_))
 have y27:=zz.trans y26;replace h:=h';clear h' zz
 obtain ⟨A5,hA5,h⟩:=Qs h
 refine Sq (Qi (s:=111) (d:=5) (top:=17) h (by decide) (by rw [y27];decide) (by decide) (by decide) (fun k _ hk=>.inl hk) (fun bb28 ww28 h' zz=>Qa ?_))
 have y28:=zz.trans y27;replace h:=h';clear h' zz
 refine Sq (Qj (s:=115) h (by decide) (by rw [y28];decide) (by decide) (fun bb29 ww29 h' zz=>Qa ?_))
 have y29:=zz.trans y28;replace h:=h';clear h' zz
 refine Sq (Qp (s:=116) (src:=6) h (by decide) (by rw [y29];decide) (by decide) (by decide) (fun bb30 ww30 h' zz=>Qa ?_))
 have y30:=zz.trans y29;replace h:=h';clear h' zz
 refine Sq (Qp (s:=118) (src:=10) h (by decide) (by rw [y30];decide) (by decide) (by decide) (fun bb31 ww31 h' zz=>Qa ?_))
 have y31:=zz.trans y30;replace h:=h';clear h' zz
 refine Sq (Qe (s:=120) (src:=11) (K:=1162945305) h (by decide) (by rw [y31];decide) (by decide) (by decide) ⟨by decide,by decide⟩ (fun bb32 ww32 h' zz=>Qa ?_))
 have y32:=zz.trans y31;replace h:=h';clear h' zz
 refine Sq (Qe (s:=123) (src:=12) (K:=1354194884) h (by decide) (by rw [y32];decide) (by decide) (by decide) ⟨by decide,by decide⟩ (fun bb33 ww33 h' zz=>Qa ?_))
 have y33:=zz.trans y32;replace h:=h';clear h' zz
 refine Sq (Qe (s:=126) (src:=13) (K:=1076732275) h (by decide) (by rw [y33];decide) (by decide) (by decide) ⟨by decide,by decide⟩ (fun bb34 ww34 h' zz=>Qa ?_))
 have y34:=zz.trans y33;replace h:=h';clear h' zz
 refine Sq (Qe (s:=129) (src:=14) (K:=801750719) h (by decide) (by rw [y34];decide) (by decide) (by decide) ⟨by decide,by decide⟩ (fun bb35 ww35 h' zz=>Qa ?_))
 have y35:=zz.trans y34;replace h:=h';clear h' zz
 obtain ⟨A6,hA6,h⟩:=Qs h
 refine Sq (Qi (s:=132) (d:=6) (top:=17) h (by decide) (by rw [y35];decide) (by decide) (by decide) (fun k _ hk=>.inl hk) (fun bb36 ww36 h' zz=>Qa ?_))
 have y36:=zz.trans y35;replace h:=h';clear h' zz
 refine Sq (Qj (s:=136) h (by decide) (by rw [y36];decide) (by decide) (fun bb37 ww37 h' zz=>Qa ?_))
 have y37:=zz.trans y36;replace h:=h';clear h' zz
 refine Sq (Qp (s:=137) (src:=7) h (by decide) (by rw [y37];decide) (by decide) (by decide) (fun bb38 ww38 h' zz=>Qa ?_))
 have y38:=zz.trans y37;replace h:=h';clear h' zz
 refine Sq (Qp (s:=139) (src:=11) h (by decide) (by rw [y38];decide) (by decide) (by decide) (fun bb39 ww39 h' zz=>Qa ?_))
 have y39:=zz.trans y38;replace h:=h';clear h' zz
 refine Sq (Qe (s:=141) (src:=12) (K:=1162945305) h (by decide) (by rw [y39];decide) (by decide) (by decide) ⟨by decide,by decide⟩ (fun bb40 ww40 h' zz=>Qa ?_))
 have y40:=zz.trans y39;replace h:=h';clear h' zz
 refine Sq (Qe (s:=144) (src:=13) (K:=1354194884) h (by decide) (by rw [y40];decide) (by decide) (by decide) ⟨by decide,by decide⟩ (fun bb41 ww41 h' zz=>Qa ?_))
 have y41:=zz.trans y40;replace h:=h';clear h' zz
 refine Sq (Qe (s:=147) (src:=14) (K:=1076732275) h (by decide) (by rw [y41];decide) (by decide) (by decide) ⟨by decide,by decide⟩ (fun bb42 ww42 h' zz=>Qa ?_))
 have y42:=zz.trans y41;replace h:=h';clear h' zz
 refine Sq (Qe (s:=150) (src:=15) (K:=801750719) h (by decide) (by rw [y42];decide) (by decide) (by decide) ⟨by decide,by decide⟩ (fun bb43 ww43 h' zz=>Qa ?_))
 have y43:=zz.trans y42;replace h:=h';clear h' zz
 obtain ⟨A7,hA7,h⟩:=Qs h
 refine Sq (Qi (s:=153) (d:=7) (top:=17) h (by decide) (by rw [y43];decide) (by decide) (by decide) (fun k _ hk=>.inl hk) (fun bb44 ww44 h' zz=>Qa ?_))
 have y44:=zz.trans y43;replace h:=h';clear h' zz
 refine Sq (Qj (s:=157) h (by decide) (by rw [y44];decide) (by decide) (fun bb45 ww45 h' zz=>Qa ?_))
 have y45:=zz.trans y44;replace h:=h';clear h' zz
 refine Sq (Qp (s:=158) (src:=8) h (by decide) (by rw [y45];decide) (by decide) (by decide) (fun bb46 ww46 h' zz=>Qa ?_))
 have y46:=zz.trans y45;replace h:=h';clear h' zz
 refine Sq (Qp (s:=160) (src:=12) h (by decide) (by rw [y46];decide) (by decide) (by decide) (fun bb47 ww47 h' zz=>Qa ?_))
 have y47:=zz.trans y46;replace h:=h';clear h' zz
 refine Sq (Qe (s:=162) (src:=13) (K:=1162945305) h (by decide) (by rw [y47];decide) (by decide) (by decide) ⟨by decide,by decide⟩ (fun bb48 ww48 h' zz=>Qa ?_))
 have y48:=zz.trans y47;replace h:=h';clear h' zz
 refine Sq (Qe (s:=165) (src:=14) (K:=1354194884) h (by decide) (by rw [y48];decide) (by decide) (by decide) ⟨by decide,by decide⟩ (fun bb49 ww49 h' zz=>Qa ?_))
 have y49:=zz.trans y48;replace h:=h';clear h' zz
 refine Sq (Qe (s:=168) (src:=15) (K:=1076732275) h (by decide) (by rw [y49];decide) (by decide) (by decide) ⟨by decide,by decide⟩ (fun bb50 ww50 h' zz=>Qa ?_))
 have y50:=zz.trans y49;replace h:=h';clear h' zz
 refine Sq (Qe (s:=171) (src:=16) (K:=801750719) h (by decide) (by rw [y50];decide) (by decide) (by decide) ⟨by decide,by decide⟩ (fun bb51 ww51 h' zz=>Qa ?_))
 have y51:=zz.trans y50;replace h:=h';clear h' zz
 obtain ⟨A8,hA8,h⟩:=Qs h
 refine Sq (Qi (s:=174) (d:=8) (top:=17) h (by decide) (by rw [y51];decide) (by decide) (by decide) (fun k _ hk=>.inl hk) (fun bb52 ww52 h' zz=>Qa ?_))
 have y52:=zz.trans y51;replace h:=h';clear h' zz
 refine Sq (Qj (s:=178) h (by decide) (by rw [y52];decide) (by decide) (fun bb53 ww53 h' zz=>Qa ?_))
 have y53:=zz.trans y52;replace h:=h';clear h' zz
 refine Sq (Qp (s:=179) (src:=13) h (by decide) (by rw [y53];decide) (by decide) (by decide) (fun bb54 ww54 h' zz=>Qa ?_))
 have y54:=zz.trans y53;replace h:=h';clear h' zz
 refine Sq (Qe (s:=181) (src:=14) (K:=1162945305) h (by decide) (by rw [y54];decide) (by decide) (by decide) ⟨by decide,by decide⟩ (fun bb55 ww55 h' zz=>Qa ?_))
 have y55:=zz.trans y54;replace h:=h';clear h' zz
 refine Sq (Qe (s:=184) (src:=15) (K:=1354194884) h (by decide) (by rw [y55];decide) (by decide) (by decide) ⟨by decide,by decide⟩ (fun bb56 ww56 h' zz=>Qa ?_))
 have y56:=zz.trans y55;replace h:=h';clear h' zz
 refine Sq (Qe (s:=187) (src:=16) (K:=1076732275) h (by decide) (by rw [y56];decide) (by decide) (by decide) ⟨by decide,by decide⟩ (fun bb57 ww57 h' zz=>Qa ?_))
 have y57:=zz.trans y56;replace h:=h';clear h' zz
 obtain ⟨A9,hA9,h⟩:=Qs h
 refine Sq (Qi (s:=190) (d:=9) (top:=17) h (by decide) (by rw [y57];decide) (by decide) (by decide) (fun k _ hk=>.inl hk) (fun bb58 ww58 h' zz=>Qa ?_))
 have y58:=zz.trans y57;replace h:=h';clear h' zz
 refine Sq (Qj (s:=194) h (by decide) (by rw [y58];decide) (by decide) (fun bb59 ww59 h' zz=>Qa ?_))
 have y59:=zz.trans y58;replace h:=h';clear h' zz
 refine Sq (Qp (s:=195) (src:=14) h (by decide) (by rw [y59];decide) (by decide) (by decide) (fun bb60 ww60 h' zz=>Qa ?_))
 have y60:=zz.trans y59;replace h:=h';clear h' zz
 refine Sq (Qe (s:=197) (src:=15) (K:=1162945305) h (by decide) (by rw [y60];decide) (by decide) (by decide) ⟨by decide,by decide⟩ (fun bb61 ww61 h' zz=>Qa ?_))
 have y61:=zz.trans y60;replace h:=h';clear h' zz
 refine Sq (Qe (s:=200) (src:=16) (K:=1354194884) h (by decide) (by rw [y61];decide) (by decide) (by decide) ⟨by decide,by decide⟩ (fun bb62 ww62 h' zz=>Qa ?_))
 have y62:=zz.trans y61;replace h:=h';clear h' zz
 obtain ⟨A10,hA10,h⟩:=Qs h
 refine Sq (Qi (s:=203) (d:=10) (top:=17) h (by decide) (by rw [y62];decide) (by decide) (by decide) (fun k _ hk=>.inl hk) (fun bb63 ww63 h' zz=>Qa ?_))
 have y63:=zz.trans y62;replace h:=h';clear h' zz
 refine Sq (Qj (s:=207) h (by decide) (by rw [y63];decide) (by decide) (fun bb64 ww64 h' zz=>Qa ?_))
 have y64:=zz.trans y63;replace h:=h';clear h' zz
 refine Sq (Qp (s:=208) (src:=15) h (by decide) (by rw [y64];decide) (by decide) (by decide) (fun bb65 ww65 h' zz=>Qa ?_))
 have y65:=zz.trans y64;replace h:=h';clear h' zz
 refine Sq (Qe (s:=210) (src:=16) (K:=1162945305) h (by decide) (by rw [y65];decide) (by decide) (by decide) ⟨by decide,by decide⟩ (fun bb66 ww66 h' zz=>Qa ?_))
 have y66:=zz.trans y65;replace h:=h';clear h' zz
 obtain ⟨A11,hA11,h⟩:=Qs h
 refine Sq (Qi (s:=213) (d:=11) (top:=17) h (by decide) (by rw [y66];decide) (by decide) (by decide) (fun k _ hk=>.inl hk) (fun bb67 ww67 h' zz=>Qa ?_))
 have y67:=zz.trans y66;replace h:=h';clear h' zz
 refine Sq (Qj (s:=217) h (by decide) (by rw [y67];decide) (by decide) (fun bb68 ww68 h' zz=>Qa ?_))
 have y68:=zz.trans y67;replace h:=h';clear h' zz
 refine Sq (Qp (s:=218) (src:=16) h (by decide) (by rw [y68];decide) (by decide) (by decide) (fun bb69 ww69 h' zz=>Qa ?_))
 have y69:=zz.trans y68;replace h:=h';clear h' zz
 obtain ⟨A12,hA12,h⟩:=Qs h
 refine Sq (Qi (s:=220) (d:=12) (top:=17) h (by decide) (by rw [y69];decide) (by decide) (by decide) (fun k _ hk=>.inl hk) (fun bb70 ww70 h' zz=>Qa ?_))
 have y70:=zz.trans y69;replace h:=h';clear h' zz
 refine Sq (Qj (s:=224) h (by decide) (by rw [y70];decide) (by decide) (fun bb71 ww71 h' zz=>Qa ?_))
 have y71:=zz.trans y70;replace h:=h';clear h' zz
 obtain ⟨A13,hA13,h⟩:=Qs h
 refine Sq (Qi (s:=225) (d:=13) (top:=17) h (by decide) (by rw [y71];decide) (by decide) (by decide) (fun k _ hk=>.inl hk) (fun bb72 ww72 h' zz=>Qa ?_))
 have y72:=zz.trans y71;replace h:=h';clear h' zz
 have g0:=(h.past.n 0 (by decide)).trans e0'
 have dd0:=h.past.f.trans d1
 have w1:bb72.eval (.tmp 1)=.int .u64 (A1 % 4294967296):=(h.v 1 (by decide) (by decide)).1
 have R1:U32 (A1 % 4294967296):=(h.v 1 (by decide) (by decide)).2
 have w2:bb72.eval (.tmp 2)=.int .u64 (A2 % 4294967296):=(h.v 2 (by decide) (by decide)).1
 have R2:U32 (A2 % 4294967296):=(h.v 2 (by decide) (by decide)).2
 have w3:bb72.eval (.tmp 3)=.int .u64 (A3 % 4294967296):=(h.v 3 (by decide) (by decide)).1
 have R3:U32 (A3 % 4294967296):=(h.v 3 (by decide) (by decide)).2
 have w4:bb72.eval (.tmp 4)=.int .u64 (A4 % 4294967296):=(h.v 4 (by decide) (by decide)).1
 have R4:U32 (A4 % 4294967296):=(h.v 4 (by decide) (by decide)).2
 have w5:bb72.eval (.tmp 5)=.int .u64 (A5 % 4294967296):=(h.v 5 (by decide) (by decide)).1
 have R5:U32 (A5 % 4294967296):=(h.v 5 (by decide) (by decide)).2
 have w6:bb72.eval (.tmp 6)=.int .u64 (A6 % 4294967296):=(h.v 6 (by decide) (by decide)).1
 have R6:U32 (A6 % 4294967296):=(h.v 6 (by decide) (by decide)).2
 have w7:bb72.eval (.tmp 7)=.int .u64 (A7 % 4294967296):=(h.v 7 (by decide) (by decide)).1
 have R7:U32 (A7 % 4294967296):=(h.v 7 (by decide) (by decide)).2
 have w8:bb72.eval (.tmp 8)=.int .u64 (A8 % 4294967296):=(h.v 8 (by decide) (by decide)).1
 have R8:U32 (A8 % 4294967296):=(h.v 8 (by decide) (by decide)).2
 have w9:bb72.eval (.tmp 9)=.int .u64 (A9 % 4294967296):=(h.v 9 (by decide) (by decide)).1
 have R9:U32 (A9 % 4294967296):=(h.v 9 (by decide) (by decide)).2
 have w10:bb72.eval (.tmp 10)=.int .u64 (A10 % 4294967296):=(h.v 10 (by decide) (by decide)).1
 have R10:U32 (A10 % 4294967296):=(h.v 10 (by decide) (by decide)).2
 have w11:bb72.eval (.tmp 11)=.int .u64 (A11 % 4294967296):=(h.v 11 (by decide) (by decide)).1
 have R11:U32 (A11 % 4294967296):=(h.v 11 (by decide) (by decide)).2
 have w12:bb72.eval (.tmp 12)=.int .u64 (A12 % 4294967296):=(h.v 12 (by decide) (by decide)).1
 have R12:U32 (A12 % 4294967296):=(h.v 12 (by decide) (by decide)).2
 have w13:bb72.eval (.tmp 13)=.int .u64 (A13 % 4294967296):=(h.v 13 (by decide) (by decide)).1
 have R13:U32 (A13 % 4294967296):=(h.v 13 (by decide) (by decide)).2
 replace hA1:A1=v1+v9*801750719:=hA1
 replace hA2:A2=A1 / 4294967296+v2+v9*1076732275+v10*801750719:=hA2
 replace hA3:A3=A2 / 4294967296+v3+v9*1354194884+v10*1076732275+v11*801750719:=hA3
 replace hA4:A4=A3 / 4294967296+v4+v9*1162945305+v10*1354194884+v11*1076732275+v12*801750719:=hA4
 replace hA5:A5=A4 / 4294967296+v5+v9+v10*1162945305+v11*1354194884+v12*1076732275+v13*801750719:=hA5
 replace hA6:A6=A5 / 4294967296+v6+v10+v11*1162945305+v12*1354194884+v13*1076732275+v14*801750719:=hA6
 replace hA7:A7=A6 / 4294967296+v7+v11+v12*1162945305+v13*1354194884+v14*1076732275+v15*801750719:=hA7
 replace hA8:A8=A7 / 4294967296+v8+v12+v13*1162945305+v14*1354194884+v15*1076732275+v16*801750719:=hA8
 replace hA9:A9=A8 / 4294967296+v13+v14*1162945305+v15*1354194884+v16*1076732275:=hA9
 replace hA10:A10=A9 / 4294967296+v14+v15*1162945305+v16*1354194884:=hA10
 replace hA11:A11=A10 / 4294967296+v15+v16*1162945305:=hA11
 replace hA12:A12=A11 / 4294967296+v16:=hA12
 replace hA13:A13=A12 / 4294967296:=hA13
 obtain ⟨AA1,AA2⟩:=arith512 u1 u2 u3 u4 u5 u6 u7 u8 u9 u10 u11 u12 u13 u14 u15 u16 hA1 hA2 hA3 hA4 hA5 hA6 hA7 hA8 hA9 hA10 hA11 hA12 hA13
 have hSw:=hS0.fr h.fr (fun _ _ _ f=>hdg f.1)
 have hfw:=F8.fr h.fr hS0.lt hf0
 have hre:=reduce385 d q _ (A1 % 4294967296) (A2 % 4294967296) (A3 % 4294967296) (A4 % 4294967296) (A5 % 4294967296) (A6 % 4294967296) (A7 % 4294967296) (A8 % 4294967296) (A9 % 4294967296) (A10 % 4294967296) (A11 % 4294967296) (A12 % 4294967296) (A13 % 4294967296) _ hSw hfw R1 R2 R3 R4 R5 R6 R7 R8 R9 R10 R11 R12 R13 AA1
 rw [AA2] at hre
 refine wp_region_lit ?_
 show wpList _ _ _ _ _ _
 refine wP (Qg (g0)) y72 dd0 rfl fun ac1 q1 zz1 dd1=>?_
 refine wP (Qg (q1.m w1 rfl)) zz1 dd1 rfl fun ac2 q2 zz2 dd2=>?_
 refine wP (Qg (q2.m (q1.m w2 rfl) rfl)) zz2 dd2 rfl fun ac3 q3 zz3 dd3=>?_
 refine wP (Qg (q3.m (q2.m (q1.m w3 rfl) rfl) rfl)) zz3 dd3 rfl fun ac4 q4 zz4 dd4=>?_
 refine wP (Qg (q4.m (q3.m (q2.m (q1.m w4 rfl) rfl) rfl) rfl)) zz4 dd4 rfl fun ac5 q5 zz5 dd5=>?_
 refine wP (Qg (q5.m (q4.m (q3.m (q2.m (q1.m w5 rfl) rfl) rfl) rfl) rfl)) zz5 dd5 rfl fun ac6 q6 zz6 dd6=>?_
 refine wP (Qg (q6.m (q5.m (q4.m (q3.m (q2.m (q1.m w6 rfl) rfl) rfl) rfl) rfl) rfl)) zz6 dd6 rfl fun ac7 q7 zz7 dd7=>?_
 refine wP (Qg (q7.m (q6.m (q5.m (q4.m (q3.m (q2.m (q1.m w7 rfl) rfl) rfl) rfl) rfl) rfl) rfl)) zz7 dd7 rfl fun ac8 q8 zz8 dd8=>?_
 refine wP (Qg (q8.m (q7.m (q6.m (q5.m (q4.m (q3.m (q2.m (q1.m w8 rfl) rfl) rfl) rfl) rfl) rfl) rfl) rfl)) zz8 dd8 rfl fun ac9 q9 zz9 dd9=>?_
 refine wP (Qg (q9.m (q8.m (q7.m (q6.m (q5.m (q4.m (q3.m (q2.m (q1.m w9 rfl) rfl) rfl) rfl) rfl) rfl) rfl) rfl) rfl)) zz9 dd9 rfl fun ac10 q10 zz10 dd10=>?_
 refine wP (Qg (q10.m (q9.m (q8.m (q7.m (q6.m (q5.m (q4.m (q3.m (q2.m (q1.m w10 rfl) rfl) rfl) rfl) rfl) rfl) rfl) rfl) rfl) rfl)) zz10 dd10 rfl fun ac11 q11 zz11 dd11=>?_
 refine wP (Qg (q11.m (q10.m (q9.m (q8.m (q7.m (q6.m (q5.m (q4.m (q3.m (q2.m (q1.m w11 rfl) rfl) rfl) rfl) rfl) rfl) rfl) rfl) rfl) rfl) rfl)) zz11 dd11 rfl fun ac12 q12 zz12 dd12=>?_
 refine wP (Qg (q12.m (q11.m (q10.m (q9.m (q8.m (q7.m (q6.m (q5.m (q4.m (q3.m (q2.m (q1.m w12 rfl) rfl) rfl) rfl) rfl) rfl) rfl) rfl) rfl) rfl) rfl) rfl)) zz12 dd12 rfl fun ac13 q13 zz13 dd13=>?_
 refine wP (Qg (q13.m (q12.m (q11.m (q10.m (q9.m (q8.m (q7.m (q6.m (q5.m (q4.m (q3.m (q2.m (q1.m w13 rfl) rfl) rfl) rfl) rfl) rfl) rfl) rfl) rfl) rfl) rfl) rfl) rfl)) zz13 dd13 rfl fun ac14 q14 zz14 dd14=>?_
 have f229_14:=q14.m (q13.m (q12.m (q11.m (q10.m (q9.m (q8.m (q7.m (q6.m (q5.m (q4.m (q3.m (q2.m q1.v rfl) rfl) rfl) rfl) rfl) rfl) rfl) rfl) rfl) rfl) rfl) rfl) rfl
 have f230_14:=q14.m (q13.m (q12.m (q11.m (q10.m (q9.m (q8.m (q7.m (q6.m (q5.m (q4.m (q3.m q2.v rfl) rfl) rfl) rfl) rfl) rfl) rfl) rfl) rfl) rfl) rfl) rfl
 have f231_14:=q14.m (q13.m (q12.m (q11.m (q10.m (q9.m (q8.m (q7.m (q6.m (q5.m (q4.m q3.v rfl) rfl) rfl) rfl) rfl) rfl) rfl) rfl) rfl) rfl) rfl
 have f232_14:=q14.m (q13.m (q12.m (q11.m (q10.m (q9.m (q8.m (q7.m (q6.m (q5.m q4.v rfl) rfl) rfl) rfl) rfl) rfl) rfl) rfl) rfl) rfl
 have f233_14:=q14.m (q13.m (q12.m (q11.m (q10.m (q9.m (q8.m (q7.m (q6.m q5.v rfl) rfl) rfl) rfl) rfl) rfl) rfl) rfl) rfl
 have f234_14:=q14.m (q13.m (q12.m (q11.m (q10.m (q9.m (q8.m (q7.m q6.v rfl) rfl) rfl) rfl) rfl) rfl) rfl) rfl
 have f235_14:=q14.m (q13.m (q12.m (q11.m (q10.m (q9.m (q8.m q7.v rfl) rfl) rfl) rfl) rfl) rfl) rfl
 have f236_14:=q14.m (q13.m (q12.m (q11.m (q10.m (q9.m q8.v rfl) rfl) rfl) rfl) rfl) rfl
 have f237_14:=q14.m (q13.m (q12.m (q11.m (q10.m q9.v rfl) rfl) rfl) rfl) rfl
 have f238_14:=q14.m (q13.m (q12.m (q11.m q10.v rfl) rfl) rfl) rfl
 have f239_14:=q14.m (q13.m (q12.m q11.v rfl) rfl) rfl
 have f240_14:=q14.m (q13.m q12.v rfl) rfl
 have f241_14:=q14.m q13.v rfl
 refine wlCall (exCall14 (f229_14) (f230_14) (f231_14) (f232_14) (f233_14) (f234_14) (f235_14) (f236_14) (f237_14) (f238_14) (f239_14) (f240_14) (f241_14) (q14.v) rfl (by go_simp)) hre (ltz zz14 rfl) ?_
 rintro e w' ⟨rfl,hR,hFR⟩
 refine ⟨_,rfl,fun aE qE=>Wn ?_⟩
 refine endA rfl (qE.f.trans dd14) ⟨rfl,hR,?_⟩
 refine ((hF0.mono (fun _ _ _ f=>f.elim)).trans ((h.fr.mono (T:=Or2 (Rng d q 8) (Rng g 0 3)) (fun _ _ _ f=>.inr f)).trans (hFR.mono (fun _ _ _ f=>.inl f)))).mono (fun k o hk f=>?_)
 rcases f with f | f
 ·exact f
 have:=f.1;omega
set_option maxHeartbeats 4000000 in
theorem arithMul {p00 p01 p02 p03 p04 p05 p06 p07 p10 p11 p12 p13 p14 p15 p16 p17 p20 p21 p22 p23 p24 p25 p26 p27 p30 p31 p32 p33 p34 p35 p36 p37 p40 p41 p42 p43 p44 p45 p46 p47 p50 p51 p52 p53 p54 p55 p56 p57 p60 p61 p62 p63 p64 p65 p66 p67 p70 p71 p72 p73 p74 p75 p76 p77 A0 A1 A2 A3 A4 A5 A6 A7 A8 A9 A10 A11 A12 A13 A14 A15 Z:Int} (hz:Z=1*p00+4294967296*p01+18446744073709551616*p02+79228162514264337593543950336*p03+340282366920938463463374607431768211456*p04+1461501637330902918203684832716283019655932542976*p05+6277101735386680763835789423207666416102355444464034512896*p06+26959946667150639794667015087019630673637144422540572481103610249216*p07+4294967296*p10+18446744073709551616*p11+79228162514264337593543950336*p12+340282366920938463463374607431768211456*p13+1461501637330902918203684832716283019655932542976*p14+6277101735386680763835789423207666416102355444464034512896*p15+26959946667150639794667015087019630673637144422540572481103610249216*p16+115792089237316195423570985008687907853269984665640564039457584007913129639936*p17+18446744073709551616*p20+79228162514264337593543950336*p21+340282366920938463463374607431768211456*p22+1461501637330902918203684832716283019655932542976*p23+6277101735386680763835789423207666416102355444464034512896*p24+26959946667150639794667015087019630673637144422540572481103610249216*p25+115792089237316195423570985008687907853269984665640564039457584007913129639936*p26+497323236409786642155382248146820840100456150797347717440463976893159497012533375533056*p27+79228162514264337593543950336*p30+340282366920938463463374607431768211456*p31+1461501637330902918203684832716283019655932542976*p32+6277101735386680763835789423207666416102355444464034512896*p33+26959946667150639794667015087019630673637144422540572481103610249216*p34+115792089237316195423570985008687907853269984665640564039457584007913129639936*p35+497323236409786642155382248146820840100456150797347717440463976893159497012533375533056*p36+2135987035920910082395021706169552114602704522356652769947041607822219725780640550022962086936576*p37+340282366920938463463374607431768211456*p40+1461501637330902918203684832716283019655932542976*p41+6277101735386680763835789423207666416102355444464034512896*p42+26959946667150639794667015087019630673637144422540572481103610249216*p43+115792089237316195423570985008687907853269984665640564039457584007913129639936*p44+497323236409786642155382248146820840100456150797347717440463976893159497012533375533056*p45+2135987035920910082395021706169552114602704522356652769947041607822219725780640550022962086936576*p46+9173994463960286046443283581208347763186259956673124494950355357547691504353939232280074212440502746218496*p47+1461501637330902918203684832716283019655932542976*p50+6277101735386680763835789423207666416102355444464034512896*p51+26959946667150639794667015087019630673637144422540572481103610249216*p52+115792089237316195423570985008687907853269984665640564039457584007913129639936*p53+497323236409786642155382248146820840100456150797347717440463976893159497012533375533056*p54+2135987035920910082395021706169552114602704522356652769947041607822219725780640550022962086936576*p55+9173994463960286046443283581208347763186259956673124494950355357547691504353939232280074212440502746218496*p56+39402006196394479212279040100143613805079739270465446667948293404245721771497210611414266254884915640806627990306816*p57+6277101735386680763835789423207666416102355444464034512896*p60+26959946667150639794667015087019630673637144422540572481103610249216*p61+115792089237316195423570985008687907853269984665640564039457584007913129639936*p62+497323236409786642155382248146820840100456150797347717440463976893159497012533375533056*p63+2135987035920910082395021706169552114602704522356652769947041607822219725780640550022962086936576*p64+9173994463960286046443283581208347763186259956673124494950355357547691504353939232280074212440502746218496*p65+39402006196394479212279040100143613805079739270465446667948293404245721771497210611414266254884915640806627990306816*p66+169230328010303641331690318856389386196071598838855992136870091590247882556495704531248437872567112920983350278405979725889536*p67+26959946667150639794667015087019630673637144422540572481103610249216*p70+115792089237316195423570985008687907853269984665640564039457584007913129639936*p71+497323236409786642155382248146820840100456150797347717440463976893159497012533375533056*p72+2135987035920910082395021706169552114602704522356652769947041607822219725780640550022962086936576*p73+9173994463960286046443283581208347763186259956673124494950355357547691504353939232280074212440502746218496*p74+39402006196394479212279040100143613805079739270465446667948293404245721771497210611414266254884915640806627990306816*p75+169230328010303641331690318856389386196071598838855992136870091590247882556495704531248437872567112920983350278405979725889536*p76+726838724295606890549323807888004534353641360687318060281490199180639288113397923326191050713763565560762521606266177933534601628614656*p77) (hz0:0<=Z) (hz':Z < 13407807929942597099574024998205846127479365820592393377723561443721764030073546976801874298166903427690031858186486050853753882811946569946433649006084096) (h0:A0=0+p00) (h1:A1=A0 / 4294967296+p01+p10) (h2:A2=A1 / 4294967296+p02+p11+p20) (h3:A3=A2 / 4294967296+p03+p12+p21+p30) (h4:A4=A3 / 4294967296+p04+p13+p22+p31+p40) (h5:A5=A4 / 4294967296+p05+p14+p23+p32+p41+p50) (h6:A6=A5 / 4294967296+p06+p15+p24+p33+p42+p51+p60) (h7:A7=A6 / 4294967296+p07+p16+p25+p34+p43+p52+p61+p70) (h8:A8=A7 / 4294967296+p17+p26+p35+p44+p53+p62+p71) (h9:A9=A8 / 4294967296+p27+p36+p45+p54+p63+p72) (h10:A10=A9 / 4294967296+p37+p46+p55+p64+p73) (h11:A11=A10 / 4294967296+p47+p56+p65+p74) (h12:A12=A11 / 4294967296+p57+p66+p75) (h13:A13=A12 / 4294967296+p67+p76) (h14:A14=A13 / 4294967296+p77) (h15:A15=A14 / 4294967296):Kj (A0 % 4294967296) (A1 % 4294967296) (A2 % 4294967296) (A3 % 4294967296) (A4 % 4294967296) (A5 % 4294967296) (A6 % 4294967296) (A7 % 4294967296) (A8 % 4294967296) (A9 % 4294967296) (A10 % 4294967296) (A11 % 4294967296) (A12 % 4294967296) (A13 % 4294967296) (A14 % 4294967296) (A15 % 4294967296)=Z:=by
 obtain ⟨P0,hP0⟩:∃P,P=1*(A0 % 4294967296):=⟨_,rfl⟩
 obtain ⟨C0,hC0⟩:∃C,C=1*p00:=⟨_,rfl⟩
 have s0:P0+4294967296*(A0 / 4294967296)=C0:=by
  clear h1 h2 h3 h4 h5 h6 h7 h8 h9 h10 h11 h12 h13 h14 h15 hz hz0 hz'
  omega
 obtain ⟨P1,hP1⟩:∃P,P=P0+4294967296*(A1 % 4294967296):=⟨_,rfl⟩
 obtain ⟨C1,hC1⟩:∃C,C=C0+4294967296*p01+4294967296*p10:=⟨_,rfl⟩
 have s1:P1+18446744073709551616*(A1 / 4294967296)=C1:=by
  clear hP0 hC0 h0 h2 h3 h4 h5 h6 h7 h8 h9 h10 h11 h12 h13 h14 h15 hz hz0 hz'
  omega
 obtain ⟨P2,hP2⟩:∃P,P=P1+18446744073709551616*(A2 % 4294967296):=⟨_,rfl⟩
 obtain ⟨C2,hC2⟩:∃C,C=C1+18446744073709551616*p02+18446744073709551616*p11+18446744073709551616*p20:=⟨_,rfl⟩
 have s2:P2+79228162514264337593543950336*(A2 / 4294967296)=C2:=by
  clear hP0 hC0 hP1 hC1 s0 h0 h1 h3 h4 h5 h6 h7 h8 h9 h10 h11 h12 h13 h14 h15 hz hz0 hz'
  omega
 obtain ⟨P3,hP3⟩:∃P,P=P2+79228162514264337593543950336*(A3 % 4294967296):=⟨_,rfl⟩
 obtain ⟨C3,hC3⟩:∃C,C=C2+79228162514264337593543950336*p03+79228162514264337593543950336*p12+79228162514264337593543950336*p21+79228162514264337593543950336*p30:=⟨_,rfl⟩
 have s3:P3+340282366920938463463374607431768211456*(A3 / 4294967296)=C3:=by
  clear hP0 hC0 hP1 hC1 hP2 hC2 s0 s1 h0 h1 h2 h4 h5 h6 h7 h8 h9 h10 h11 h12 h13 h14 h15 hz hz0 hz'
  omega
 obtain ⟨P4,hP4⟩:∃P,P=P3+340282366920938463463374607431768211456*(A4 % 4294967296):=⟨_,rfl⟩
 obtain ⟨C4,hC4⟩:∃C,C=C3+340282366920938463463374607431768211456*p04+340282366920938463463374607431768211456*p13+340282366920938463463374607431768211456*p22+340282366920938463463374607431768211456*p31+340282366920938463463374607431768211456*p40:=⟨_,rfl⟩
 have s4:P4+1461501637330902918203684832716283019655932542976*(A4 / 4294967296)=C4:=by
  clear hP0 hC0 hP1 hC1 hP2 hC2 hP3 hC3 s0 s1 s2 h0 h1 h2 h3 h5 h6 h7 h8 h9 h10 h11 h12 h13 h14 h15 hz hz0 hz'
  omega
 obtain ⟨P5,hP5⟩:∃P,P=P4+1461501637330902918203684832716283019655932542976*(A5 % 4294967296):=⟨_,rfl⟩
 obtain ⟨C5,hC5⟩:∃C,C=C4+1461501637330902918203684832716283019655932542976*p05+1461501637330902918203684832716283019655932542976*p14+1461501637330902918203684832716283019655932542976*p23+1461501637330902918203684832716283019655932542976*p32+1461501637330902918203684832716283019655932542976*p41+1461501637330902918203684832716283019655932542976*p50:=⟨_,rfl⟩
 have s5:P5+6277101735386680763835789423207666416102355444464034512896*(A5 / 4294967296)=C5:=by
  clear hP0 hC0 hP1 hC1 hP2 hC2 hP3 hC3 hP4 hC4 s0 s1 s2 s3 h0 h1 h2 h3 h4 h6 h7 h8 h9 h10 h11 h12 h13 h14 h15 hz hz0 hz'
  omega
 obtain ⟨P6,hP6⟩:∃P,P=P5+6277101735386680763835789423207666416102355444464034512896*(A6 % 4294967296):=⟨_,rfl⟩
 obtain ⟨C6,hC6⟩:∃C,C=C5+6277101735386680763835789423207666416102355444464034512896*p06+6277101735386680763835789423207666416102355444464034512896*p15+6277101735386680763835789423207666416102355444464034512896*p24+6277101735386680763835789423207666416102355444464034512896*p33+6277101735386680763835789423207666416102355444464034512896*p42+6277101735386680763835789423207666416102355444464034512896*p51+6277101735386680763835789423207666416102355444464034512896*p60:=⟨_,rfl⟩
 have s6:P6+26959946667150639794667015087019630673637144422540572481103610249216*(A6 / 4294967296)=C6:=by
  clear hP0 hC0 hP1 hC1 hP2 hC2 hP3 hC3 hP4 hC4 hP5 hC5 s0 s1 s2 s3 s4 h0 h1 h2 h3 h4 h5 h7 h8 h9 h10 h11 h12 h13 h14 h15 hz hz0 hz'
  omega
 obtain ⟨P7,hP7⟩:∃P,P=P6+26959946667150639794667015087019630673637144422540572481103610249216*(A7 % 4294967296):=⟨_,rfl⟩
 obtain ⟨C7,hC7⟩:∃C,C=C6+26959946667150639794667015087019630673637144422540572481103610249216*p07+26959946667150639794667015087019630673637144422540572481103610249216*p16+26959946667150639794667015087019630673637144422540572481103610249216*p25+26959946667150639794667015087019630673637144422540572481103610249216*p34+26959946667150639794667015087019630673637144422540572481103610249216*p43+26959946667150639794667015087019630673637144422540572481103610249216*p52+26959946667150639794667015087019630673637144422540572481103610249216*p61+26959946667150639794667015087019630673637144422540572481103610249216*p70:=⟨_,rfl⟩
 have s7:P7+115792089237316195423570985008687907853269984665640564039457584007913129639936*(A7 / 4294967296)=C7:=by
  clear hP0 hC0 hP1 hC1 hP2 hC2 hP3 hC3 hP4 hC4 hP5 hC5 hP6 hC6 s0 s1 s2 s3 s4 s5 h0 h1 h2 h3 h4 h5 h6 h8 h9 h10 h11 h12 h13 h14 h15 hz hz0 hz'
  omega
 obtain ⟨P8,hP8⟩:∃P,P=P7+115792089237316195423570985008687907853269984665640564039457584007913129639936*(A8 % 4294967296):=⟨_,rfl⟩
 obtain ⟨C8,hC8⟩:∃C,C=C7+115792089237316195423570985008687907853269984665640564039457584007913129639936*p17+115792089237316195423570985008687907853269984665640564039457584007913129639936*p26+115792089237316195423570985008687907853269984665640564039457584007913129639936*p35+115792089237316195423570985008687907853269984665640564039457584007913129639936*p44+115792089237316195423570985008687907853269984665640564039457584007913129639936*p53+115792089237316195423570985008687907853269984665640564039457584007913129639936*p62+115792089237316195423570985008687907853269984665640564039457584007913129639936*p71:=⟨_,rfl⟩
 have s8:P8+497323236409786642155382248146820840100456150797347717440463976893159497012533375533056*(A8 / 4294967296)=C8:=by
  clear hP0 hC0 hP1 hC1 hP2 hC2 hP3 hC3 hP4 hC4 hP5 hC5 hP6 hC6 hP7 hC7 s0 s1 s2 s3 s4 s5 s6 h0 h1 h2 h3 h4 h5 h6 h7 h9 h10 h11 h12 h13 h14 h15 hz hz0 hz'
  omega
 obtain ⟨P9,hP9⟩:∃P,P=P8+497323236409786642155382248146820840100456150797347717440463976893159497012533375533056*(A9 % 4294967296):=⟨_,rfl⟩
 obtain ⟨C9,hC9⟩:∃C,C=C8+497323236409786642155382248146820840100456150797347717440463976893159497012533375533056*p27+497323236409786642155382248146820840100456150797347717440463976893159497012533375533056*p36+497323236409786642155382248146820840100456150797347717440463976893159497012533375533056*p45+497323236409786642155382248146820840100456150797347717440463976893159497012533375533056*p54+497323236409786642155382248146820840100456150797347717440463976893159497012533375533056*p63+497323236409786642155382248146820840100456150797347717440463976893159497012533375533056*p72:=⟨_,rfl⟩
 have s9:P9+2135987035920910082395021706169552114602704522356652769947041607822219725780640550022962086936576*(A9 / 4294967296)=C9:=by
  clear hP0 hC0 hP1 hC1 hP2 hC2 hP3 hC3 hP4 hC4 hP5 hC5 hP6 hC6 hP7 hC7 hP8 hC8 s0 s1 s2 s3 s4 s5 s6 s7 h0 h1 h2 h3 h4 h5 h6 h7 h8 h10 h11 h12 h13 h14 h15 hz hz0 hz'
  omega
 obtain ⟨P10,hP10⟩:∃P,P=P9+2135987035920910082395021706169552114602704522356652769947041607822219725780640550022962086936576*(A10 % 4294967296):=⟨_,rfl⟩
 obtain ⟨C10,hC10⟩:∃C,C=C9+2135987035920910082395021706169552114602704522356652769947041607822219725780640550022962086936576*p37+2135987035920910082395021706169552114602704522356652769947041607822219725780640550022962086936576*p46+2135987035920910082395021706169552114602704522356652769947041607822219725780640550022962086936576*p55+2135987035920910082395021706169552114602704522356652769947041607822219725780640550022962086936576*p64+2135987035920910082395021706169552114602704522356652769947041607822219725780640550022962086936576*p73:=⟨_,rfl⟩
 have s10:P10+9173994463960286046443283581208347763186259956673124494950355357547691504353939232280074212440502746218496*(A10 / 4294967296)=C10:=by
  clear hP0 hC0 hP1 hC1 hP2 hC2 hP3 hC3 hP4 hC4 hP5 hC5 hP6 hC6 hP7 hC7 hP8 hC8 hP9 hC9 s0 s1 s2 s3 s4 s5 s6 s7 s8 h0 h1 h2 h3 h4 h5 h6 h7 h8 h9 h11 h12 h13 h14 h15 hz hz0 hz'
  omega
 obtain ⟨P11,hP11⟩:∃P,P=P10+9173994463960286046443283581208347763186259956673124494950355357547691504353939232280074212440502746218496*(A11 % 4294967296):=⟨_,rfl⟩
 obtain ⟨C11,hC11⟩:∃C,C=C10+9173994463960286046443283581208347763186259956673124494950355357547691504353939232280074212440502746218496*p47+9173994463960286046443283581208347763186259956673124494950355357547691504353939232280074212440502746218496*p56+9173994463960286046443283581208347763186259956673124494950355357547691504353939232280074212440502746218496*p65+9173994463960286046443283581208347763186259956673124494950355357547691504353939232280074212440502746218496*p74:=⟨_,rfl⟩
 have s11:P11+39402006196394479212279040100143613805079739270465446667948293404245721771497210611414266254884915640806627990306816*(A11 / 4294967296)=C11:=by
  clear hP0 hC0 hP1 hC1 hP2 hC2 hP3 hC3 hP4 hC4 hP5 hC5 hP6 hC6 hP7 hC7 hP8 hC8 hP9 hC9 hP10 hC10 s0 s1 s2 s3 s4 s5 s6 s7 s8 s9 h0 h1 h2 h3 h4 h5 h6 h7 h8 h9 h10 h12 h13 h14 h15 hz hz0 hz'
  omega
 obtain ⟨P12,hP12⟩:∃P,P=P11+39402006196394479212279040100143613805079739270465446667948293404245721771497210611414266254884915640806627990306816*(A12 % 4294967296):=⟨_,rfl⟩
 obtain ⟨C12,hC12⟩:∃C,C=C11+39402006196394479212279040100143613805079739270465446667948293404245721771497210611414266254884915640806627990306816*p57+39402006196394479212279040100143613805079739270465446667948293404245721771497210611414266254884915640806627990306816*p66+39402006196394479212279040100143613805079739270465446667948293404245721771497210611414266254884915640806627990306816*p75:=⟨_,rfl⟩
 have s12:P12+169230328010303641331690318856389386196071598838855992136870091590247882556495704531248437872567112920983350278405979725889536*(A12 / 4294967296)=C12:=by
  clear hP0 hC0 hP1 hC1 hP2 hC2 hP3 hC3 hP4 hC4 hP5 hC5 hP6 hC6 hP7 hC7 hP8 hC8 hP9 hC9 hP10 hC10 hP11 hC11 s0 s1 s2 s3 s4 s5 s6 s7 s8 s9 s10 h0 h1 h2 h3 h4 h5 h6 h7 h8 h9 h10 h11 h13 h14 h15 hz hz0 hz'
  omega
 obtain ⟨P13,hP13⟩:∃P,P=P12+169230328010303641331690318856389386196071598838855992136870091590247882556495704531248437872567112920983350278405979725889536*(A13 % 4294967296):=⟨_,rfl⟩
 obtain ⟨C13,hC13⟩:∃C,C=C12+169230328010303641331690318856389386196071598838855992136870091590247882556495704531248437872567112920983350278405979725889536*p67+169230328010303641331690318856389386196071598838855992136870091590247882556495704531248437872567112920983350278405979725889536*p76:=⟨_,rfl⟩
 have s13:P13+726838724295606890549323807888004534353641360687318060281490199180639288113397923326191050713763565560762521606266177933534601628614656*(A13 / 4294967296)=C13:=by
  clear hP0 hC0 hP1 hC1 hP2 hC2 hP3 hC3 hP4 hC4 hP5 hC5 hP6 hC6 hP7 hC7 hP8 hC8 hP9 hC9 hP10 hC10 hP11 hC11 hP12 hC12 s0 s1 s2 s3 s4 s5 s6 s7 s8 s9 s10 s11 h0 h1 h2 h3 h4 h5 h6 h7 h8 h9 h10 h11 h12 h14 h15 hz hz0 hz'
  omega
 obtain ⟨P14,hP14⟩:∃P,P=P13+726838724295606890549323807888004534353641360687318060281490199180639288113397923326191050713763565560762521606266177933534601628614656*(A14 % 4294967296):=⟨_,rfl⟩
 obtain ⟨C14,hC14⟩:∃C,C=C13+726838724295606890549323807888004534353641360687318060281490199180639288113397923326191050713763565560762521606266177933534601628614656*p77:=⟨_,rfl⟩
 have s14:P14+3121748550315992231381597229793166305748598142664971150859156959625371738819765620120306103063491971159826931121406622895447975679288285306290176*(A14 / 4294967296)=C14:=by
  clear hP0 hC0 hP1 hC1 hP2 hC2 hP3 hC3 hP4 hC4 hP5 hC5 hP6 hC6 hP7 hC7 hP8 hC8 hP9 hC9 hP10 hC10 hP11 hC11 hP12 hC12 hP13 hC13 s0 s1 s2 s3 s4 s5 s6 s7 s8 s9 s10 s11 s12 h0 h1 h2 h3 h4 h5 h6 h7 h8 h9 h10 h11 h12 h13 h15 hz hz0 hz'
  omega
 obtain ⟨P15,hP15⟩:∃P,P=P14+3121748550315992231381597229793166305748598142664971150859156959625371738819765620120306103063491971159826931121406622895447975679288285306290176*(A15 % 4294967296):=⟨_,rfl⟩
 obtain ⟨C15,hC15⟩:∃C,C=C14+0:=⟨_,rfl⟩
 have s15:P15+13407807929942597099574024998205846127479365820592393377723561443721764030073546976801874298166903427690031858186486050853753882811946569946433649006084096*(A15 / 4294967296)=C15:=by
  clear hP0 hC0 hP1 hC1 hP2 hC2 hP3 hC3 hP4 hC4 hP5 hC5 hP6 hC6 hP7 hC7 hP8 hC8 hP9 hC9 hP10 hC10 hP11 hC11 hP12 hC12 hP13 hC13 hP14 hC14 s0 s1 s2 s3 s4 s5 s6 s7 s8 s9 s10 s11 s12 s13 h0 h1 h2 h3 h4 h5 h6 h7 h8 h9 h10 h11 h12 h13 h14 hz hz0 hz'
  omega
 have e0:Kj (A0 % 4294967296) (A1 % 4294967296) (A2 % 4294967296) (A3 % 4294967296) (A4 % 4294967296) (A5 % 4294967296) (A6 % 4294967296) (A7 % 4294967296) (A8 % 4294967296) (A9 % 4294967296) (A10 % 4294967296) (A11 % 4294967296) (A12 % 4294967296) (A13 % 4294967296) (A14 % 4294967296) (A15 % 4294967296)=P15:=by
  unfold Kj;rw [hP15,hP14,hP13,hP12,hP11,hP10,hP9,hP8,hP7,hP6,hP5,hP4,hP3,hP2,hP1,hP0];clear hC0 s0 h0 hP0 hC1 s1 h1 hP1 hC2 s2 h2 hP2 hC3 s3 h3 hP3 hC4 s4 h4 hP4 hC5 s5 h5 hP5 hC6 s6 h6 hP6 hC7 s7 h7 hP7 hC8 s8 h8 hP8 hC9 s9 h9 hP9 hC10 s10 h10 hP10 hC11 s11 h11 hP11 hC12 s12 h12 hP12 hC13 s13 h13 hP13 hC14 s14 h14 hP14 hC15 s15 h15 hP15 hz hz0 hz';omega
 have e1:C15=Z:=by
  rw [hz,hC15,hC14,hC13,hC12,hC11,hC10,hC9,hC8,hC7,hC6,hC5,hC4,hC3,hC2,hC1,hC0];clear hC0 s0 h0 hP0 hC1 s1 h1 hP1 hC2 s2 h2 hP2 hC3 s3 h3 hP3 hC4 s4 h4 hP4 hC5 s5 h5 hP5 hC6 s6 h6 hP6 hC7 s7 h7 hP7 hC8 s8 h8 hP8 hC9 s9 h9 hP9 hC10 s10 h10 hP10 hC11 s11 h11 hP11 hC12 s12 h12 hP12 hC13 s13 h13 hP13 hC14 s14 h14 hP14 hC15 s15 h15 hP15 hz hz0 hz' e0;omega
 have e2:0<=P15:=by rw [<-e0];unfold Kj;clear hC0 s0 h0 hP0 hC1 s1 h1 hP1 hC2 s2 h2 hP2 hC3 s3 h3 hP3 hC4 s4 h4 hP4 hC5 s5 h5 hP5 hC6 s6 h6 hP6 hC7 s7 h7 hP7 hC8 s8 h8 hP8 hC9 s9 h9 hP9 hC10 s10 h10 hP10 hC11 s11 h11 hP11 hC12 s12 h12 hP12 hC13 s13 h13 hP13 hC14 s14 h14 hP14 hC15 s15 h15 hP15 hz hz0 hz' e0 e1;omega
 have e3:P15 < 13407807929942597099574024998205846127479365820592393377723561443721764030073546976801874298166903427690031858186486050853753882811946569946433649006084096:=by rw [<-e0];unfold Kj;clear hC0 s0 h0 hP0 hC1 s1 h1 hP1 hC2 s2 h2 hP2 hC3 s3 h3 hP3 hC4 s4 h4 hP4 hC5 s5 h5 hP5 hC6 s6 h6 hP6 hC7 s7 h7 hP7 hC8 s8 h8 hP8 hC9 s9 h9 hP9 hC10 s10 h10 hP10 hC11 s11 h11 hP11 hC12 s12 h12 hP12 hC13 s13 h13 hP13 hC14 s14 h14 hP14 hC15 s15 h15 hP15 hz hz0 hz' e0 e1 e2;omega
 rw [e0]
 clear hC0 h0 hP0 hC1 h1 hP1 hC2 h2 hP2 hC3 h3 hP3 hC4 h4 hP4 hC5 h5 hP5 hC6 h6 hP6 hC7 h7 hP7 hC8 h8 hP8 hC9 h9 hP9 hC10 h10 hP10 hC11 h11 hP11 hC12 h12 hP12 hC13 h13 hP13 hC14 h14 hP14 hC15 h15 hP15 s0 s1 s2 s3 s4 s5 s6 s7 s8 s9 s10 s11 s12 s13 s14 hz e0
 omega
theorem mulExpand (X Y:Nat->Int):val8 (X 0) (X 1) (X 2) (X 3) (X 4) (X 5) (X 6) (X 7)*val8 (Y 0) (Y 1) (Y 2) (Y 3) (Y 4) (Y 5) (Y 6) (Y 7)=1*(X 0*Y 0)+4294967296*(X 0*Y 1)+18446744073709551616*(X 0*Y 2)+79228162514264337593543950336*(X 0*Y 3)+340282366920938463463374607431768211456*(X 0*Y 4)+1461501637330902918203684832716283019655932542976*(X 0*Y 5)+6277101735386680763835789423207666416102355444464034512896*(X 0*Y 6)+26959946667150639794667015087019630673637144422540572481103610249216*(X 0*Y 7)+4294967296*(X 1*Y 0)+18446744073709551616*(X 1*Y 1)+79228162514264337593543950336*(X 1*Y 2)+340282366920938463463374607431768211456*(X 1*Y 3)+1461501637330902918203684832716283019655932542976*(X 1*Y 4)+6277101735386680763835789423207666416102355444464034512896*(X 1*Y 5)+26959946667150639794667015087019630673637144422540572481103610249216*(X 1*Y 6)+115792089237316195423570985008687907853269984665640564039457584007913129639936*(X 1*Y 7)+18446744073709551616*(X 2*Y 0)+79228162514264337593543950336*(X 2*Y 1)+340282366920938463463374607431768211456*(X 2*Y 2)+1461501637330902918203684832716283019655932542976*(X 2*Y 3)+6277101735386680763835789423207666416102355444464034512896*(X 2*Y 4)+26959946667150639794667015087019630673637144422540572481103610249216*(X 2*Y 5)+115792089237316195423570985008687907853269984665640564039457584007913129639936*(X 2*Y 6)+497323236409786642155382248146820840100456150797347717440463976893159497012533375533056*(X 2*Y 7)+79228162514264337593543950336*(X 3*Y 0)+340282366920938463463374607431768211456*(X 3*Y 1)+1461501637330902918203684832716283019655932542976*(X 3*Y 2)+6277101735386680763835789423207666416102355444464034512896*(X 3*Y 3)+26959946667150639794667015087019630673637144422540572481103610249216*(X 3*Y 4)+115792089237316195423570985008687907853269984665640564039457584007913129639936*(X 3*Y 5)+497323236409786642155382248146820840100456150797347717440463976893159497012533375533056*(X 3*Y 6)+2135987035920910082395021706169552114602704522356652769947041607822219725780640550022962086936576*(X 3*Y 7)+340282366920938463463374607431768211456*(X 4*Y 0)+1461501637330902918203684832716283019655932542976*(X 4*Y 1)+6277101735386680763835789423207666416102355444464034512896*(X 4*Y 2)+26959946667150639794667015087019630673637144422540572481103610249216*(X 4*Y 3)+115792089237316195423570985008687907853269984665640564039457584007913129639936*(X 4*Y 4)+497323236409786642155382248146820840100456150797347717440463976893159497012533375533056*(X 4*Y 5)+2135987035920910082395021706169552114602704522356652769947041607822219725780640550022962086936576*(X 4*Y 6)+9173994463960286046443283581208347763186259956673124494950355357547691504353939232280074212440502746218496*(X 4*Y 7)+1461501637330902918203684832716283019655932542976*(X 5*Y 0)+6277101735386680763835789423207666416102355444464034512896*(X 5*Y 1)+26959946667150639794667015087019630673637144422540572481103610249216*(X 5*Y 2)+115792089237316195423570985008687907853269984665640564039457584007913129639936*(X 5*Y 3)+497323236409786642155382248146820840100456150797347717440463976893159497012533375533056*(X 5*Y 4)+2135987035920910082395021706169552114602704522356652769947041607822219725780640550022962086936576*(X 5*Y 5)+9173994463960286046443283581208347763186259956673124494950355357547691504353939232280074212440502746218496*(X 5*Y 6)+39402006196394479212279040100143613805079739270465446667948293404245721771497210611414266254884915640806627990306816*(X 5*Y 7)+6277101735386680763835789423207666416102355444464034512896*(X 6*Y 0)+26959946667150639794667015087019630673637144422540572481103610249216*(X 6*Y 1)+115792089237316195423570985008687907853269984665640564039457584007913129639936*(X 6*Y 2)+497323236409786642155382248146820840100456150797347717440463976893159497012533375533056*(X 6*Y 3)+2135987035920910082395021706169552114602704522356652769947041607822219725780640550022962086936576*(X 6*Y 4)+9173994463960286046443283581208347763186259956673124494950355357547691504353939232280074212440502746218496*(X 6*Y 5)+39402006196394479212279040100143613805079739270465446667948293404245721771497210611414266254884915640806627990306816*(X 6*Y 6)+169230328010303641331690318856389386196071598838855992136870091590247882556495704531248437872567112920983350278405979725889536*(X 6*Y 7)+26959946667150639794667015087019630673637144422540572481103610249216*(X 7*Y 0)+115792089237316195423570985008687907853269984665640564039457584007913129639936*(X 7*Y 1)+497323236409786642155382248146820840100456150797347717440463976893159497012533375533056*(X 7*Y 2)+2135987035920910082395021706169552114602704522356652769947041607822219725780640550022962086936576*(X 7*Y 3)+9173994463960286046443283581208347763186259956673124494950355357547691504353939232280074212440502746218496*(X 7*Y 4)+39402006196394479212279040100143613805079739270465446667948293404245721771497210611414266254884915640806627990306816*(X 7*Y 5)+169230328010303641331690318856389386196071598838855992136870091590247882556495704531248437872567112920983350278405979725889536*(X 7*Y 6)+726838724295606890549323807888004534353641360687318060281490199180639288113397923326191050713763565560762521606266177933534601628614656*(X 7*Y 7):=by
 unfold val8;grind
theorem mulLim (X Y:Nat->Int) (hX:∀i,i < 8->U32 (X i)) (hY:∀i,i < 8->U32 (Y i)):0<=val8 (X 0) (X 1) (X 2) (X 3) (X 4) (X 5) (X 6) (X 7)*val8 (Y 0) (Y 1) (Y 2) (Y 3) (Y 4) (Y 5) (Y 6) (Y 7)/\val8 (X 0) (X 1) (X 2) (X 3) (X 4) (X 5) (X 6) (X 7)*val8 (Y 0) (Y 1) (Y 2) (Y 3) (Y 4) (Y 5) (Y 6) (Y 7) < 13407807929942597099574024998205846127479365820592393377723561443721764030073546976801874298166903427690031858186486050853753882811946569946433649006084096:=by
 have a:0<=val8 (X 0) (X 1) (X 2) (X 3) (X 4) (X 5) (X 6) (X 7)/\val8 (X 0) (X 1) (X 2) (X 3) (X 4) (X 5) (X 6) (X 7)<=115792089237316195423570985008687907853269984665640564039457584007913129639935:=by
  have h0:=hX 0 (by decide);have h1:=hX 1 (by decide);have h2:=hX 2 (by decide);have h3:=hX 3 (by decide);have h4:=hX 4 (by decide);have h5:=hX 5 (by decide);have h6:=hX 6 (by decide);have h7:=hX 7 (by decide)
  unfold U32 at*;unfold val8;omega
 have b:0<=val8 (Y 0) (Y 1) (Y 2) (Y 3) (Y 4) (Y 5) (Y 6) (Y 7)/\val8 (Y 0) (Y 1) (Y 2) (Y 3) (Y 4) (Y 5) (Y 6) (Y 7)<=115792089237316195423570985008687907853269984665640564039457584007913129639935:=by
  have h0:=hY 0 (by decide);have h1:=hY 1 (by decide);have h2:=hY 2 (by decide);have h3:=hY 3 (by decide);have h4:=hY 4 (by decide);have h5:=hY 5 (by decide);have h6:=hY 6 (by decide);have h7:=hY 7 (by decide)
  unfold U32 at*;unfold val8;omega
 have:=Int.mul_le_mul (a:=val8 (X 0) (X 1) (X 2) (X 3) (X 4) (X 5) (X 6) (X 7)) (c:=115792089237316195423570985008687907853269984665640564039457584007913129639935) (b:=val8 (Y 0) (Y 1) (Y 2) (Y 3) (Y 4) (Y 5) (Y 6) (Y 7)) (d:=115792089237316195423570985008687907853269984665640564039457584007913129639935) a.2 b.2 b.1 (by decide)
 have h0:=Mn a.1 b.1
 omega
theorem exCall17 {ρ:Operand->Value} {w:World} {d:Option Nat} {ty:TypeId} {pos:String} {after:Array Edge} {g:Option (Nat × Bool)} {f:FuncId} {x0 x1 x2 x3 x4 x5 x6 x7 x8 x9 x10 x11 x12 x13 x14 x15 x16:Operand} {y0 y1 y2 y3 y4 y5 y6 y7 y8 y9 y10 y11 y12 y13 y14 y15 y16:Value} {ts:Array TypeId} (h0:ρ x0=y0) (h1:ρ x1=y1) (h2:ρ x2=y2) (h3:ρ x3=y3) (h4:ρ x4=y4) (h5:ρ x5=y5) (h6:ρ x6=y6) (h7:ρ x7=y7) (h8:ρ x8=y8) (h9:ρ x9=y9) (h10:ρ x10=y10) (h11:ρ x11=y11) (h12:ρ x12=y12) (h13:ρ x13=y13) (h14:ρ x14=y14) (h15:ρ x15=y15) (h16:ρ x16=y16) (hf:ρ (.func f)=.func (.func f) #[] #[])
 (hF:(callFunc f #[y0,y1,y2,y3,y4,y5,y6,y7,y8,y9,y10,y11,y12,y13,y14,y15,y16]).run Tryz.prog w=.ok (.enter f #[y0,y1,y2,y3,y4,y5,y6,y7,y8,y9,y10,y11,y12,y13,y14,y15,y16]) w):
 (execOp ρ ⟨d,.call { callee:=.value (.func f),args:=#[x0,x1,x2,x3,x4,x5,x6,x7,x8,x9,x10,x11,x12,x13,x14,x15,x16],argTypes:=ts},ty,pos,after,g⟩).run Tryz.prog w=.ok (.enter f #[y0,y1,y2,y3,y4,y5,y6,y7,y8,y9,y10,y11,y12,y13,y14,y15,y16]) w:=by
 simp only [execOp];go_simp
set_option maxRecDepth 100000 in
set_option maxHeartbeats 4000000 in
theorem mul2 (d q b o c p:Nat) (x:Int) (X Y:Nat->Int) (w:World) (hx:W8 w b o X) (hy:W8 w c p Y) (hS:Sc w d q x) (hf:F8 w d q):
 Calls Tryz.prog 36 #[.pointer (some ⟨d,q,none⟩),.pointer (some ⟨b,o,none⟩),.pointer (some ⟨c,p,none⟩)] w fun e w'=>e=.returned (.pointer (some ⟨d,q,none⟩))/\Sc w' d q ((val8 (X 0) (X 1) (X 2) (X 3) (X 4) (X 5) (X 6) (X 7)*val8 (Y 0) (Y 1) (Y 2) (Y 3) (Y 4) (Y 5) (Y 6) (Y 7)) % NN)/\Fr (Rng d q 8) w w':=by
 have hld:=hS.lt
 have hlb:b < w.heap.size:=Bl0 w _ (hx 0 (by decide)).1
 have hlc:c < w.heap.size:=Bl0 w _ (hy 0 (by decide)).1
 refine enterA Tryz.func36 rfl (fun a0 z0 d0 ha=>?_)
 have e0:=ha 0 _ rfl
 have e1:=ha 1 _ rfl
 have e2:=ha 2 _ rfl
 replace z0:a0.tmps.size=1018:=z0
 refine Sq (Ke (Qu (Ji rfl) (ltz z0 rfl) fun a1 p1=>Wn (Qa ?_)))
 have z1:=p1.z.trans z0
 refine Sq (Ke (Qu exAlloc75 (ltz z1 rfl) fun a2 p2=>Wn (Qa ?_)))
 have z2:=p2.z.trans z1
 have e0':=(p2.n 0 (by decide)).trans ((p1.n 0 (by decide)).trans e0)
 have e1':=(p2.n 1 (by decide)).trans ((p1.n 1 (by decide)).trans e1)
 have e2':=(p2.n 2 (by decide)).trans ((p1.n 2 (by decide)).trans e2)
 have d2:=p2.f.trans (p1.f.trans d0)
 have hF0:Fr NoT w (w.alloc (.cells #[.int .u32 0,.int .u32 0,.int .u32 0] 75)):=(Fr.refl _ _).alloc _
 have hx0:W8 (w.alloc (.cells #[.int .u32 0,.int .u32 0,.int .u32 0] 75)) b o X:=fun i hi=>⟨hF0.someCell (hx i hi).1 (fun f=>f),(hx i hi).2⟩
 have hy0:W8 (w.alloc (.cells #[.int .u32 0,.int .u32 0,.int .u32 0] 75)) c p Y:=fun i hi=>⟨hF0.someCell (hy i hi).1 (fun f=>f),(hy i hi).2⟩
 have hS0:=hS.fr hF0 (fun _ _ _ f=>f)
 have hf0:=F8.fr hF0 hld hf
 have hdg:d≠w.heap.size:=by omega
 have hbg:b≠w.heap.size:=by omega
 have hcg:c≠w.heap.size:=by omega
 obtain ⟨hA0,hg0⟩:=allocAcc w
 obtain ⟨g,hg⟩:∃g,g=w.heap.size:=⟨_,rfl⟩
 rw [<-hg] at hA0 hg0 hbg hcg hdg
 have h:AM 8 8 7 g a2 (w.alloc (.cells #[.int .u32 0,.int .u32 0,.int .u32 0] 75)) (fun _=>0) 0 0 a2 (w.alloc (.cells #[.int .u32 0,.int .u32 0,.int .u32 0] 75)):=
  ⟨Past.refl _ _,p2.v.trans (by rw [hg]),fun k h1 h2=>absurd h1 (by omega),hA0,hg0,by decide,by decide,Fr.refl _ _⟩
 generalize w.alloc (.cells #[.int .u32 0,.int .u32 0,.int .u32 0] 75)=w0 at h hF0 hx0 hy0 hS0 hf0 ⊢
 refine Sq (Ql (s:=24) (i:=0) (j:=0) h e1' e2' hx0 hy0 hbg hcg (by decide) (by decide) (by rw [z2];decide) (by decide) (by kernel_rfl) (fun bb1 ww1 h' zz=>Qa ?_))
 have y1:=zz.trans z2;replace h:=h';clear h' zz
 obtain ⟨A0,hA0,h⟩:=Qs h
 refine Sq (Qi (s:=38) (d:=8) (top:=9) h (by decide) (by rw [y1];decide) (by decide) (by decide) (fun k _ _=>by omega) (fun bb2 ww2 h' zz=>Qa ?_))
 have y2:=zz.trans y1;replace h:=h';clear h' zz
 refine Sq (Qj (s:=42) h (by decide) (by rw [y2];decide) (by decide) (fun bb3 ww3 h' zz=>Qa ?_))
 have y3:=zz.trans y2;replace h:=h';clear h' zz
 refine Sq (Ql (s:=43) (i:=0) (j:=1) h e1' e2' hx0 hy0 hbg hcg (by decide) (by decide) (by rw [y3];decide) (by decide) (by kernel_rfl) (fun bb4 ww4 h' zz=>Qa ?_))
 have y4:=zz.trans y3;replace h:=h';clear h' zz
 refine Sq (Ql (s:=57) (i:=1) (j:=0) h e1' e2' hx0 hy0 hbg hcg (by decide) (by decide) (by rw [y4];decide) (by decide) (by kernel_rfl) (fun bb5 ww5 h' zz=>Qa ?_))
 have y5:=zz.trans y4;replace h:=h';clear h' zz
 obtain ⟨A1,hA1,h⟩:=Qs h
 refine Sq (Qi (s:=71) (d:=9) (top:=10) h (by decide) (by rw [y5];decide) (by decide) (by decide) (fun k _ _=>by omega) (fun bb6 ww6 h' zz=>Qa ?_))
 have y6:=zz.trans y5;replace h:=h';clear h' zz
 refine Sq (Qj (s:=75) h (by decide) (by rw [y6];decide) (by decide) (fun bb7 ww7 h' zz=>Qa ?_))
 have y7:=zz.trans y6;replace h:=h';clear h' zz
 refine Sq (Ql (s:=76) (i:=0) (j:=2) h e1' e2' hx0 hy0 hbg hcg (by decide) (by decide) (by rw [y7];decide) (by decide) (by kernel_rfl) (fun bb8 ww8 h' zz=>Qa ?_))
 have y8:=zz.trans y7;replace h:=h';clear h' zz
 refine Sq (Ql (s:=90) (i:=1) (j:=1) h e1' e2' hx0 hy0 hbg hcg (by decide) (by decide) (by rw [y8];decide) (by decide) (by kernel_rfl) (fun bb9 ww9 h' zz=>Qa ?_))
 have y9:=zz.trans y8;replace h:=h';clear h' zz
 refine Sq (Ql (s:=104) (i:=2) (j:=0) h e1' e2' hx0 hy0 hbg hcg (by decide) (by decide) (by rw [y9];decide) (by decide) (by kernel_rfl) (fun bb10 ww10 h' zz=>Qa ?_))
 have y10:=zz.trans y9;replace h:=h';clear h' zz
 obtain ⟨A2,hA2,h⟩:=Qs h
 refine Sq (Qi (s:=118) (d:=10) (top:=11) h (by decide) (by rw [y10];decide) (by decide) (by decide) (fun k _ _=>by omega) (fun bb11 ww11 h' zz=>Qa ?_))
 have y11:=zz.trans y10;replace h:=h';clear h' zz
 refine Sq (Qj (s:=122) h (by decide) (by rw [y11];decide) (by decide) (fun bb12 ww12 h' zz=>Qa ?_))
 have y12:=zz.trans y11;replace h:=h';clear h' zz
 refine Sq (Ql (s:=123) (i:=0) (j:=3) h e1' e2' hx0 hy0 hbg hcg (by decide) (by decide) (by rw [y12];decide) (by decide) (by kernel_rfl) (fun bb13 ww13 h' zz=>Qa ?_))
 have y13:=zz.trans y12;replace h:=h';clear h' zz
 refine Sq (Ql (s:=137) (i:=1) (j:=2) h e1' e2' hx0 hy0 hbg hcg (by decide) (by decide) (by rw [y13];decide) (by decide) (by kernel_rfl) (fun bb14 ww14 h' zz=>Qa ?_))
 have y14:=zz.trans y13;replace h:=h';clear h' zz
 refine Sq (Ql (s:=151) (i:=2) (j:=1) h e1' e2' hx0 hy0 hbg hcg (by decide) (by decide) (by rw [y14];decide) (by decide) (by kernel_rfl) (fun bb15 ww15 h' zz=>Qa ?_))
 have y15:=zz.trans y14;replace h:=h';clear h' zz
 refine Sq (Ql (s:=165) (i:=3) (j:=0) h e1' e2' hx0 hy0 hbg hcg (by decide) (by decide) (by rw [y15];decide) (by decide) (by kernel_rfl) (fun bb16 ww16 h' zz=>Qa ?_))
 have y16:=zz.trans y15;replace h:=h';clear h' zz
 obtain ⟨A3,hA3,h⟩:=Qs h
 refine Sq (Qi (s:=179) (d:=11) (top:=12) h (by decide) (by rw [y16];decide) (by decide) (by decide) (fun k _ _=>by omega) (fun bb17 ww17 h' zz=>Qa ?_))
 have y17:=zz.trans y16;replace h:=h';clear h' zz
 refine Sq (Qj (s:=183) h (by decide) (by rw [y17];decide) (by decide) (fun bb18 ww18 h' zz=>Qa ?_))
 have y18:=zz.trans y17;replace h:=h';clear h' zz
 refine Sq (Ql (s:=184) (i:=0) (j:=4) h e1' e2' hx0 hy0 hbg hcg (by decide) (by decide) (by rw [y18];decide) (by decide) (by kernel_rfl) (fun bb19 ww19 h' zz=>Qa ?_))
 have y19:=zz.trans y18;replace h:=h';clear h' zz
 refine Sq (Ql (s:=198) (i:=1) (j:=3) h e1' e2' hx0 hy0 hbg hcg (by decide) (by decide) (by rw [y19];decide) (by decide) (by kernel_rfl) (fun bb20 ww20 h' zz=>Qa ?_))
 have y20:=zz.trans y19;replace h:=h';clear h' zz
 refine Sq (Ql (s:=212) (i:=2) (j:=2) h e1' e2' hx0 hy0 hbg hcg (by decide) (by decide) (by rw [y20];decide) (by decide) (by kernel_rfl) (fun bb21 ww21 h' zz=>Qa ?_))
 have y21:=zz.trans y20;replace h:=h';clear h' zz
 refine Sq (Ql (s:=226) (i:=3) (j:=1) h e1' e2' hx0 hy0 hbg hcg (by decide) (by decide) (by rw [y21];decide) (by decide) (by kernel_rfl) (fun bb22 ww22 h' zz=>Qa ?_))
 have y22:=zz.trans y21;replace h:=h';clear h' zz
 refine Sq (Ql (s:=240) (i:=4) (j:=0) h e1' e2' hx0 hy0 hbg hcg (by decide) (by decide) (by rw [y22];decide) (by decide) (by kernel_rfl) (fun bb23 ww23 h' zz=>Qa ?_))
 have y23:=zz.trans y22;replace h:=h';clear h' zz
 obtain ⟨A4,hA4,h⟩:=Qs h
 refine Sq (Qi (s:=254) (d:=12) (top:=13) h (by decide) (by rw [y23];decide) (by decide) (by decide) (fun k _ _=>by omega) (fun bb24 ww24 h' zz=>Qa ?_))
 have y24:=zz.trans y23;replace h:=h';clear h' zz
 refine Sq (Qj (s:=258) h (by decide) (by rw [y24];decide) (by decide) (fun bb25 ww25 h' zz=>Qa ?_))
 have y25:=zz.trans y24;replace h:=h';clear h' zz
 refine Sq (Ql (s:=259) (i:=0) (j:=5) h e1' e2' hx0 hy0 hbg hcg (by decide) (by decide) (by rw [y25];decide) (by decide) (by kernel_rfl) (fun bb26 ww26 h' zz=>Qa ?_))
 have y26:=zz.trans y25;replace h:=h';clear h' zz
 refine Sq (Ql (s:=273) (i:=1) (j:=4) h e1' e2' hx0 hy0 hbg hcg (by decide) (by decide) (by rw [y26];decide) (by decide) (by kernel_rfl) (fun bb27 ww27 h' zz=>Qa ?_))
 have y27:=zz.trans y26;replace h:=h';clear h' zz
 refine Sq (Ql (s:=287) (i:=2) (j:=3) h e1' e2' hx0 hy0 hbg hcg (by decide) (by decide) (by rw [y27];decide) (by decide) (by kernel_rfl) (fun bb28 ww28 h' zz=>Qa ?_))
 have y28:=zz.trans y27;replace h:=h';clear h' zz
 refine Sq (Ql (s:=301) (i:=3) (j:=2) h e1' e2' hx0 hy0 hbg hcg (by decide) (by decide) (by rw [y28];decide) (by decide) (by kernel_rfl) (fun bb29 ww29 h' zz=>Qa ?_))
 have y29:=zz.trans y28;replace h:=h';clear h' zz
 refine Sq (Ql (s:=315) (i:=4) (j:=1) h e1' e2' hx0 hy0 hbg hcg (by decide) (by decide) (by rw [y29];decide) (by decide) (by kernel_rfl) (fun bb30 ww30 h' zz=>Qa ?_))
 have y30:=zz.trans y29;replace h:=h';clear h' zz
 refine Sq (Ql (s:=329) (i:=5) (j:=0) h e1' e2' hx0 hy0 hbg hcg (by decide) (by decide) (by rw [y30];decide) (by decide) (by kernel_rfl) (fun bb31 ww31 h' zz=>Qa ?_))
 have y31:=zz.trans y30;replace h:=h';clear h' zz
 obtain ⟨A5,hA5,h⟩:=Qs h
 refine Sq (Qi (s:=343) (d:=13) (top:=14) h (by decide) (by rw [y31];decide) (by decide) (by decide) (fun k _ _=>by omega) (fun bb32 ww32 h' zz=>Qa ?_))
 have y32:=zz.trans y31;replace h:=h';clear h' zz
 refine Sq (Qj (s:=347) h (by decide) (by rw [y32];decide) (by decide) (fun bb33 ww33 h' zz=>Qa ?_))
 have y33:=zz.trans y32;replace h:=h';clear h' zz
 refine Sq (Ql (s:=348) (i:=0) (j:=6) h e1' e2' hx0 hy0 hbg hcg (by decide) (by decide) (by rw [y33];decide) (by decide) (by kernel_rfl) (fun bb34 ww34 h' zz=>Qa ?_))
 have y34:=zz.trans y33;replace h:=h';clear h' zz
 refine Sq (Ql (s:=362) (i:=1) (j:=5) h e1' e2' hx0 hy0 hbg hcg (by decide) (by decide) (by rw [y34];decide) (by decide) (by kernel_rfl) (fun bb35 ww35 h' zz=>Qa ?_))
 have y35:=zz.trans y34;replace h:=h';clear h' zz
 refine Sq (Ql (s:=376) (i:=2) (j:=4) h e1' e2' hx0 hy0 hbg hcg (by decide) (by decide) (by rw [y35];decide) (by decide) (by kernel_rfl) (fun bb36 ww36 h' zz=>Qa ?_))
 have y36:=zz.trans y35;replace h:=h';clear h' zz
 refine Sq (Ql (s:=390) (i:=3) (j:=3) h e1' e2' hx0 hy0 hbg hcg (by decide) (by decide) (by rw [y36];decide) (by decide) (by kernel_rfl) (fun bb37 ww37 h' zz=>Qa ?_))
 have y37:=zz.trans y36;replace h:=h';clear h' zz
 refine Sq (Ql (s:=404) (i:=4) (j:=2) h e1' e2' hx0 hy0 hbg hcg (by decide) (by decide) (by rw [y37];decide) (by decide) (by kernel_rfl) (fun bb38 ww38 h' zz=>Qa ?_))
 have y38:=zz.trans y37;replace h:=h';clear h' zz
 refine Sq (Ql (s:=418) (i:=5) (j:=1) h e1' e2' hx0 hy0 hbg hcg (by decide) (by decide) (by rw [y38];decide) (by decide) (by kernel_rfl) (fun bb39 ww39 h' zz=>Qa ?_))
 have y39:=zz.trans y38;replace h:=h';clear h' zz
 refine Sq (Ql (s:=432) (i:=6) (j:=0) h e1' e2' hx0 hy0 hbg hcg (by decide) (by decide) (by rw [y39];decide) (by decide) (by kernel_rfl) (fun bb40 ww40 h' zz=>Qa ?_))
 have y40:=zz.trans y39;replace h:=h';clear h' zz
 obtain ⟨A6,hA6,h⟩:=Qs h
 refine Sq (Qi (s:=446) (d:=14) (top:=15) h (by decide) (by rw [y40];decide) (by decide) (by decide) (fun k _ _=>by omega) (fun bb41 ww41 h' zz=>Qa ?_))
 have y41:=zz.trans y40;replace h:=h';clear h' zz
 refine Sq (Qj (s:=450) h (by decide) (by rw [y41];decide) (by decide) (fun bb42 ww42 h' zz=>Qa ?_))
 have y42:=zz.trans y41;replace h:=h';clear h' zz
 refine Sq (Ql (s:=451) (i:=0) (j:=7) h e1' e2' hx0 hy0 hbg hcg (by decide) (by decide) (by rw [y42];decide) (by decide) (by kernel_rfl) (fun bb43 ww43 h' zz=>Qa ?_))
 have y43:=zz.trans y42;replace h:=h';clear h' zz
 refine Sq (Ql (s:=465) (i:=1) (j:=6) h e1' e2' hx0 hy0 hbg hcg (by decide) (by decide) (by rw [y43];decide) (by decide) (by kernel_rfl) (fun bb44 ww44 h' zz=>Qa ?_))
 have y44:=zz.trans y43;replace h:=h';clear h' zz
 refine Sq (Ql (s:=479) (i:=2) (j:=5) h e1' e2' hx0 hy0 hbg hcg (by decide) (by decide) (by rw [y44];decide) (by decide) (by kernel_rfl) (fun bb45 ww45 h' zz=>Qa ?_))
 have y45:=zz.trans y44;replace h:=h';clear h' zz
 refine Sq (Ql (s:=493) (i:=3) (j:=4) h e1' e2' hx0 hy0 hbg hcg (by decide) (by decide) (by rw [y45];decide) (by decide) (by kernel_rfl) (fun bb46 ww46 h' zz=>Qa ?_))
 have y46:=zz.trans y45;replace h:=h';clear h' zz
 refine Sq (Ql (s:=507) (i:=4) (j:=3) h e1' e2' hx0 hy0 hbg hcg (by decide) (by decide) (by rw [y46];decide) (by decide) (by kernel_rfl) (fun bb47 ww47 h' zz=>Qa ?_))
 have y47:=zz.trans y46;replace h:=h';clear h' zz
 refine Sq (Ql (s:=521) (i:=5) (j:=2) h e1' e2' hx0 hy0 hbg hcg (by decide) (by decide) (by rw [y47];decide) (by decide) (by kernel_rfl) (fun bb48 ww48 h' zz=>Qa ?_))
 have y48:=zz.trans y47;replace h:=h';clear h' zz
 refine Sq (Ql (s:=535) (i:=6) (j:=1) h e1' e2' hx0 hy0 hbg hcg (by decide) (by decide) (by rw [y48];decide) (by decide) (by kernel_rfl) (fun bb49 ww49 h' zz=>Qa ?_))
 have y49:=zz.trans y48;replace h:=h';clear h' zz
 refine Sq (Ql (s:=549) (i:=7) (j:=0) h e1' e2' hx0 hy0 hbg hcg (by decide) (by decide) (by rw [y49];decide) (by decide) (by kernel_rfl) (fun bb50 ww50 h' zz=>Qa ?_))
 have y50:=zz.trans y49;replace h:=h';clear h' zz
 obtain ⟨A7,hA7,h⟩:=Qs h
 refine Sq (Qi (s:=563) (d:=15) (top:=16) h (by decide) (by rw [y50];decide) (by decide) (by decide) (fun k _ _=>by omega) (fun bb51 ww51 h' zz=>Qa ?_))
 have y51:=zz.trans y50;replace h:=h';clear h' zz
 refine Sq (Qj (s:=567) h (by decide) (by rw [y51];decide) (by decide) (fun bb52 ww52 h' zz=>Qa ?_))
 have y52:=zz.trans y51;replace h:=h';clear h' zz
 refine Sq (Ql (s:=568) (i:=1) (j:=7) h e1' e2' hx0 hy0 hbg hcg (by decide) (by decide) (by rw [y52];decide) (by decide) (by kernel_rfl) (fun bb53 ww53 h' zz=>Qa ?_))
 have y53:=zz.trans y52;replace h:=h';clear h' zz
 refine Sq (Ql (s:=582) (i:=2) (j:=6) h e1' e2' hx0 hy0 hbg hcg (by decide) (by decide) (by rw [y53];decide) (by decide) (by kernel_rfl) (fun bb54 ww54 h' zz=>Qa ?_))
 have y54:=zz.trans y53;replace h:=h';clear h' zz
 refine Sq (Ql (s:=596) (i:=3) (j:=5) h e1' e2' hx0 hy0 hbg hcg (by decide) (by decide) (by rw [y54];decide) (by decide) (by kernel_rfl) (fun bb55 ww55 h' zz=>Qa ?_))
 have y55:=zz.trans y54;replace h:=h';clear h' zz
 refine Sq (Ql (s:=610) (i:=4) (j:=4) h e1' e2' hx0 hy0 hbg hcg (by decide) (by decide) (by rw [y55];decide) (by decide) (by kernel_rfl) (fun bb56 ww56 h' zz=>Qa ?_))
 have y56:=zz.trans y55;replace h:=h';clear h' zz
 refine Sq (Ql (s:=624) (i:=5) (j:=3) h e1' e2' hx0 hy0 hbg hcg (by decide) (by decide) (by rw [y56];decide) (by decide) (by kernel_rfl) (fun bb57 ww57 h' zz=>Qa ?_))
 have y57:=zz.trans y56;replace h:=h';clear h' zz
 refine Sq (Ql (s:=638) (i:=6) (j:=2) h e1' e2' hx0 hy0 hbg hcg (by decide) (by decide) (by rw [y57];decide) (by decide) (by kernel_rfl) (fun bb58 ww58 h' zz=>Qa ?_))
 have y58:=zz.trans y57;replace h:=h';clear h' zz
 refine Sq (Ql (s:=652) (i:=7) (j:=1) h e1' e2' hx0 hy0 hbg hcg (by decide) (by decide) (by rw [y58];decide) (by decide) (by kernel_rfl) (fun bb59 ww59 h' zz=>Qa ?_))
 have y59:=zz.trans y58;replace h:=h';clear h' zz
 obtain ⟨A8,hA8,h⟩:=Qs h
 refine Sq (Qi (s:=666) (d:=16) (top:=17) h (by decide) (by rw [y59];decide) (by decide) (by decide) (fun k _ _=>by omega) (fun bb60 ww60 h' zz=>Qa ?_))
 have y60:=zz.trans y59;replace h:=h';clear h' zz
 refine Sq (Qj (s:=670) h (by decide) (by rw [y60];decide) (by decide) (fun bb61 ww61 h' zz=>Qa ?_))
 have y61:=zz.trans y60;replace h:=h';clear h' zz
 refine Sq (Ql (s:=671) (i:=2) (j:=7) h e1' e2' hx0 hy0 hbg hcg (by decide) (by decide) (by rw [y61];decide) (by decide) (by kernel_rfl) (fun bb62 ww62 h' zz=>Qa ?_))
 have y62:=zz.trans y61;replace h:=h';clear h' zz
 refine Sq (Ql (s:=685) (i:=3) (j:=6) h e1' e2' hx0 hy0 hbg hcg (by decide) (by decide) (by rw [y62];decide) (by decide) (by kernel_rfl) (fun bb63 ww63 h' zz=>Qa ?_))
 have y63:=zz.trans y62;replace h:=h';clear h' zz
 refine Sq (Ql (s:=699) (i:=4) (j:=5) h e1' e2' hx0 hy0 hbg hcg (by decide) (by decide) (by rw [y63];decide) (by decide) (by kernel_rfl) (fun bb64 ww64 h' zz=>Qa ?_))
 have y64:=zz.trans y63;replace h:=h';clear h' zz
 refine Sq (Ql (s:=713) (i:=5) (j:=4) h e1' e2' hx0 hy0 hbg hcg (by decide) (by decide) (by rw [y64];decide) (by decide) (by kernel_rfl) (fun bb65 ww65 h' zz=>Qa ?_))
 have y65:=zz.trans y64;replace h:=h';clear h' zz
 refine Sq (Ql (s:=727) (i:=6) (j:=3) h e1' e2' hx0 hy0 hbg hcg (by decide) (by decide) (by rw [y65];decide) (by decide) (by kernel_rfl) (fun bb66 ww66 h' zz=>Qa ?_))
 have y66:=zz.trans y65;replace h:=h';clear h' zz
 refine Sq (Ql (s:=741) (i:=7) (j:=2) h e1' e2' hx0 hy0 hbg hcg (by decide) (by decide) (by rw [y66];decide) (by decide) (by kernel_rfl) (fun bb67 ww67 h' zz=>Qa ?_))
 have y67:=zz.trans y66;replace h:=h';clear h' zz
 obtain ⟨A9,hA9,h⟩:=Qs h
 refine Sq (Qi (s:=755) (d:=17) (top:=18) h (by decide) (by rw [y67];decide) (by decide) (by decide) (fun k _ _=>by omega) (fun bb68 ww68 h' zz=>Qa ?_))
 have y68:=zz.trans y67;replace h:=h';clear h' zz
 refine Sq (Qj (s:=759) h (by decide) (by rw [y68];decide) (by decide) (fun bb69 ww69 h' zz=>Qa ?_))
 have y69:=zz.trans y68;replace h:=h';clear h' zz
 refine Sq (Ql (s:=760) (i:=3) (j:=7) h e1' e2' hx0 hy0 hbg hcg (by decide) (by decide) (by rw [y69];decide) (by decide) (by kernel_rfl) (fun bb70 ww70 h' zz=>Qa ?_))
 have y70:=zz.trans y69;replace h:=h';clear h' zz
 refine Sq (Ql (s:=774) (i:=4) (j:=6) h e1' e2' hx0 hy0 hbg hcg (by decide) (by decide) (by rw [y70];decide) (by decide) (by kernel_rfl) (fun bb71 ww71 h' zz=>Qa ?_))
 have y71:=zz.trans y70;replace h:=h';clear h' zz
 refine Sq (Ql (s:=788) (i:=5) (j:=5) h e1' e2' hx0 hy0 hbg hcg (by decide) (by decide) (by rw [y71];decide) (by decide) (by kernel_rfl) (fun bb72 ww72 h' zz=>Qa ?_))
 have y72:=zz.trans y71;replace h:=h';clear h' zz
 refine Sq (Ql (s:=802) (i:=6) (j:=4) h e1' e2' hx0 hy0 hbg hcg (by decide) (by decide) (by rw [y72];decide) (by decide) (by kernel_rfl) (fun bb73 ww73 h' zz=>Qa ?_))
 have y73:=zz.trans y72;replace h:=h';clear h' zz
 refine Sq (Ql (s:=816) (i:=7) (j:=3) h e1' e2' hx0 hy0 hbg hcg (by decide) (by decide) (by rw [y73];decide) (by decide) (by kernel_rfl) (fun bb74 ww74 h' zz=>Qa ?_))
 have y74:=zz.trans y73;replace h:=h';clear h' zz
 obtain ⟨A10,hA10,h⟩:=Qs h
 refine Sq (Qi (s:=830) (d:=18) (top:=19) h (by decide) (by rw [y74];decide) (by decide) (by decide) (fun k _ _=>by omega) (fun bb75 ww75 h' zz=>Qa ?_))
 have y75:=zz.trans y74;replace h:=h';clear h' zz
 refine Sq (Qj (s:=834) h (by decide) (by rw [y75];decide) (by decide) (fun bb76 ww76 h' zz=>Qa ?_))
 have y76:=zz.trans y75;replace h:=h';clear h' zz
 refine Sq (Ql (s:=835) (i:=4) (j:=7) h e1' e2' hx0 hy0 hbg hcg (by decide) (by decide) (by rw [y76];decide) (by decide) (by kernel_rfl) (fun bb77 ww77 h' zz=>Qa ?_))
 have y77:=zz.trans y76;replace h:=h';clear h' zz
 refine Sq (Ql (s:=849) (i:=5) (j:=6) h e1' e2' hx0 hy0 hbg hcg (by decide) (by decide) (by rw [y77];decide) (by decide) (by kernel_rfl) (fun bb78 ww78 h' zz=>Qa ?_))
 have y78:=zz.trans y77;replace h:=h';clear h' zz
 refine Sq (Ql (s:=863) (i:=6) (j:=5) h e1' e2' hx0 hy0 hbg hcg (by decide) (by decide) (by rw [y78];decide) (by decide) (by kernel_rfl) (fun bb79 ww79 h' zz=>Qa ?_))
 have y79:=zz.trans y78;replace h:=h';clear h' zz
 refine Sq (Ql (s:=877) (i:=7) (j:=4) h e1' e2' hx0 hy0 hbg hcg (by decide) (by decide) (by rw [y79];decide) (by decide) (by kernel_rfl) (fun bb80 ww80 h' zz=>Qa ?_))
 have y80:=zz.trans y79;replace h:=h';clear h' zz
 obtain ⟨A11,hA11,h⟩:=Qs h
 refine Sq (Qi (s:=891) (d:=19) (top:=20) h (by decide) (by rw [y80];decide) (by decide) (by decide) (fun k _ _=>by omega) (fun bb81 ww81 h' zz=>Qa ?_))
 have y81:=zz.trans y80;replace h:=h';clear h' zz
 refine Sq (Qj (s:=895) h (by decide) (by rw [y81];decide) (by decide) (fun bb82 ww82 h' zz=>Qa ?_))
 have y82:=zz.trans y81;replace h:=h';clear h' zz
 refine Sq (Ql (s:=896) (i:=5) (j:=7) h e1' e2' hx0 hy0 hbg hcg (by decide) (by decide) (by rw [y82];decide) (by decide) (by kernel_rfl) (fun bb83 ww83 h' zz=>Qa ?_))
 have y83:=zz.trans y82;replace h:=h';clear h' zz
 refine Sq (Ql (s:=910) (i:=6) (j:=6) h e1' e2' hx0 hy0 hbg hcg (by decide) (by decide) (by rw [y83];decide) (by decide) (by kernel_rfl) (fun bb84 ww84 h' zz=>Qa ?_))
 have y84:=zz.trans y83;replace h:=h';clear h' zz
 refine Sq (Ql (s:=924) (i:=7) (j:=5) h e1' e2' hx0 hy0 hbg hcg (by decide) (by decide) (by rw [y84];decide) (by decide) (by kernel_rfl) (fun bb85 ww85 h' zz=>Qa ?_))
 have y85:=zz.trans y84;replace h:=h';clear h' zz
 obtain ⟨A12,hA12,h⟩:=Qs h
 refine Sq (Qi (s:=938) (d:=20) (top:=21) h (by decide) (by rw [y85];decide) (by decide) (by decide) (fun k _ _=>by omega) (fun bb86 ww86 h' zz=>Qa ?_))
 have y86:=zz.trans y85;replace h:=h';clear h' zz
 refine Sq (Qj (s:=942) h (by decide) (by rw [y86];decide) (by decide) (fun bb87 ww87 h' zz=>Qa ?_))
 have y87:=zz.trans y86;replace h:=h';clear h' zz
 refine Sq (Ql (s:=943) (i:=6) (j:=7) h e1' e2' hx0 hy0 hbg hcg (by decide) (by decide) (by rw [y87];decide) (by decide) (by kernel_rfl) (fun bb88 ww88 h' zz=>Qa ?_))
 have y88:=zz.trans y87;replace h:=h';clear h' zz
 refine Sq (Ql (s:=957) (i:=7) (j:=6) h e1' e2' hx0 hy0 hbg hcg (by decide) (by decide) (by rw [y88];decide) (by decide) (by kernel_rfl) (fun bb89 ww89 h' zz=>Qa ?_))
 have y89:=zz.trans y88;replace h:=h';clear h' zz
 obtain ⟨A13,hA13,h⟩:=Qs h
 refine Sq (Qi (s:=971) (d:=21) (top:=22) h (by decide) (by rw [y89];decide) (by decide) (by decide) (fun k _ _=>by omega) (fun bb90 ww90 h' zz=>Qa ?_))
 have y90:=zz.trans y89;replace h:=h';clear h' zz
 refine Sq (Qj (s:=975) h (by decide) (by rw [y90];decide) (by decide) (fun bb91 ww91 h' zz=>Qa ?_))
 have y91:=zz.trans y90;replace h:=h';clear h' zz
 refine Sq (Ql (s:=976) (i:=7) (j:=7) h e1' e2' hx0 hy0 hbg hcg (by decide) (by decide) (by rw [y91];decide) (by decide) (by kernel_rfl) (fun bb92 ww92 h' zz=>Qa ?_))
 have y92:=zz.trans y91;replace h:=h';clear h' zz
 obtain ⟨A14,hA14,h⟩:=Qs h
 refine Sq (Qi (s:=990) (d:=22) (top:=23) h (by decide) (by rw [y92];decide) (by decide) (by decide) (fun k _ _=>by omega) (fun bb93 ww93 h' zz=>Qa ?_))
 have y93:=zz.trans y92;replace h:=h';clear h' zz
 refine Sq (Qj (s:=994) h (by decide) (by rw [y93];decide) (by decide) (fun bb94 ww94 h' zz=>Qa ?_))
 have y94:=zz.trans y93;replace h:=h';clear h' zz
 obtain ⟨A15,hA15,h⟩:=Qs h
 refine Sq (Qi (s:=995) (d:=23) (top:=24) h (by decide) (by rw [y94];decide) (by decide) (by decide) (fun k _ _=>by omega) (fun bb95 ww95 h' zz=>Qa ?_))
 have y95:=zz.trans y94;replace h:=h';clear h' zz
 have g0:=(h.past.n 0 (by decide)).trans e0'
 have dd0:=h.past.f.trans d2
 have w0:bb95.eval (.tmp 8)=.int .u64 (A0 % 4294967296):=(h.v 8 (by decide) (by decide)).1
 have R0:U32 (A0 % 4294967296):=(h.v 8 (by decide) (by decide)).2
 have w1:bb95.eval (.tmp 9)=.int .u64 (A1 % 4294967296):=(h.v 9 (by decide) (by decide)).1
 have R1:U32 (A1 % 4294967296):=(h.v 9 (by decide) (by decide)).2
 have w2:bb95.eval (.tmp 10)=.int .u64 (A2 % 4294967296):=(h.v 10 (by decide) (by decide)).1
 have R2:U32 (A2 % 4294967296):=(h.v 10 (by decide) (by decide)).2
 have w3:bb95.eval (.tmp 11)=.int .u64 (A3 % 4294967296):=(h.v 11 (by decide) (by decide)).1
 have R3:U32 (A3 % 4294967296):=(h.v 11 (by decide) (by decide)).2
 have w4:bb95.eval (.tmp 12)=.int .u64 (A4 % 4294967296):=(h.v 12 (by decide) (by decide)).1
 have R4:U32 (A4 % 4294967296):=(h.v 12 (by decide) (by decide)).2
 have w5:bb95.eval (.tmp 13)=.int .u64 (A5 % 4294967296):=(h.v 13 (by decide) (by decide)).1
 have R5:U32 (A5 % 4294967296):=(h.v 13 (by decide) (by decide)).2
 have w6:bb95.eval (.tmp 14)=.int .u64 (A6 % 4294967296):=(h.v 14 (by decide) (by decide)).1
 have R6:U32 (A6 % 4294967296):=(h.v 14 (by decide) (by decide)).2
 have w7:bb95.eval (.tmp 15)=.int .u64 (A7 % 4294967296):=(h.v 15 (by decide) (by decide)).1
 have R7:U32 (A7 % 4294967296):=(h.v 15 (by decide) (by decide)).2
 have w8:bb95.eval (.tmp 16)=.int .u64 (A8 % 4294967296):=(h.v 16 (by decide) (by decide)).1
 have R8:U32 (A8 % 4294967296):=(h.v 16 (by decide) (by decide)).2
 have w9:bb95.eval (.tmp 17)=.int .u64 (A9 % 4294967296):=(h.v 17 (by decide) (by decide)).1
 have R9:U32 (A9 % 4294967296):=(h.v 17 (by decide) (by decide)).2
 have w10:bb95.eval (.tmp 18)=.int .u64 (A10 % 4294967296):=(h.v 18 (by decide) (by decide)).1
 have R10:U32 (A10 % 4294967296):=(h.v 18 (by decide) (by decide)).2
 have w11:bb95.eval (.tmp 19)=.int .u64 (A11 % 4294967296):=(h.v 19 (by decide) (by decide)).1
 have R11:U32 (A11 % 4294967296):=(h.v 19 (by decide) (by decide)).2
 have w12:bb95.eval (.tmp 20)=.int .u64 (A12 % 4294967296):=(h.v 20 (by decide) (by decide)).1
 have R12:U32 (A12 % 4294967296):=(h.v 20 (by decide) (by decide)).2
 have w13:bb95.eval (.tmp 21)=.int .u64 (A13 % 4294967296):=(h.v 21 (by decide) (by decide)).1
 have R13:U32 (A13 % 4294967296):=(h.v 21 (by decide) (by decide)).2
 have w14:bb95.eval (.tmp 22)=.int .u64 (A14 % 4294967296):=(h.v 22 (by decide) (by decide)).1
 have R14:U32 (A14 % 4294967296):=(h.v 22 (by decide) (by decide)).2
 have w15:bb95.eval (.tmp 23)=.int .u64 (A15 % 4294967296):=(h.v 23 (by decide) (by decide)).1
 have R15:U32 (A15 % 4294967296):=(h.v 23 (by decide) (by decide)).2
 have hZ:=arithMul (mulExpand X Y) (mulLim X Y (fun i hi=>(hx i hi).2) (fun i hi=>(hy i hi).2)).1 (mulLim X Y (fun i hi=>(hx i hi).2) (fun i hi=>(hy i hi).2)).2 hA0 hA1 hA2 hA3 hA4 hA5 hA6 hA7 hA8 hA9 hA10 hA11 hA12 hA13 hA14 hA15
 have hSw:=hS0.fr h.fr (fun _ _ _ f=>hdg f.1)
 have hfw:=F8.fr h.fr hS0.lt hf0
 have hre:=reduce512 d q _ (A0 % 4294967296) (A1 % 4294967296) (A2 % 4294967296) (A3 % 4294967296) (A4 % 4294967296) (A5 % 4294967296) (A6 % 4294967296) (A7 % 4294967296) (A8 % 4294967296) (A9 % 4294967296) (A10 % 4294967296) (A11 % 4294967296) (A12 % 4294967296) (A13 % 4294967296) (A14 % 4294967296) (A15 % 4294967296) _ hSw hfw R0 R1 R2 R3 R4 R5 R6 R7 R8 R9 R10 R11 R12 R13 R14 R15
 rw [hZ] at hre
 refine Sq (wp_region_lit ?_)
 show wpList _ _ _ _ _ _
 refine wP (Qg (g0)) y95 dd0 rfl fun ac1 q1 zz1 dd1=>?_
 refine wP (Qg (q1.m w0 rfl)) zz1 dd1 rfl fun ac2 q2 zz2 dd2=>?_
 refine wP (Qg (q2.m (q1.m w1 rfl) rfl)) zz2 dd2 rfl fun ac3 q3 zz3 dd3=>?_
 refine wP (Qg (q3.m (q2.m (q1.m w2 rfl) rfl) rfl)) zz3 dd3 rfl fun ac4 q4 zz4 dd4=>?_
 refine wP (Qg (q4.m (q3.m (q2.m (q1.m w3 rfl) rfl) rfl) rfl)) zz4 dd4 rfl fun ac5 q5 zz5 dd5=>?_
 refine wP (Qg (q5.m (q4.m (q3.m (q2.m (q1.m w4 rfl) rfl) rfl) rfl) rfl)) zz5 dd5 rfl fun ac6 q6 zz6 dd6=>?_
 refine wP (Qg (q6.m (q5.m (q4.m (q3.m (q2.m (q1.m w5 rfl) rfl) rfl) rfl) rfl) rfl)) zz6 dd6 rfl fun ac7 q7 zz7 dd7=>?_
 refine wP (Qg (q7.m (q6.m (q5.m (q4.m (q3.m (q2.m (q1.m w6 rfl) rfl) rfl) rfl) rfl) rfl) rfl)) zz7 dd7 rfl fun ac8 q8 zz8 dd8=>?_
 refine wP (Qg (q8.m (q7.m (q6.m (q5.m (q4.m (q3.m (q2.m (q1.m w7 rfl) rfl) rfl) rfl) rfl) rfl) rfl) rfl)) zz8 dd8 rfl fun ac9 q9 zz9 dd9=>?_
 refine wP (Qg (q9.m (q8.m (q7.m (q6.m (q5.m (q4.m (q3.m (q2.m (q1.m w8 rfl) rfl) rfl) rfl) rfl) rfl) rfl) rfl) rfl)) zz9 dd9 rfl fun ac10 q10 zz10 dd10=>?_
 refine wP (Qg (q10.m (q9.m (q8.m (q7.m (q6.m (q5.m (q4.m (q3.m (q2.m (q1.m w9 rfl) rfl) rfl) rfl) rfl) rfl) rfl) rfl) rfl) rfl)) zz10 dd10 rfl fun ac11 q11 zz11 dd11=>?_
 refine wP (Qg (q11.m (q10.m (q9.m (q8.m (q7.m (q6.m (q5.m (q4.m (q3.m (q2.m (q1.m w10 rfl) rfl) rfl) rfl) rfl) rfl) rfl) rfl) rfl) rfl) rfl)) zz11 dd11 rfl fun ac12 q12 zz12 dd12=>?_
 refine wP (Qg (q12.m (q11.m (q10.m (q9.m (q8.m (q7.m (q6.m (q5.m (q4.m (q3.m (q2.m (q1.m w11 rfl) rfl) rfl) rfl) rfl) rfl) rfl) rfl) rfl) rfl) rfl) rfl)) zz12 dd12 rfl fun ac13 q13 zz13 dd13=>?_
 refine wP (Qg (q13.m (q12.m (q11.m (q10.m (q9.m (q8.m (q7.m (q6.m (q5.m (q4.m (q3.m (q2.m (q1.m w12 rfl) rfl) rfl) rfl) rfl) rfl) rfl) rfl) rfl) rfl) rfl) rfl) rfl)) zz13 dd13 rfl fun ac14 q14 zz14 dd14=>?_
 refine wP (Qg (q14.m (q13.m (q12.m (q11.m (q10.m (q9.m (q8.m (q7.m (q6.m (q5.m (q4.m (q3.m (q2.m (q1.m w13 rfl) rfl) rfl) rfl) rfl) rfl) rfl) rfl) rfl) rfl) rfl) rfl) rfl) rfl)) zz14 dd14 rfl fun ac15 q15 zz15 dd15=>?_
 refine wP (Qg (q15.m (q14.m (q13.m (q12.m (q11.m (q10.m (q9.m (q8.m (q7.m (q6.m (q5.m (q4.m (q3.m (q2.m (q1.m w14 rfl) rfl) rfl) rfl) rfl) rfl) rfl) rfl) rfl) rfl) rfl) rfl) rfl) rfl) rfl)) zz15 dd15 rfl fun ac16 q16 zz16 dd16=>?_
 refine wP (Qg (q16.m (q15.m (q14.m (q13.m (q12.m (q11.m (q10.m (q9.m (q8.m (q7.m (q6.m (q5.m (q4.m (q3.m (q2.m (q1.m w15 rfl) rfl) rfl) rfl) rfl) rfl) rfl) rfl) rfl) rfl) rfl) rfl) rfl) rfl) rfl) rfl)) zz16 dd16 rfl fun ac17 q17 zz17 dd17=>?_
 have f999_17:=q17.m (q16.m (q15.m (q14.m (q13.m (q12.m (q11.m (q10.m (q9.m (q8.m (q7.m (q6.m (q5.m (q4.m (q3.m (q2.m q1.v rfl) rfl) rfl) rfl) rfl) rfl) rfl) rfl) rfl) rfl) rfl) rfl) rfl) rfl) rfl) rfl
 have f1000_17:=q17.m (q16.m (q15.m (q14.m (q13.m (q12.m (q11.m (q10.m (q9.m (q8.m (q7.m (q6.m (q5.m (q4.m (q3.m q2.v rfl) rfl) rfl) rfl) rfl) rfl) rfl) rfl) rfl) rfl) rfl) rfl) rfl) rfl) rfl
 have f1001_17:=q17.m (q16.m (q15.m (q14.m (q13.m (q12.m (q11.m (q10.m (q9.m (q8.m (q7.m (q6.m (q5.m (q4.m q3.v rfl) rfl) rfl) rfl) rfl) rfl) rfl) rfl) rfl) rfl) rfl) rfl) rfl) rfl
 have f1002_17:=q17.m (q16.m (q15.m (q14.m (q13.m (q12.m (q11.m (q10.m (q9.m (q8.m (q7.m (q6.m (q5.m q4.v rfl) rfl) rfl) rfl) rfl) rfl) rfl) rfl) rfl) rfl) rfl) rfl) rfl
 have f1003_17:=q17.m (q16.m (q15.m (q14.m (q13.m (q12.m (q11.m (q10.m (q9.m (q8.m (q7.m (q6.m q5.v rfl) rfl) rfl) rfl) rfl) rfl) rfl) rfl) rfl) rfl) rfl) rfl
 have f1004_17:=q17.m (q16.m (q15.m (q14.m (q13.m (q12.m (q11.m (q10.m (q9.m (q8.m (q7.m q6.v rfl) rfl) rfl) rfl) rfl) rfl) rfl) rfl) rfl) rfl) rfl
 have f1005_17:=q17.m (q16.m (q15.m (q14.m (q13.m (q12.m (q11.m (q10.m (q9.m (q8.m q7.v rfl) rfl) rfl) rfl) rfl) rfl) rfl) rfl) rfl) rfl
 have f1006_17:=q17.m (q16.m (q15.m (q14.m (q13.m (q12.m (q11.m (q10.m (q9.m q8.v rfl) rfl) rfl) rfl) rfl) rfl) rfl) rfl) rfl
 have f1007_17:=q17.m (q16.m (q15.m (q14.m (q13.m (q12.m (q11.m (q10.m q9.v rfl) rfl) rfl) rfl) rfl) rfl) rfl) rfl
 have f1008_17:=q17.m (q16.m (q15.m (q14.m (q13.m (q12.m (q11.m q10.v rfl) rfl) rfl) rfl) rfl) rfl) rfl
 have f1009_17:=q17.m (q16.m (q15.m (q14.m (q13.m (q12.m q11.v rfl) rfl) rfl) rfl) rfl) rfl
 have f1010_17:=q17.m (q16.m (q15.m (q14.m (q13.m q12.v rfl) rfl) rfl) rfl) rfl
 have f1011_17:=q17.m (q16.m (q15.m (q14.m q13.v rfl) rfl) rfl) rfl
 have f1012_17:=q17.m (q16.m (q15.m q14.v rfl) rfl) rfl
 have f1013_17:=q17.m (q16.m q15.v rfl) rfl
 have f1014_17:=q17.m q16.v rfl
 have f0_17:=q17.m (q16.m (q15.m (q14.m (q13.m (q12.m (q11.m (q10.m (q9.m (q8.m (q7.m (q6.m (q5.m (q4.m (q3.m (q2.m (q1.m g0 rfl) rfl) rfl) rfl) rfl) rfl) rfl) rfl) rfl) rfl) rfl) rfl) rfl) rfl) rfl) rfl) rfl
 refine wlCall (exCall17 (f999_17) (f1000_17) (f1001_17) (f1002_17) (f1003_17) (f1004_17) (f1005_17) (f1006_17) (f1007_17) (f1008_17) (f1009_17) (f1010_17) (f1011_17) (f1012_17) (f1013_17) (f1014_17) (q17.v) rfl (by go_simp)) hre (ltz zz17 rfl) ?_
 rintro e w' ⟨rfl,hR,hFR⟩
 refine ⟨_,rfl,fun ac18 q18=>Wn (Qa ?_)⟩
 have zz18:=q18.z.trans zz17
 have dd18:=q18.f.trans dd17
 refine Sq (wp_region_lit ?_)
 show wpList _ _ _ _ _ _
 refine wP (Qg (q18.m f0_17 rfl)) zz18 dd18 rfl fun ac19 q19 zz19 dd19=>?_
 refine wP (Ji (q19.v)) zz19 dd19 rfl fun ac20 q20 zz20 dd20=>?_
 refine Wn (Qa ?_)
 refine retA rfl dd20 (q20.v) ⟨rfl,hR,?_⟩
 refine ((hF0.mono (fun _ _ _ f=>f.elim)).trans ((h.fr.mono (T:=Or2 (Rng d q 8) (Rng g 0 3)) (fun _ _ _ f=>.inr f)).trans (hFR.mono (fun _ _ _ f=>.inl f)))).mono (fun k o hk f=>?_)
 rcases f with f | f
 ·exact f
 have:=f.1;omega
section
variable {ρ:Operand->Value} {w:World} {d:Option Nat} {ty:TypeId} {pos:String} {after:Array Edge} {g:Option (Nat × Bool)}
theorem exIndex24 {x:Operand} {b o i:Nat} (h:ρ x=.pointer (some ⟨b,o,none⟩)) (hc:ρ (.const (.int .i64 i))=.int .i64 i) (hi:i < 32):(execOp ρ ⟨d,.indexAddr 24 x (.const (.int .i64 i)),ty,pos,after,g⟩).run Tryz.prog w=.ok (.value (.pointer (some ⟨b,o+i,none⟩))) w:=by
 simp only [execOp,h,hc]
 go_simp
 intro hle;exact absurd hle (by omega)
theorem exLoad5 {x:Operand} {A:Addr} {n:Int} (h:ρ x=.pointer (some A)) (hc:w.cell? A=some (.int .u8 n)):(execOp ρ ⟨d,.load 5 x,ty,pos,after,g⟩).run Tryz.prog w=.ok (.value (.int .u8 n)) w:=by
 simp only [execOp,h];go_simp
theorem exConv8 {x:Operand} {n:Int} (h:ρ x=.int .u8 n) (hn:0<=n/\n < 256):(execOp ρ ⟨d,.convert 5 33 x,ty,pos,after,g⟩).run Tryz.prog w=.ok (.value (.int .u32 n)) w:=by
 obtain ⟨h0,h1⟩:=hn
 have e:IntKind.u32.wrap n=n:=by rw [J8];omega
 simp only [execOp,h];go_simp
theorem exShl8 {x:Operand} {n:Int} (h:ρ x=.int .u32 n) (hc:ρ (.const (.int .u64 8))=.int .u64 8) (hn:0<=n/\n < 256):(execOp ρ ⟨d,.binOp .shl 33 x (.const (.int .u64 8)) 54,ty,pos,after,g⟩).run Tryz.prog w=.ok (.value (.int .u32 (n*256))) w:=by
 have e:IntKind.u32.wrap (n*256)=n*256:=by rw [J8];omega
 simp only [execOp,h,hc];go_simp
theorem exShl16 {x:Operand} {n:Int} (h:ρ x=.int .u32 n) (hc:ρ (.const (.int .u64 16))=.int .u64 16) (hn:0<=n/\n < 256):(execOp ρ ⟨d,.binOp .shl 33 x (.const (.int .u64 16)) 54,ty,pos,after,g⟩).run Tryz.prog w=.ok (.value (.int .u32 (n*65536))) w:=by
 have e:IntKind.u32.wrap (n*65536)=n*65536:=by rw [J8];omega
 simp only [execOp,h,hc];go_simp
theorem exShl24 {x:Operand} {n:Int} (h:ρ x=.int .u32 n) (hc:ρ (.const (.int .u64 24))=.int .u64 24) (hn:0<=n/\n < 256):(execOp ρ ⟨d,.binOp .shl 33 x (.const (.int .u64 24)) 54,ty,pos,after,g⟩).run Tryz.prog w=.ok (.value (.int .u32 (n*16777216))) w:=by
 have e:IntKind.u32.wrap (n*16777216)=n*16777216:=by rw [J8];omega
 simp only [execOp,h,hc];go_simp
theorem exOr {x y:Operand} {n m:Int} (h:ρ x=.int .u32 n) (h':ρ y=.int .u32 m):(execOp ρ ⟨d,.binOp .or 33 x y 33,ty,pos,after,g⟩).run Tryz.prog w=.ok (.value (.int .u32 (bits .or .u32 n m))) w:=by
 simp only [execOp,h,h'];go_simp
end
def bytesOps (s i0 i1 i2 i3 j:Nat) (pos:String):List Oper:=
 [⟨some s,.move (.tmp 0),51,pos,#[],none⟩,⟨some (s+1),.move (.tmp 1),59,pos,#[],none⟩,⟨some (s+2),.nilCheck (.tmp (s+1)),0,pos,#[⟨1,.data⟩],none⟩,⟨some (s+3),.indexAddr 24 (.tmp (s+2)) (.const (.int .i64 i0)),0,pos,#[⟨2,.data⟩],none⟩,⟨some (s+4),.load 5 (.tmp (s+3)),5,pos,#[⟨3,.data⟩],none⟩,⟨some (s+5),.convert 5 33 (.tmp (s+4)),33,pos,#[⟨4,.data⟩],none⟩,⟨some (s+6),.move (.tmp 1),59,pos,#[],none⟩,⟨some (s+7),.nilCheck (.tmp (s+6)),0,pos,#[⟨6,.data⟩],none⟩,⟨some (s+8),.indexAddr 24 (.tmp (s+7)) (.const (.int .i64 i1)),0,pos,#[⟨7,.data⟩],none⟩,⟨some (s+9),.load 5 (.tmp (s+8)),5,pos,#[⟨8,.data⟩],none⟩,⟨some (s+10),.convert 5 33 (.tmp (s+9)),33,pos,#[⟨9,.data⟩],none⟩,⟨some (s+11),.binOp .shl 33 (.tmp (s+10)) (.const (.int .u64 8)) 54,33,pos,#[⟨10,.data⟩],none⟩,⟨some (s+12),.binOp .or 33 (.tmp (s+5)) (.tmp (s+11)) 33,33,pos,#[⟨5,.data⟩,⟨11,.data⟩],none⟩,⟨some (s+13),.move (.tmp 1),59,pos,#[],none⟩,⟨some (s+14),.nilCheck (.tmp (s+13)),0,pos,#[⟨13,.data⟩],none⟩,⟨some (s+15),.indexAddr 24 (.tmp (s+14)) (.const (.int .i64 i2)),0,pos,#[⟨14,.data⟩],none⟩,⟨some (s+16),.load 5 (.tmp (s+15)),5,pos,#[⟨15,.data⟩],none⟩,⟨some (s+17),.convert 5 33 (.tmp (s+16)),33,pos,#[⟨16,.data⟩],none⟩,⟨some (s+18),.binOp .shl 33 (.tmp (s+17)) (.const (.int .u64 16)) 54,33,pos,#[⟨17,.data⟩],none⟩,⟨some (s+19),.binOp .or 33 (.tmp (s+12)) (.tmp (s+18)) 33,33,pos,#[⟨12,.data⟩,⟨18,.data⟩],none⟩,⟨some (s+20),.move (.tmp 1),59,pos,#[],none⟩,⟨some (s+21),.nilCheck (.tmp (s+20)),0,pos,#[⟨20,.data⟩],none⟩,⟨some (s+22),.indexAddr 24 (.tmp (s+21)) (.const (.int .i64 i3)),0,pos,#[⟨21,.data⟩],none⟩,⟨some (s+23),.load 5 (.tmp (s+22)),5,pos,#[⟨22,.data⟩],none⟩,⟨some (s+24),.convert 5 33 (.tmp (s+23)),33,pos,#[⟨23,.data⟩],none⟩,⟨some (s+25),.binOp .shl 33 (.tmp (s+24)) (.const (.int .u64 24)) 54,33,pos,#[⟨24,.data⟩],none⟩,⟨some (s+26),.binOp .or 33 (.tmp (s+19)) (.tmp (s+25)) 33,33,pos,#[⟨19,.data⟩,⟨25,.data⟩],none⟩,⟨some (s+27),.nilCheck (.tmp s),0,pos,#[⟨0,.data⟩],none⟩,⟨some (s+28),.fieldAddr 44 (.tmp (s+27)) 0,0,pos,#[⟨27,.data⟩],none⟩,⟨some (s+29),.indexAddr 42 (.tmp (s+28)) (.const (.int .i64 j)),0,pos,#[⟨28,.data⟩,⟨0,.phase⟩,⟨1,.phase⟩,⟨2,.phase⟩,⟨3,.phase⟩,⟨4,.phase⟩,⟨5,.phase⟩,⟨6,.phase⟩,⟨7,.phase⟩,⟨8,.phase⟩,⟨9,.phase⟩,⟨10,.phase⟩,⟨11,.phase⟩,⟨12,.phase⟩,⟨13,.phase⟩,⟨14,.phase⟩,⟨15,.phase⟩,⟨16,.phase⟩,⟨17,.phase⟩,⟨18,.phase⟩,⟨19,.phase⟩,⟨20,.phase⟩,⟨21,.phase⟩,⟨22,.phase⟩,⟨23,.phase⟩,⟨24,.phase⟩,⟨25,.phase⟩,⟨26,.phase⟩],none⟩,⟨none,.store 33 (.tmp (s+29)) (.tmp (s+26)),0,pos,#[⟨29,.data⟩,⟨26,.data⟩,⟨0,.phase⟩,⟨1,.phase⟩,⟨2,.phase⟩,⟨3,.phase⟩,⟨4,.phase⟩,⟨5,.phase⟩,⟨6,.phase⟩,⟨7,.phase⟩,⟨8,.phase⟩,⟨9,.phase⟩,⟨10,.phase⟩,⟨11,.phase⟩,⟨12,.phase⟩,⟨13,.phase⟩,⟨14,.phase⟩,⟨15,.phase⟩,⟨16,.phase⟩,⟨17,.phase⟩,⟨18,.phase⟩,⟨19,.phase⟩,⟨20,.phase⟩,⟨21,.phase⟩,⟨22,.phase⟩,⟨23,.phase⟩,⟨24,.phase⟩,⟨25,.phase⟩,⟨26,.phase⟩],none⟩]
set_option maxRecDepth 100000 in
theorem Jj {id s i0 i1 i2 i3 j:Nat} {pos:String} {Q:Exit->Act->World->Prop} {a:Act} {w:World} {b o c p:Nat} {m:Int} {Y:Nat->Int}
 (hs:2<=s) (hz:s+30<=a.tmps.size) (e0:a.eval (.tmp 0)=.pointer (some ⟨b,o,none⟩)) (e1:a.eval (.tmp 1)=.pointer (some ⟨c,p,none⟩)) (hy:By w c p 32 Y)
 (hi:i0 < 32/\i1 < 32/\i2 < 32/\i3 < 32) (hj:j < 8) (hc:w.cell? ⟨b,o+j,none⟩=some (.int .u32 m)) (hf:w.frozen? ⟨b,o+j,none⟩=false) (hB:Region.lexTailB .any (bytesOps s i0 i1 i2 i3 j pos).toArray 30=true)
 (h:∀a',Past a a' s->Q .normal a' (w.drew.setCell ⟨b,o+j,none⟩ (.int .u32 (Y i0+Y i1*256+Y i2*65536+Y i3*16777216)))):
 Code.wp Tryz.prog (.region id (bytesOps s i0 i1 i2 i3 j pos).toArray true) Q a w:=by
 have y0:=hy i0 hi.1
 have y1:=hy i1 hi.2.1
 have y2:=hy i2 hi.2.2.1
 have y3:=hy i3 hi.2.2.2
 have ho:=or4 y0.2 y1.2 y2.2 y3.2
 refine wp_region_still_tail (l:=bytesOps s i0 i1 i2 i3 j pos) 30 (by kernel_rfl) hB ?_
 change wpStill _ _ _ _ [_,_,_,_,_,_,_,_,_,_,_,_,_,_,_,_,_,_,_,_,_,_,_,_,_,_,_,_,_,_] _
 have q:=Past.refl a s
 refine Qy (Qg e0) (by have:=q.z;omega) ?_
 intro a0 p0
 replace q:=q.put p0 (by omega)
 have L1:=(q.n 1 (by omega)).trans e1
 refine Qy (Qg L1) (by have:=q.z;omega) ?_
 intro a1 p1
 replace q:=q.put p1 (by omega)
 refine Qy (J4 p1.v) (by have:=q.z;omega) ?_
 intro a2 p2
 replace q:=q.put p2 (by omega)
 refine Qy (exIndex24 p2.v rfl hi.1) (by have:=q.z;omega) ?_
 intro a3 p3
 replace q:=q.put p3 (by omega)
 refine Qy (exLoad5 p3.v y0.1) (by have:=q.z;omega) ?_
 intro a4 p4
 replace q:=q.put p4 (by omega)
 refine Qy (exConv8 p4.v y0.2) (by have:=q.z;omega) ?_
 intro a5 p5
 replace q:=q.put p5 (by omega)
 have L1:=(q.n 1 (by omega)).trans e1
 refine Qy (Qg L1) (by have:=q.z;omega) ?_
 intro a6 p6
 replace q:=q.put p6 (by omega)
 refine Qy (J4 p6.v) (by have:=q.z;omega) ?_
 intro a7 p7
 replace q:=q.put p7 (by omega)
 refine Qy (exIndex24 p7.v rfl hi.2.1) (by have:=q.z;omega) ?_
 intro a8 p8
 replace q:=q.put p8 (by omega)
 refine Qy (exLoad5 p8.v y1.1) (by have:=q.z;omega) ?_
 intro a9 p9
 replace q:=q.put p9 (by omega)
 refine Qy (exConv8 p9.v y1.2) (by have:=q.z;omega) ?_
 intro a10 p10
 replace q:=q.put p10 (by omega)
 refine Qy (exShl8 p10.v rfl y1.2) (by have:=q.z;omega) ?_
 intro a11 p11
 replace q:=q.put p11 (by omega)
 refine Qy (exOr ((p11.n _ (by omega)).trans ((p10.n _ (by omega)).trans ((p9.n _ (by omega)).trans ((p8.n _ (by omega)).trans ((p7.n _ (by omega)).trans ((p6.n _ (by omega)).trans (p5.v))))))) p11.v) (by have:=q.z;omega) ?_
 intro a12 p12
 replace q:=q.put p12 (by omega)
 have L1:=(q.n 1 (by omega)).trans e1
 refine Qy (Qg L1) (by have:=q.z;omega) ?_
 intro a13 p13
 replace q:=q.put p13 (by omega)
 refine Qy (J4 p13.v) (by have:=q.z;omega) ?_
 intro a14 p14
 replace q:=q.put p14 (by omega)
 refine Qy (exIndex24 p14.v rfl hi.2.2.1) (by have:=q.z;omega) ?_
 intro a15 p15
 replace q:=q.put p15 (by omega)
 refine Qy (exLoad5 p15.v y2.1) (by have:=q.z;omega) ?_
 intro a16 p16
 replace q:=q.put p16 (by omega)
 refine Qy (exConv8 p16.v y2.2) (by have:=q.z;omega) ?_
 intro a17 p17
 replace q:=q.put p17 (by omega)
 refine Qy (exShl16 p17.v rfl y2.2) (by have:=q.z;omega) ?_
 intro a18 p18
 replace q:=q.put p18 (by omega)
 refine Qy (exOr ((p18.n _ (by omega)).trans ((p17.n _ (by omega)).trans ((p16.n _ (by omega)).trans ((p15.n _ (by omega)).trans ((p14.n _ (by omega)).trans ((p13.n _ (by omega)).trans (p12.v))))))) p18.v) (by have:=q.z;omega) ?_
 intro a19 p19
 replace q:=q.put p19 (by omega)
 have L1:=(q.n 1 (by omega)).trans e1
 refine Qy (Qg L1) (by have:=q.z;omega) ?_
 intro a20 p20
 replace q:=q.put p20 (by omega)
 refine Qy (J4 p20.v) (by have:=q.z;omega) ?_
 intro a21 p21
 replace q:=q.put p21 (by omega)
 refine Qy (exIndex24 p21.v rfl hi.2.2.2) (by have:=q.z;omega) ?_
 intro a22 p22
 replace q:=q.put p22 (by omega)
 refine Qy (exLoad5 p22.v y3.1) (by have:=q.z;omega) ?_
 intro a23 p23
 replace q:=q.put p23 (by omega)
 refine Qy (exConv8 p23.v y3.2) (by have:=q.z;omega) ?_
 intro a24 p24
 replace q:=q.put p24 (by omega)
 refine Qy (exShl24 p24.v rfl y3.2) (by have:=q.z;omega) ?_
 intro a25 p25
 replace q:=q.put p25 (by omega)
 refine Qy (exOr ((p25.n _ (by omega)).trans ((p24.n _ (by omega)).trans ((p23.n _ (by omega)).trans ((p22.n _ (by omega)).trans ((p21.n _ (by omega)).trans ((p20.n _ (by omega)).trans (p19.v))))))) p25.v) (by have:=q.z;omega) ?_
 intro a26 p26
 replace q:=q.put p26 (by omega)
 refine Qy (J4 ((p26.n _ (by omega)).trans ((p25.n _ (by omega)).trans ((p24.n _ (by omega)).trans ((p23.n _ (by omega)).trans ((p22.n _ (by omega)).trans ((p21.n _ (by omega)).trans ((p20.n _ (by omega)).trans ((p19.n _ (by omega)).trans ((p18.n _ (by omega)).trans ((p17.n _ (by omega)).trans ((p16.n _ (by omega)).trans ((p15.n _ (by omega)).trans ((p14.n _ (by omega)).trans ((p13.n _ (by omega)).trans ((p12.n _ (by omega)).trans ((p11.n _ (by omega)).trans ((p10.n _ (by omega)).trans ((p9.n _ (by omega)).trans ((p8.n _ (by omega)).trans ((p7.n _ (by omega)).trans ((p6.n _ (by omega)).trans ((p5.n _ (by omega)).trans ((p4.n _ (by omega)).trans ((p3.n _ (by omega)).trans ((p2.n _ (by omega)).trans ((p1.n _ (by omega)).trans (p0.v)))))))))))))))))))))))))))) (by have:=q.z;omega) ?_
 intro a27 p27
 replace q:=q.put p27 (by omega)
 refine Qy (Q7 p27.v) (by have:=q.z;omega) ?_
 intro a28 p28
 replace q:=q.put p28 (by omega)
 refine Qy (Q6 p28.v rfl hj) (by have:=q.z;omega) ?_
 intro a29 p29
 replace q:=q.put p29 (by omega)
 refine wpStill_nil ?_
 change wpList _ _ _ [_] _ _
 refine J2 (Jv p29.v ((p29.n _ (by omega)).trans ((p28.n _ (by omega)).trans ((p27.n _ (by omega)).trans (p26.v)))) hc hf) (Wn ?_)
 rw [ho]
 exact h _ q
set_option maxRecDepth 100000 in
theorem setBytes (b o c p:Nat) (x:Int) (Y:Nat->Int) (w:World) (hS:Sc w b o x) (hf:F8 w b o) (hbc:b≠c) (hy:By w c p 32 Y):
 Calls Tryz.prog 30 #[.pointer (some ⟨b,o,none⟩),.pointer (some ⟨c,p,none⟩)] w fun e w'=>e=.returned (.int .u32 (ovN (be Y 32)))/\Sc w' b o (be Y 32 - NN*ovN (be Y 32))/\Fr (Rng b o 8) w w':=by
 obtain ⟨m0,m1,m2,m3,m4,m5,m6,m7,hS,HX⟩:=hS
 clear HX
 refine enterA Tryz.func30 rfl (fun a0 z0 d0 ha=>?_)
 have e0:=ha 0 _ rfl
 have e1:=ha 1 _ rfl
 replace z0:a0.tmps.size=252:=z0
 refine Sq (Ke (Qu (Ji rfl) (ltz z0 rfl) fun a1 p1=>Wn (Qa ?_)))
 have z1:=p1.z.trans z0
 have d1:=p1.f.trans d0
 replace e0:=(p1.n 0 (by decide)).trans e0
 replace e1:=(p1.n 1 (by decide)).trans e1
 have hF:Fr (Rng b o 8) w w:=Fr.refl _ _
 refine Sq (Jj (s:=6) (i0:=31) (i1:=30) (i2:=29) (i3:=28) (j:=0) (by decide) (by rw [z1];decide) e0 e1 hy (by decide) (by decide) hS.1 hf.1 (by kernel_rfl) (fun a' q=>Qa ?_))
 replace e0:=(q.n 0 (by decide)).trans e0
 replace e1:=(q.n 1 (by decide)).trans e1
 replace z1:=q.z.trans z1
 replace d1:=q.f.trans d1
 have U0:U32 (Y 31+Y 30*256+Y 29*65536+Y 28*16777216):=by have h0:=(hy 31 (by decide)).2;have h1:=(hy 30 (by decide)).2;have h2:=(hy 29 (by decide)).2;have h3:=(hy 28 (by decide)).2;unfold U32;omega
 have hG:Fr (Rng b o 8) w (w.drew.setCell ⟨b,o+0,none⟩ (.int .u32 (Y 31+Y 30*256+Y 29*65536+Y 28*16777216))):=(Fr.refl _ _).drew.setCell (b:=b) (o:=o+0) (fun _=>⟨rfl,by omega,by omega⟩) _
 replace hf:=F8.fr hG hS.lt hf
 replace hS:=S8.set0 (w:=w.drew) hS _ U0
 replace hy:=hy.fr hG (fun _ _ _ f=>hbc f.1.symm)
 replace hF:=hF.trans hG
 clear hG q
 change Code.wp _ _ _ _ (w.drew.setCell ⟨b,o+0,none⟩ (.int .u32 (Y 31+Y 30*256+Y 29*65536+Y 28*16777216)))
 replace hS:S8 (w.drew.setCell ⟨b,o+0,none⟩ (.int .u32 (Y 31+Y 30*256+Y 29*65536+Y 28*16777216))) b o _ _ _ _ _ _ _ _:=hS
 generalize w.drew.setCell ⟨b,o+0,none⟩ (.int .u32 (Y 31+Y 30*256+Y 29*65536+Y 28*16777216))=w0 at hf hS hy hF ⊢
 refine Sq (Jj (s:=36) (i0:=27) (i1:=26) (i2:=25) (i3:=24) (j:=1) (by decide) (by rw [z1];decide) e0 e1 hy (by decide) (by decide) hS.2.1 hf.2.1 (by kernel_rfl) (fun a' q=>Qa ?_))
 replace e0:=(q.n 0 (by decide)).trans e0
 replace e1:=(q.n 1 (by decide)).trans e1
 replace z1:=q.z.trans z1
 replace d1:=q.f.trans d1
 have U1:U32 (Y 27+Y 26*256+Y 25*65536+Y 24*16777216):=by have h0:=(hy 27 (by decide)).2;have h1:=(hy 26 (by decide)).2;have h2:=(hy 25 (by decide)).2;have h3:=(hy 24 (by decide)).2;unfold U32;omega
 have hG:Fr (Rng b o 8) w0 (w0.drew.setCell ⟨b,o+1,none⟩ (.int .u32 (Y 27+Y 26*256+Y 25*65536+Y 24*16777216))):=(Fr.refl _ _).drew.setCell (b:=b) (o:=o+1) (fun _=>⟨rfl,by omega,by omega⟩) _
 replace hf:=F8.fr hG hS.lt hf
 replace hS:=S8.set1 (w:=w0.drew) hS _ U1
 replace hy:=hy.fr hG (fun _ _ _ f=>hbc f.1.symm)
 replace hF:=hF.trans hG
 clear hG q
 change Code.wp _ _ _ _ (w0.drew.setCell ⟨b,o+1,none⟩ (.int .u32 (Y 27+Y 26*256+Y 25*65536+Y 24*16777216)))
 replace hS:S8 (w0.drew.setCell ⟨b,o+1,none⟩ (.int .u32 (Y 27+Y 26*256+Y 25*65536+Y 24*16777216))) b o _ _ _ _ _ _ _ _:=hS
 generalize w0.drew.setCell ⟨b,o+1,none⟩ (.int .u32 (Y 27+Y 26*256+Y 25*65536+Y 24*16777216))=w1 at hf hS hy hF ⊢
 refine Sq (Jj (s:=66) (i0:=23) (i1:=22) (i2:=21) (i3:=20) (j:=2) (by decide) (by rw [z1];decide) e0 e1 hy (by decide) (by decide) hS.2.2.1 hf.2.2.1 (by kernel_rfl) (fun a' q=>Qa ?_))
 replace e0:=(q.n 0 (by decide)).trans e0
 replace e1:=(q.n 1 (by decide)).trans e1
 replace z1:=q.z.trans z1
 replace d1:=q.f.trans d1
 have U2:U32 (Y 23+Y 22*256+Y 21*65536+Y 20*16777216):=by have h0:=(hy 23 (by decide)).2;have h1:=(hy 22 (by decide)).2;have h2:=(hy 21 (by decide)).2;have h3:=(hy 20 (by decide)).2;unfold U32;omega
 have hG:Fr (Rng b o 8) w1 (w1.drew.setCell ⟨b,o+2,none⟩ (.int .u32 (Y 23+Y 22*256+Y 21*65536+Y 20*16777216))):=(Fr.refl _ _).drew.setCell (b:=b) (o:=o+2) (fun _=>⟨rfl,by omega,by omega⟩) _
 replace hf:=F8.fr hG hS.lt hf
 replace hS:=S8.set2 (w:=w1.drew) hS _ U2
 replace hy:=hy.fr hG (fun _ _ _ f=>hbc f.1.symm)
 replace hF:=hF.trans hG
 clear hG q
 change Code.wp _ _ _ _ (w1.drew.setCell ⟨b,o+2,none⟩ (.int .u32 (Y 23+Y 22*256+Y 21*65536+Y 20*16777216)))
 replace hS:S8 (w1.drew.setCell ⟨b,o+2,none⟩ (.int .u32 (Y 23+Y 22*256+Y 21*65536+Y 20*16777216))) b o _ _ _ _ _ _ _ _:=hS
 generalize w1.drew.setCell ⟨b,o+2,none⟩ (.int .u32 (Y 23+Y 22*256+Y 21*65536+Y 20*16777216))=w2 at hf hS hy hF ⊢
 refine Sq (Jj (s:=96) (i0:=19) (i1:=18) (i2:=17) (i3:=16) (j:=3) (by decide) (by rw [z1];decide) e0 e1 hy (by decide) (by decide) hS.2.2.2.1 hf.2.2.2.1 (by kernel_rfl) (fun a' q=>Qa ?_))
 replace e0:=(q.n 0 (by decide)).trans e0
 replace e1:=(q.n 1 (by decide)).trans e1
 replace z1:=q.z.trans z1
 replace d1:=q.f.trans d1
 have U3:U32 (Y 19+Y 18*256+Y 17*65536+Y 16*16777216):=by have h0:=(hy 19 (by decide)).2;have h1:=(hy 18 (by decide)).2;have h2:=(hy 17 (by decide)).2;have h3:=(hy 16 (by decide)).2;unfold U32;omega
 have hG:Fr (Rng b o 8) w2 (w2.drew.setCell ⟨b,o+3,none⟩ (.int .u32 (Y 19+Y 18*256+Y 17*65536+Y 16*16777216))):=(Fr.refl _ _).drew.setCell (b:=b) (o:=o+3) (fun _=>⟨rfl,by omega,by omega⟩) _
 replace hf:=F8.fr hG hS.lt hf
 replace hS:=S8.set3 (w:=w2.drew) hS _ U3
 replace hy:=hy.fr hG (fun _ _ _ f=>hbc f.1.symm)
 replace hF:=hF.trans hG
 clear hG q
 change Code.wp _ _ _ _ (w2.drew.setCell ⟨b,o+3,none⟩ (.int .u32 (Y 19+Y 18*256+Y 17*65536+Y 16*16777216)))
 replace hS:S8 (w2.drew.setCell ⟨b,o+3,none⟩ (.int .u32 (Y 19+Y 18*256+Y 17*65536+Y 16*16777216))) b o _ _ _ _ _ _ _ _:=hS
 generalize w2.drew.setCell ⟨b,o+3,none⟩ (.int .u32 (Y 19+Y 18*256+Y 17*65536+Y 16*16777216))=w3 at hf hS hy hF ⊢
 refine Sq (Jj (s:=126) (i0:=15) (i1:=14) (i2:=13) (i3:=12) (j:=4) (by decide) (by rw [z1];decide) e0 e1 hy (by decide) (by decide) hS.2.2.2.2.1 hf.2.2.2.2.1 (by kernel_rfl) (fun a' q=>Qa ?_))
 replace e0:=(q.n 0 (by decide)).trans e0
 replace e1:=(q.n 1 (by decide)).trans e1
 replace z1:=q.z.trans z1
 replace d1:=q.f.trans d1
 have U4:U32 (Y 15+Y 14*256+Y 13*65536+Y 12*16777216):=by have h0:=(hy 15 (by decide)).2;have h1:=(hy 14 (by decide)).2;have h2:=(hy 13 (by decide)).2;have h3:=(hy 12 (by decide)).2;unfold U32;omega
 have hG:Fr (Rng b o 8) w3 (w3.drew.setCell ⟨b,o+4,none⟩ (.int .u32 (Y 15+Y 14*256+Y 13*65536+Y 12*16777216))):=(Fr.refl _ _).drew.setCell (b:=b) (o:=o+4) (fun _=>⟨rfl,by omega,by omega⟩) _
 replace hf:=F8.fr hG hS.lt hf
 replace hS:=S8.set4 (w:=w3.drew) hS _ U4
 replace hy:=hy.fr hG (fun _ _ _ f=>hbc f.1.symm)
 replace hF:=hF.trans hG
 clear hG q
 change Code.wp _ _ _ _ (w3.drew.setCell ⟨b,o+4,none⟩ (.int .u32 (Y 15+Y 14*256+Y 13*65536+Y 12*16777216)))
 replace hS:S8 (w3.drew.setCell ⟨b,o+4,none⟩ (.int .u32 (Y 15+Y 14*256+Y 13*65536+Y 12*16777216))) b o _ _ _ _ _ _ _ _:=hS
 generalize w3.drew.setCell ⟨b,o+4,none⟩ (.int .u32 (Y 15+Y 14*256+Y 13*65536+Y 12*16777216))=w4 at hf hS hy hF ⊢
 refine Sq (Jj (s:=156) (i0:=11) (i1:=10) (i2:=9) (i3:=8) (j:=5) (by decide) (by rw [z1];decide) e0 e1 hy (by decide) (by decide) hS.2.2.2.2.2.1 hf.2.2.2.2.2.1 (by kernel_rfl) (fun a' q=>Qa ?_))
 replace e0:=(q.n 0 (by decide)).trans e0
 replace e1:=(q.n 1 (by decide)).trans e1
 replace z1:=q.z.trans z1
 replace d1:=q.f.trans d1
 have U5:U32 (Y 11+Y 10*256+Y 9*65536+Y 8*16777216):=by have h0:=(hy 11 (by decide)).2;have h1:=(hy 10 (by decide)).2;have h2:=(hy 9 (by decide)).2;have h3:=(hy 8 (by decide)).2;unfold U32;omega
 have hG:Fr (Rng b o 8) w4 (w4.drew.setCell ⟨b,o+5,none⟩ (.int .u32 (Y 11+Y 10*256+Y 9*65536+Y 8*16777216))):=(Fr.refl _ _).drew.setCell (b:=b) (o:=o+5) (fun _=>⟨rfl,by omega,by omega⟩) _
 replace hf:=F8.fr hG hS.lt hf
 replace hS:=S8.set5 (w:=w4.drew) hS _ U5
 replace hy:=hy.fr hG (fun _ _ _ f=>hbc f.1.symm)
 replace hF:=hF.trans hG
 clear hG q
 change Code.wp _ _ _ _ (w4.drew.setCell ⟨b,o+5,none⟩ (.int .u32 (Y 11+Y 10*256+Y 9*65536+Y 8*16777216)))
 replace hS:S8 (w4.drew.setCell ⟨b,o+5,none⟩ (.int .u32 (Y 11+Y 10*256+Y 9*65536+Y 8*16777216))) b o _ _ _ _ _ _ _ _:=hS
 generalize w4.drew.setCell ⟨b,o+5,none⟩ (.int .u32 (Y 11+Y 10*256+Y 9*65536+Y 8*16777216))=w5 at hf hS hy hF ⊢
 refine Sq (Jj (s:=186) (i0:=7) (i1:=6) (i2:=5) (i3:=4) (j:=6) (by decide) (by rw [z1];decide) e0 e1 hy (by decide) (by decide) hS.2.2.2.2.2.2.1 hf.2.2.2.2.2.2.1 (by kernel_rfl) (fun a' q=>Qa ?_))
 replace e0:=(q.n 0 (by decide)).trans e0
 replace e1:=(q.n 1 (by decide)).trans e1
 replace z1:=q.z.trans z1
 replace d1:=q.f.trans d1
 have U6:U32 (Y 7+Y 6*256+Y 5*65536+Y 4*16777216):=by have h0:=(hy 7 (by decide)).2;have h1:=(hy 6 (by decide)).2;have h2:=(hy 5 (by decide)).2;have h3:=(hy 4 (by decide)).2;unfold U32;omega
 have hG:Fr (Rng b o 8) w5 (w5.drew.setCell ⟨b,o+6,none⟩ (.int .u32 (Y 7+Y 6*256+Y 5*65536+Y 4*16777216))):=(Fr.refl _ _).drew.setCell (b:=b) (o:=o+6) (fun _=>⟨rfl,by omega,by omega⟩) _
 replace hf:=F8.fr hG hS.lt hf
 replace hS:=S8.set6 (w:=w5.drew) hS _ U6
 replace hy:=hy.fr hG (fun _ _ _ f=>hbc f.1.symm)
 replace hF:=hF.trans hG
 clear hG q
 change Code.wp _ _ _ _ (w5.drew.setCell ⟨b,o+6,none⟩ (.int .u32 (Y 7+Y 6*256+Y 5*65536+Y 4*16777216)))
 replace hS:S8 (w5.drew.setCell ⟨b,o+6,none⟩ (.int .u32 (Y 7+Y 6*256+Y 5*65536+Y 4*16777216))) b o _ _ _ _ _ _ _ _:=hS
 generalize w5.drew.setCell ⟨b,o+6,none⟩ (.int .u32 (Y 7+Y 6*256+Y 5*65536+Y 4*16777216))=w6 at hf hS hy hF ⊢
 refine Sq (Jj (s:=216) (i0:=3) (i1:=2) (i2:=1) (i3:=0) (j:=7) (by decide) (by rw [z1];decide) e0 e1 hy (by decide) (by decide) hS.2.2.2.2.2.2.2.1 hf.2.2.2.2.2.2.2 (by kernel_rfl) (fun a' q=>Qa ?_))
 replace e0:=(q.n 0 (by decide)).trans e0
 replace e1:=(q.n 1 (by decide)).trans e1
 replace z1:=q.z.trans z1
 replace d1:=q.f.trans d1
 have U7:U32 (Y 3+Y 2*256+Y 1*65536+Y 0*16777216):=by have h0:=(hy 3 (by decide)).2;have h1:=(hy 2 (by decide)).2;have h2:=(hy 1 (by decide)).2;have h3:=(hy 0 (by decide)).2;unfold U32;omega
 have hG:Fr (Rng b o 8) w6 (w6.drew.setCell ⟨b,o+7,none⟩ (.int .u32 (Y 3+Y 2*256+Y 1*65536+Y 0*16777216))):=(Fr.refl _ _).drew.setCell (b:=b) (o:=o+7) (fun _=>⟨rfl,by omega,by omega⟩) _
 replace hf:=F8.fr hG hS.lt hf
 replace hS:=S8.set7 (w:=w6.drew) hS _ U7
 replace hy:=hy.fr hG (fun _ _ _ f=>hbc f.1.symm)
 replace hF:=hF.trans hG
 clear hG q
 change Code.wp _ _ _ _ (w6.drew.setCell ⟨b,o+7,none⟩ (.int .u32 (Y 3+Y 2*256+Y 1*65536+Y 0*16777216)))
 replace hS:S8 (w6.drew.setCell ⟨b,o+7,none⟩ (.int .u32 (Y 3+Y 2*256+Y 1*65536+Y 0*16777216))) b o _ _ _ _ _ _ _ _:=hS
 generalize w6.drew.setCell ⟨b,o+7,none⟩ (.int .u32 (Y 3+Y 2*256+Y 1*65536+Y 0*16777216))=w7 at hf hS hy hF ⊢
 rename_i aL
 have hSc:Sc w7 b o (be Y 32):=⟨_,_,_,_,_,_,_,_,hS,(be_split Y).symm⟩
 have hov:=overflows _ _ _ _ _ _ _ _ _ _ _ hS
 rw [<-be_split] at hov
 refine Sq (wp_region_lit ?_)
 show wpList _ _ _ _ _ _
 refine Qu (Qg e0) (ltz z1 rfl) ?_
 intro b1 r1
 refine wlCall (exCall1 r1.v rfl (by go_simp)) hov (ltz (r1.z.trans z1) rfl) ?_
 rintro e w' ⟨rfl,rfl⟩
 refine ⟨_,rfl,fun b2 r2=>?_⟩
 refine Qu (Ji r2.v) (ltz (r2.z.trans (r1.z.trans z1)) rfl) ?_
 intro b3 r3
 refine Wn (Qa ?_)
 have z3:=r3.z.trans (r2.z.trans (r1.z.trans z1))
 have e3:=(r3.n 0 (by decide)).trans ((r2.n 0 (by decide)).trans ((r1.n 0 (by decide)).trans e0))
 have d3:=r3.f.trans (r2.f.trans (r1.f.trans d1))
 refine Sq (wp_region_lit ?_)
 show wpList _ _ _ _ _ _
 refine Qu (Qg e3) (ltz z3 rfl) ?_
 intro b4 r4
 refine Qu (Qg ((r4.n _ (by decide)).trans r3.v)) (ltz (r4.z.trans z3) rfl) ?_
 intro b5 r5
 refine wlCall (exCall2 ((r5.n _ (by decide)).trans r4.v) r5.v rfl (by go_simp)) (reduce256 b o _ _ hSc hf) (ltz (r5.z.trans (r4.z.trans z3)) rfl) ?_
 rintro e w' ⟨rfl,hR,hFR⟩
 refine ⟨_,rfl,fun b6 r6=>Wn (Qa ?_)⟩
 have z6:=r6.z.trans (r5.z.trans (r4.z.trans z3))
 have v5:=(r6.n 5 (by decide)).trans ((r5.n 5 (by decide)).trans ((r4.n 5 (by decide)).trans r3.v))
 refine Sq (wp_region_lit ?_)
 show wpList _ _ _ _ _ _
 refine Qu (Qg v5) (ltz z6 rfl) ?_
 intro b7 r7
 refine Qu (Ji r7.v) (ltz (r7.z.trans z6) rfl) ?_
 intro b8 r8
 refine Wn (Qa ?_)
 exact retA rfl (r8.f.trans (r7.f.trans (r6.f.trans (r5.f.trans (r4.f.trans d3))))) r8.v ⟨rfl,hR,hF.trans hFR⟩
section
variable {ρ:Operand->Value} {w:World} {d:Option Nat} {ty:TypeId} {pos:String} {after:Array Edge} {g:Option (Nat × Bool)}
theorem exConvB {x:Operand} {n:Int} (h:ρ x=.int .u32 n):(execOp ρ ⟨d,.convert 33 5 x,ty,pos,after,g⟩).run Tryz.prog w=.ok (.value (.int .u8 (n % 256))) w:=by
 rw [<-IntKind.wrap_u8']
 simp only [execOp,h];go_simp
theorem exShr8 {x:Operand} {n:Int} (h:ρ x=.int .u32 n) (hc:ρ (.const (.int .u64 8))=.int .u64 8) (hn:U32 n):(execOp ρ ⟨d,.binOp .shr 33 x (.const (.int .u64 8)) 54,ty,pos,after,g⟩).run Tryz.prog w=.ok (.value (.int .u32 (n / 256))) w:=by
 have e:IntKind.u32.wrap (n / 256)=n / 256:=by unfold U32 at hn;rw [J8];omega
 simp only [execOp,h,hc];go_simp
theorem exShr16 {x:Operand} {n:Int} (h:ρ x=.int .u32 n) (hc:ρ (.const (.int .u64 16))=.int .u64 16) (hn:U32 n):(execOp ρ ⟨d,.binOp .shr 33 x (.const (.int .u64 16)) 54,ty,pos,after,g⟩).run Tryz.prog w=.ok (.value (.int .u32 (n / 65536))) w:=by
 have e:IntKind.u32.wrap (n / 65536)=n / 65536:=by unfold U32 at hn;rw [J8];omega
 simp only [execOp,h,hc];go_simp
theorem exShr24 {x:Operand} {n:Int} (h:ρ x=.int .u32 n) (hc:ρ (.const (.int .u64 24))=.int .u64 24) (hn:U32 n):(execOp ρ ⟨d,.binOp .shr 33 x (.const (.int .u64 24)) 54,ty,pos,after,g⟩).run Tryz.prog w=.ok (.value (.int .u32 (n / 16777216))) w:=by
 have e:IntKind.u32.wrap (n / 16777216)=n / 16777216:=by unfold U32 at hn;rw [J8];omega
 simp only [execOp,h,hc];go_simp
theorem exIndex65 {x:Operand} {b o l cp i:Nat} (h:ρ x=.slice (some ⟨b,o,none⟩) l cp) (hc:ρ (.const (.int .i64 i))=.int .i64 i) (hi:i < l):(execOp ρ ⟨d,.indexAddr 65 x (.const (.int .i64 i)),ty,pos,after,g⟩).run Tryz.prog w=.ok (.value (.pointer (some ⟨b,o+i,none⟩))) w:=by
 simp only [execOp,h,hc]
 go_simp
 try (intro hle;exact absurd hle (by omega))
theorem exStore5 {x y:Operand} {A:Addr} {n m:Int} (h:ρ x=.pointer (some A)) (h':ρ y=.int .u8 n) (hc:w.cell? A=some (.int .u8 m)) (hf:w.frozen? A=false):(execOp ρ ⟨d,.store 5 x y,ty,pos,after,g⟩).run Tryz.prog w=.ok .skip (w.setCell A (.int .u8 n)):=by
 simp only [execOp,h,h'];go_simp
end
def Zb (X:Nat->Int) (i:Nat):Int:=X (7 - i / 4) / 256 ^ (3 - i % 4) % 256
structure PB (w:World) (c p:Nat) (X:Nat->Int) (i:Nat) (wk:World):Prop where
 done:∀j,i<=j->j < 32->wk.cell? ⟨c,p+j,none⟩=some (.int .u8 (Zb X j))
 all:∀j,j < 32->∃y,wk.cell? ⟨c,p+j,none⟩=some (.int .u8 y)
 fz:∀j,j < 32->wk.frozen? ⟨c,p+j,none⟩=false
 fr:Fr (Rng c p 32) w wk
theorem PB.step {w wk:World} {c p i:Nat} {X:Nat->Int} (h:PB w c p X (i+1) wk) (hi:i < 32):PB w c p X i (wk.setCell ⟨c,p+i,none⟩ (.int .u8 (Zb X i))):=by
 refine ⟨fun j h1 h2=>?_,fun j hj=>?_,fun j hj=>by rw [World.frozen?_setCell];exact h.fz j hj,h.fr.setCell (b:=c) (o:=p+i) (fun _=>⟨rfl,by omega,by omega⟩) _⟩
 ·by_cases e:j=i
  ·subst e
   obtain ⟨y,hy⟩:=h.all j h2
   exact (Qc hy).trans (by simp)
  exact (Qc (h.done j (by omega) h2)).trans (by simp [e])
 obtain ⟨y,hy⟩:=h.all j hj
 by_cases e:j=i
 ·exact ⟨Zb X i,(Qc hy).trans (by simp [e])⟩
 exact ⟨y,(Qc hy).trans (by simp [e])⟩
def putOps0 (s k i:Nat) (pos:String) (f0 f1 f2 f3 f4 f5 f6 f7 f8:Array Edge):List Oper:=
 [⟨some s,.move (.tmp 1),65,pos,f0,none⟩,
  ⟨some (s+1),.move (.tmp 0),51,pos,f1,none⟩,
  ⟨some (s+2),.nilCheck (.tmp (s+1)),0,pos,f2,none⟩,
  ⟨some (s+3),.fieldAddr 44 (.tmp (s+2)) 0,0,pos,f3,none⟩,
  ⟨some (s+4),.indexAddr 42 (.tmp (s+3)) (.const (.int .i64 k)),0,pos,f4,none⟩,
  ⟨some (s+5),.load 33 (.tmp (s+4)),33,pos,f5,none⟩,
  ⟨some (s+6),.convert 33 5 (.tmp (s+5)),5,pos,f6,none⟩,
  ⟨some (s+7),.indexAddr 65 (.tmp s) (.const (.int .i64 i)),0,pos,f7,none⟩,
  ⟨none,.store 5 (.tmp (s+7)) (.tmp (s+6)),0,pos,f8,none⟩]
theorem Jr {id s k i b o c p l cp:Nat} {pos:String} {f0 f1 f2 f3 f4 f5 f6 f7 f8:Array Edge} {Q:Exit->Act->World->Prop} {a:Act} {w0 w:World} {X:Nat->Int} (hs:2<=s) (hz:s+8<=a.tmps.size)
 (e0:a.eval (.tmp 0)=.pointer (some ⟨b,o,none⟩)) (e1:a.eval (.tmp 1)=.slice (some ⟨c,p,none⟩) l cp) (hl:32<=l) (hx:W8 w0 b o X) (hbc:b≠c) (hP:PB w0 c p X (i+1) w) (hi:i < 32) (hk:k=7 - i / 4) (hr:i % 4=3)
 (h:∀a' w',Past a a' s->PB w0 c p X i w'->Q .normal a' w'):Code.wp Tryz.prog (.region id (putOps0 s k i pos f0 f1 f2 f3 f4 f5 f6 f7 f8).toArray false) Q a w:=by
 have hxk:=hx k (by omega)
 have hxc:=hP.fr.someCell hxk.1 (fun f=>hbc f.1)
 obtain ⟨y,hy⟩:=hP.all i hi
 have q:=Past.refl a s
 refine wp_region_lit (l:=putOps0 s k i pos f0 f1 f2 f3 f4 f5 f6 f7 f8) ?_
 change wpList _ _ _ [_,_,_,_,_,_,_,_,_] _ _
 refine Qu (Qg e1) (by have:=q.z;omega) ?_
 intro a0 p0
 replace q:=q.put p0 (by omega)
 refine Qu (Qg ((q.n 0 (by omega)).trans e0)) (by have:=q.z;omega) ?_
 intro a1 p1
 replace q:=q.put p1 (by omega)
 refine Qu (J4 p1.v) (by have:=q.z;omega) ?_
 intro a2 p2
 replace q:=q.put p2 (by omega)
 refine Qu (Q7 p2.v) (by have:=q.z;omega) ?_
 intro a3 p3
 replace q:=q.put p3 (by omega)
 refine Qu (Q6 p3.v rfl (by omega)) (by have:=q.z;omega) ?_
 intro a4 p4
 replace q:=q.put p4 (by omega)
 refine Qu (Kh p4.v hxc) (by have:=q.z;omega) ?_
 intro a5 p5
 replace q:=q.put p5 (by omega)
 refine Qu (exConvB p5.v) (by have:=q.z;omega) ?_
 intro a6 p6
 replace q:=q.put p6 (by omega)
 refine Qu (exIndex65 ((p6.n _ (by omega)).trans ((p5.n _ (by omega)).trans ((p4.n _ (by omega)).trans ((p3.n _ (by omega)).trans ((p2.n _ (by omega)).trans ((p1.n _ (by omega)).trans (p0.v))))))) rfl (by omega)) (by have:=q.z;omega) ?_
 intro a7 p7
 replace q:=q.put p7 (by omega)
 have hZ:X k % 256=Zb X i:=by unfold Zb;rw [hr,<-hk];simp
 refine J2 (exStore5 p7.v ((p7.n _ (by omega)).trans p6.v) hy (hP.fz i hi)) (Wn ?_)
 rw [hZ]
 exact h _ _ q (hP.step hi)
def putOps8 (s k i:Nat) (pos:String) (f0 f1 f2 f3 f4 f5 f6 f7 f8 f9:Array Edge):List Oper:=
 [⟨some s,.move (.tmp 1),65,pos,f0,none⟩,
  ⟨some (s+1),.move (.tmp 0),51,pos,f1,none⟩,
  ⟨some (s+2),.nilCheck (.tmp (s+1)),0,pos,f2,none⟩,
  ⟨some (s+3),.fieldAddr 44 (.tmp (s+2)) 0,0,pos,f3,none⟩,
  ⟨some (s+4),.indexAddr 42 (.tmp (s+3)) (.const (.int .i64 k)),0,pos,f4,none⟩,
  ⟨some (s+5),.load 33 (.tmp (s+4)),33,pos,f5,none⟩,
  ⟨some (s+6),.binOp .shr 33 (.tmp (s+5)) (.const (.int .u64 8)) 54,33,pos,f6,none⟩,
  ⟨some (s+7),.convert 33 5 (.tmp (s+6)),5,pos,f7,none⟩,
  ⟨some (s+8),.indexAddr 65 (.tmp s) (.const (.int .i64 i)),0,pos,f8,none⟩,
  ⟨none,.store 5 (.tmp (s+8)) (.tmp (s+7)),0,pos,f9,none⟩]
theorem Jq {id s k i b o c p l cp:Nat} {pos:String} {f0 f1 f2 f3 f4 f5 f6 f7 f8 f9:Array Edge} {Q:Exit->Act->World->Prop} {a:Act} {w0 w:World} {X:Nat->Int} (hs:2<=s) (hz:s+9<=a.tmps.size)
 (e0:a.eval (.tmp 0)=.pointer (some ⟨b,o,none⟩)) (e1:a.eval (.tmp 1)=.slice (some ⟨c,p,none⟩) l cp) (hl:32<=l) (hx:W8 w0 b o X) (hbc:b≠c) (hP:PB w0 c p X (i+1) w) (hi:i < 32) (hk:k=7 - i / 4) (hr:i % 4=2)
 (h:∀a' w',Past a a' s->PB w0 c p X i w'->Q .normal a' w'):Code.wp Tryz.prog (.region id (putOps8 s k i pos f0 f1 f2 f3 f4 f5 f6 f7 f8 f9).toArray false) Q a w:=by
 have hxk:=hx k (by omega)
 have hxc:=hP.fr.someCell hxk.1 (fun f=>hbc f.1)
 obtain ⟨y,hy⟩:=hP.all i hi
 have q:=Past.refl a s
 refine wp_region_lit (l:=putOps8 s k i pos f0 f1 f2 f3 f4 f5 f6 f7 f8 f9) ?_
 change wpList _ _ _ [_,_,_,_,_,_,_,_,_,_] _ _
 refine Qu (Qg e1) (by have:=q.z;omega) ?_
 intro a0 p0
 replace q:=q.put p0 (by omega)
 refine Qu (Qg ((q.n 0 (by omega)).trans e0)) (by have:=q.z;omega) ?_
 intro a1 p1
 replace q:=q.put p1 (by omega)
 refine Qu (J4 p1.v) (by have:=q.z;omega) ?_
 intro a2 p2
 replace q:=q.put p2 (by omega)
 refine Qu (Q7 p2.v) (by have:=q.z;omega) ?_
 intro a3 p3
 replace q:=q.put p3 (by omega)
 refine Qu (Q6 p3.v rfl (by omega)) (by have:=q.z;omega) ?_
 intro a4 p4
 replace q:=q.put p4 (by omega)
 refine Qu (Kh p4.v hxc) (by have:=q.z;omega) ?_
 intro a5 p5
 replace q:=q.put p5 (by omega)
 refine Qu (exShr8 p5.v rfl hxk.2) (by have:=q.z;omega) ?_
 intro a6 p6
 replace q:=q.put p6 (by omega)
 refine Qu (exConvB p6.v) (by have:=q.z;omega) ?_
 intro a7 p7
 replace q:=q.put p7 (by omega)
 refine Qu (exIndex65 ((p7.n _ (by omega)).trans ((p6.n _ (by omega)).trans ((p5.n _ (by omega)).trans ((p4.n _ (by omega)).trans ((p3.n _ (by omega)).trans ((p2.n _ (by omega)).trans ((p1.n _ (by omega)).trans (p0.v)))))))) rfl (by omega)) (by have:=q.z;omega) ?_
 intro a8 p8
 replace q:=q.put p8 (by omega)
 have hZ:X k / 256 % 256=Zb X i:=by unfold Zb;rw [hr,<-hk];rfl
 refine J2 (exStore5 p8.v ((p8.n _ (by omega)).trans p7.v) hy (hP.fz i hi)) (Wn ?_)
 rw [hZ]
 exact h _ _ q (hP.step hi)
def putOps16 (s k i:Nat) (pos:String) (f0 f1 f2 f3 f4 f5 f6 f7 f8 f9:Array Edge):List Oper:=
 [⟨some s,.move (.tmp 1),65,pos,f0,none⟩,
  ⟨some (s+1),.move (.tmp 0),51,pos,f1,none⟩,
  ⟨some (s+2),.nilCheck (.tmp (s+1)),0,pos,f2,none⟩,
  ⟨some (s+3),.fieldAddr 44 (.tmp (s+2)) 0,0,pos,f3,none⟩,
  ⟨some (s+4),.indexAddr 42 (.tmp (s+3)) (.const (.int .i64 k)),0,pos,f4,none⟩,
  ⟨some (s+5),.load 33 (.tmp (s+4)),33,pos,f5,none⟩,
  ⟨some (s+6),.binOp .shr 33 (.tmp (s+5)) (.const (.int .u64 16)) 54,33,pos,f6,none⟩,
  ⟨some (s+7),.convert 33 5 (.tmp (s+6)),5,pos,f7,none⟩,
  ⟨some (s+8),.indexAddr 65 (.tmp s) (.const (.int .i64 i)),0,pos,f8,none⟩,
  ⟨none,.store 5 (.tmp (s+8)) (.tmp (s+7)),0,pos,f9,none⟩]
theorem Jh {id s k i b o c p l cp:Nat} {pos:String} {f0 f1 f2 f3 f4 f5 f6 f7 f8 f9:Array Edge} {Q:Exit->Act->World->Prop} {a:Act} {w0 w:World} {X:Nat->Int} (hs:2<=s) (hz:s+9<=a.tmps.size)
 (e0:a.eval (.tmp 0)=.pointer (some ⟨b,o,none⟩)) (e1:a.eval (.tmp 1)=.slice (some ⟨c,p,none⟩) l cp) (hl:32<=l) (hx:W8 w0 b o X) (hbc:b≠c) (hP:PB w0 c p X (i+1) w) (hi:i < 32) (hk:k=7 - i / 4) (hr:i % 4=1)
 (h:∀a' w',Past a a' s->PB w0 c p X i w'->Q .normal a' w'):Code.wp Tryz.prog (.region id (putOps16 s k i pos f0 f1 f2 f3 f4 f5 f6 f7 f8 f9).toArray false) Q a w:=by
 have hxk:=hx k (by omega)
 have hxc:=hP.fr.someCell hxk.1 (fun f=>hbc f.1)
 obtain ⟨y,hy⟩:=hP.all i hi
 have q:=Past.refl a s
 refine wp_region_lit (l:=putOps16 s k i pos f0 f1 f2 f3 f4 f5 f6 f7 f8 f9) ?_
 change wpList _ _ _ [_,_,_,_,_,_,_,_,_,_] _ _
 refine Qu (Qg e1) (by have:=q.z;omega) ?_
 intro a0 p0
 replace q:=q.put p0 (by omega)
 refine Qu (Qg ((q.n 0 (by omega)).trans e0)) (by have:=q.z;omega) ?_
 intro a1 p1
 replace q:=q.put p1 (by omega)
 refine Qu (J4 p1.v) (by have:=q.z;omega) ?_
 intro a2 p2
 replace q:=q.put p2 (by omega)
 refine Qu (Q7 p2.v) (by have:=q.z;omega) ?_
 intro a3 p3
 replace q:=q.put p3 (by omega)
 refine Qu (Q6 p3.v rfl (by omega)) (by have:=q.z;omega) ?_
 intro a4 p4
 replace q:=q.put p4 (by omega)
 refine Qu (Kh p4.v hxc) (by have:=q.z;omega) ?_
 intro a5 p5
 replace q:=q.put p5 (by omega)
 refine Qu (exShr16 p5.v rfl hxk.2) (by have:=q.z;omega) ?_
 intro a6 p6
 replace q:=q.put p6 (by omega)
 refine Qu (exConvB p6.v) (by have:=q.z;omega) ?_
 intro a7 p7
 replace q:=q.put p7 (by omega)
 refine Qu (exIndex65 ((p7.n _ (by omega)).trans ((p6.n _ (by omega)).trans ((p5.n _ (by omega)).trans ((p4.n _ (by omega)).trans ((p3.n _ (by omega)).trans ((p2.n _ (by omega)).trans ((p1.n _ (by omega)).trans (p0.v)))))))) rfl (by omega)) (by have:=q.z;omega) ?_
 intro a8 p8
 replace q:=q.put p8 (by omega)
 have hZ:X k / 65536 % 256=Zb X i:=by unfold Zb;rw [hr,<-hk];rfl
 refine J2 (exStore5 p8.v ((p8.n _ (by omega)).trans p7.v) hy (hP.fz i hi)) (Wn ?_)
 rw [hZ]
 exact h _ _ q (hP.step hi)
def putOps24 (s k i:Nat) (pos:String) (f0 f1 f2 f3 f4 f5 f6 f7 f8 f9:Array Edge):List Oper:=
 [⟨some s,.move (.tmp 1),65,pos,f0,none⟩,
  ⟨some (s+1),.move (.tmp 0),51,pos,f1,none⟩,
  ⟨some (s+2),.nilCheck (.tmp (s+1)),0,pos,f2,none⟩,
  ⟨some (s+3),.fieldAddr 44 (.tmp (s+2)) 0,0,pos,f3,none⟩,
  ⟨some (s+4),.indexAddr 42 (.tmp (s+3)) (.const (.int .i64 k)),0,pos,f4,none⟩,
  ⟨some (s+5),.load 33 (.tmp (s+4)),33,pos,f5,none⟩,
  ⟨some (s+6),.binOp .shr 33 (.tmp (s+5)) (.const (.int .u64 24)) 54,33,pos,f6,none⟩,
  ⟨some (s+7),.convert 33 5 (.tmp (s+6)),5,pos,f7,none⟩,
  ⟨some (s+8),.indexAddr 65 (.tmp s) (.const (.int .i64 i)),0,pos,f8,none⟩,
  ⟨none,.store 5 (.tmp (s+8)) (.tmp (s+7)),0,pos,f9,none⟩]
theorem Jg {id s k i b o c p l cp:Nat} {pos:String} {f0 f1 f2 f3 f4 f5 f6 f7 f8 f9:Array Edge} {Q:Exit->Act->World->Prop} {a:Act} {w0 w:World} {X:Nat->Int} (hs:2<=s) (hz:s+9<=a.tmps.size)
 (e0:a.eval (.tmp 0)=.pointer (some ⟨b,o,none⟩)) (e1:a.eval (.tmp 1)=.slice (some ⟨c,p,none⟩) l cp) (hl:32<=l) (hx:W8 w0 b o X) (hbc:b≠c) (hP:PB w0 c p X (i+1) w) (hi:i < 32) (hk:k=7 - i / 4) (hr:i % 4=0)
 (h:∀a' w',Past a a' s->PB w0 c p X i w'->Q .normal a' w'):Code.wp Tryz.prog (.region id (putOps24 s k i pos f0 f1 f2 f3 f4 f5 f6 f7 f8 f9).toArray false) Q a w:=by
 have hxk:=hx k (by omega)
 have hxc:=hP.fr.someCell hxk.1 (fun f=>hbc f.1)
 obtain ⟨y,hy⟩:=hP.all i hi
 have q:=Past.refl a s
 refine wp_region_lit (l:=putOps24 s k i pos f0 f1 f2 f3 f4 f5 f6 f7 f8 f9) ?_
 change wpList _ _ _ [_,_,_,_,_,_,_,_,_,_] _ _
 refine Qu (Qg e1) (by have:=q.z;omega) ?_
 intro a0 p0
 replace q:=q.put p0 (by omega)
 refine Qu (Qg ((q.n 0 (by omega)).trans e0)) (by have:=q.z;omega) ?_
 intro a1 p1
 replace q:=q.put p1 (by omega)
 refine Qu (J4 p1.v) (by have:=q.z;omega) ?_
 intro a2 p2
 replace q:=q.put p2 (by omega)
 refine Qu (Q7 p2.v) (by have:=q.z;omega) ?_
 intro a3 p3
 replace q:=q.put p3 (by omega)
 refine Qu (Q6 p3.v rfl (by omega)) (by have:=q.z;omega) ?_
 intro a4 p4
 replace q:=q.put p4 (by omega)
 refine Qu (Kh p4.v hxc) (by have:=q.z;omega) ?_
 intro a5 p5
 replace q:=q.put p5 (by omega)
 refine Qu (exShr24 p5.v rfl hxk.2) (by have:=q.z;omega) ?_
 intro a6 p6
 replace q:=q.put p6 (by omega)
 refine Qu (exConvB p6.v) (by have:=q.z;omega) ?_
 intro a7 p7
 replace q:=q.put p7 (by omega)
 refine Qu (exIndex65 ((p7.n _ (by omega)).trans ((p6.n _ (by omega)).trans ((p5.n _ (by omega)).trans ((p4.n _ (by omega)).trans ((p3.n _ (by omega)).trans ((p2.n _ (by omega)).trans ((p1.n _ (by omega)).trans (p0.v)))))))) rfl (by omega)) (by have:=q.z;omega) ?_
 intro a8 p8
 replace q:=q.put p8 (by omega)
 have hZ:X k / 16777216 % 256=Zb X i:=by unfold Zb;rw [hr,<-hk];rfl
 refine J2 (exStore5 p8.v ((p8.n _ (by omega)).trans p7.v) hy (hP.fz i hi)) (Wn ?_)
 rw [hZ]
 exact h _ _ q (hP.step hi)
set_option maxRecDepth 100000 in
theorem putBytes_walk (b o c p l cp:Nat) (X:Nat->Int) (w:World) (hx:W8 w b o X) (hbc:b≠c) (hl:32<=l) (hP:PB w c p X 32 w):
 Calls Tryz.prog 43 #[.pointer (some ⟨b,o,none⟩),.slice (some ⟨c,p,none⟩) l cp] w fun e w'=>e=.returned (.tuple #[])/\PB w c p X 0 w':=by
 refine enterA Tryz.func43 rfl (fun a0 z0 d0 ha=>?_)
 have e0:=ha 0 _ rfl
 have e1:=ha 1 _ rfl
 replace z0:a0.tmps.size=284:=z0
 refine Sq (Jr (s:=4) (k:=0) (i:=31) (by decide) (by rw [z0];decide) e0 e1 hl hx hbc hP (by decide) (by decide) (by decide) (fun a' w' q hP'=>Qa ?_))
 replace e0:=(q.n 0 (by decide)).trans e0;replace e1:=(q.n 1 (by decide)).trans e1;replace z0:=q.z.trans z0;replace d0:=q.f.trans d0;clear hP;have hP:=hP';clear hP' q
 refine Sq (Jq (s:=12) (k:=0) (i:=30) (by decide) (by rw [z0];decide) e0 e1 hl hx hbc hP (by decide) (by decide) (by decide) (fun a' w' q hP'=>Qa ?_))
 replace e0:=(q.n 0 (by decide)).trans e0;replace e1:=(q.n 1 (by decide)).trans e1;replace z0:=q.z.trans z0;replace d0:=q.f.trans d0;clear hP;have hP:=hP';clear hP' q
 refine Sq (Jh (s:=21) (k:=0) (i:=29) (by decide) (by rw [z0];decide) e0 e1 hl hx hbc hP (by decide) (by decide) (by decide) (fun a' w' q hP'=>Qa ?_))
 replace e0:=(q.n 0 (by decide)).trans e0;replace e1:=(q.n 1 (by decide)).trans e1;replace z0:=q.z.trans z0;replace d0:=q.f.trans d0;clear hP;have hP:=hP';clear hP' q
 refine Sq (Jg (s:=30) (k:=0) (i:=28) (by decide) (by rw [z0];decide) e0 e1 hl hx hbc hP (by decide) (by decide) (by decide) (fun a' w' q hP'=>Qa ?_))
 replace e0:=(q.n 0 (by decide)).trans e0;replace e1:=(q.n 1 (by decide)).trans e1;replace z0:=q.z.trans z0;replace d0:=q.f.trans d0;clear hP;have hP:=hP';clear hP' q
 refine Sq (Jr (s:=39) (k:=1) (i:=27) (by decide) (by rw [z0];decide) e0 e1 hl hx hbc hP (by decide) (by decide) (by decide) (fun a' w' q hP'=>Qa ?_))
 replace e0:=(q.n 0 (by decide)).trans e0;replace e1:=(q.n 1 (by decide)).trans e1;replace z0:=q.z.trans z0;replace d0:=q.f.trans d0;clear hP;have hP:=hP';clear hP' q
 refine Sq (Jq (s:=47) (k:=1) (i:=26) (by decide) (by rw [z0];decide) e0 e1 hl hx hbc hP (by decide) (by decide) (by decide) (fun a' w' q hP'=>Qa ?_))
 replace e0:=(q.n 0 (by decide)).trans e0;replace e1:=(q.n 1 (by decide)).trans e1;replace z0:=q.z.trans z0;replace d0:=q.f.trans d0;clear hP;have hP:=hP';clear hP' q
 refine Sq (Jh (s:=56) (k:=1) (i:=25) (by decide) (by rw [z0];decide) e0 e1 hl hx hbc hP (by decide) (by decide) (by decide) (fun a' w' q hP'=>Qa ?_))
 replace e0:=(q.n 0 (by decide)).trans e0;replace e1:=(q.n 1 (by decide)).trans e1;replace z0:=q.z.trans z0;replace d0:=q.f.trans d0;clear hP;have hP:=hP';clear hP' q
 refine Sq (Jg (s:=65) (k:=1) (i:=24) (by decide) (by rw [z0];decide) e0 e1 hl hx hbc hP (by decide) (by decide) (by decide) (fun a' w' q hP'=>Qa ?_))
 replace e0:=(q.n 0 (by decide)).trans e0;replace e1:=(q.n 1 (by decide)).trans e1;replace z0:=q.z.trans z0;replace d0:=q.f.trans d0;clear hP;have hP:=hP';clear hP' q
 refine Sq (Jr (s:=74) (k:=2) (i:=23) (by decide) (by rw [z0];decide) e0 e1 hl hx hbc hP (by decide) (by decide) (by decide) (fun a' w' q hP'=>Qa ?_))
 replace e0:=(q.n 0 (by decide)).trans e0;replace e1:=(q.n 1 (by decide)).trans e1;replace z0:=q.z.trans z0;replace d0:=q.f.trans d0;clear hP;have hP:=hP';clear hP' q
 refine Sq (Jq (s:=82) (k:=2) (i:=22) (by decide) (by rw [z0];decide) e0 e1 hl hx hbc hP (by decide) (by decide) (by decide) (fun a' w' q hP'=>Qa ?_))
 replace e0:=(q.n 0 (by decide)).trans e0;replace e1:=(q.n 1 (by decide)).trans e1;replace z0:=q.z.trans z0;replace d0:=q.f.trans d0;clear hP;have hP:=hP';clear hP' q
 refine Sq (Jh (s:=91) (k:=2) (i:=21) (by decide) (by rw [z0];decide) e0 e1 hl hx hbc hP (by decide) (by decide) (by decide) (fun a' w' q hP'=>Qa ?_))
 replace e0:=(q.n 0 (by decide)).trans e0;replace e1:=(q.n 1 (by decide)).trans e1;replace z0:=q.z.trans z0;replace d0:=q.f.trans d0;clear hP;have hP:=hP';clear hP' q
 refine Sq (Jg (s:=100) (k:=2) (i:=20) (by decide) (by rw [z0];decide) e0 e1 hl hx hbc hP (by decide) (by decide) (by decide) (fun a' w' q hP'=>Qa ?_))
 replace e0:=(q.n 0 (by decide)).trans e0;replace e1:=(q.n 1 (by decide)).trans e1;replace z0:=q.z.trans z0;replace d0:=q.f.trans d0;clear hP;have hP:=hP';clear hP' q
 refine Sq (Jr (s:=109) (k:=3) (i:=19) (by decide) (by rw [z0];decide) e0 e1 hl hx hbc hP (by decide) (by decide) (by decide) (fun a' w' q hP'=>Qa ?_))
 replace e0:=(q.n 0 (by decide)).trans e0;replace e1:=(q.n 1 (by decide)).trans e1;replace z0:=q.z.trans z0;replace d0:=q.f.trans d0;clear hP;have hP:=hP';clear hP' q
 refine Sq (Jq (s:=117) (k:=3) (i:=18) (by decide) (by rw [z0];decide) e0 e1 hl hx hbc hP (by decide) (by decide) (by decide) (fun a' w' q hP'=>Qa ?_))
 replace e0:=(q.n 0 (by decide)).trans e0;replace e1:=(q.n 1 (by decide)).trans e1;replace z0:=q.z.trans z0;replace d0:=q.f.trans d0;clear hP;have hP:=hP';clear hP' q
 refine Sq (Jh (s:=126) (k:=3) (i:=17) (by decide) (by rw [z0];decide) e0 e1 hl hx hbc hP (by decide) (by decide) (by decide) (fun a' w' q hP'=>Qa ?_))
 replace e0:=(q.n 0 (by decide)).trans e0;replace e1:=(q.n 1 (by decide)).trans e1;replace z0:=q.z.trans z0;replace d0:=q.f.trans d0;clear hP;have hP:=hP';clear hP' q
 refine Sq (Jg (s:=135) (k:=3) (i:=16) (by decide) (by rw [z0];decide) e0 e1 hl hx hbc hP (by decide) (by decide) (by decide) (fun a' w' q hP'=>Qa ?_))
 replace e0:=(q.n 0 (by decide)).trans e0;replace e1:=(q.n 1 (by decide)).trans e1;replace z0:=q.z.trans z0;replace d0:=q.f.trans d0;clear hP;have hP:=hP';clear hP' q
 refine Sq (Jr (s:=144) (k:=4) (i:=15) (by decide) (by rw [z0];decide) e0 e1 hl hx hbc hP (by decide) (by decide) (by decide) (fun a' w' q hP'=>Qa ?_))
 replace e0:=(q.n 0 (by decide)).trans e0;replace e1:=(q.n 1 (by decide)).trans e1;replace z0:=q.z.trans z0;replace d0:=q.f.trans d0;clear hP;have hP:=hP';clear hP' q
 refine Sq (Jq (s:=152) (k:=4) (i:=14) (by decide) (by rw [z0];decide) e0 e1 hl hx hbc hP (by decide) (by decide) (by decide) (fun a' w' q hP'=>Qa ?_))
 replace e0:=(q.n 0 (by decide)).trans e0;replace e1:=(q.n 1 (by decide)).trans e1;replace z0:=q.z.trans z0;replace d0:=q.f.trans d0;clear hP;have hP:=hP';clear hP' q
 refine Sq (Jh (s:=161) (k:=4) (i:=13) (by decide) (by rw [z0];decide) e0 e1 hl hx hbc hP (by decide) (by decide) (by decide) (fun a' w' q hP'=>Qa ?_))
 replace e0:=(q.n 0 (by decide)).trans e0;replace e1:=(q.n 1 (by decide)).trans e1;replace z0:=q.z.trans z0;replace d0:=q.f.trans d0;clear hP;have hP:=hP';clear hP' q
 refine Sq (Jg (s:=170) (k:=4) (i:=12) (by decide) (by rw [z0];decide) e0 e1 hl hx hbc hP (by decide) (by decide) (by decide) (fun a' w' q hP'=>Qa ?_))
 replace e0:=(q.n 0 (by decide)).trans e0;replace e1:=(q.n 1 (by decide)).trans e1;replace z0:=q.z.trans z0;replace d0:=q.f.trans d0;clear hP;have hP:=hP';clear hP' q
 refine Sq (Jr (s:=179) (k:=5) (i:=11) (by decide) (by rw [z0];decide) e0 e1 hl hx hbc hP (by decide) (by decide) (by decide) (fun a' w' q hP'=>Qa ?_))
 replace e0:=(q.n 0 (by decide)).trans e0;replace e1:=(q.n 1 (by decide)).trans e1;replace z0:=q.z.trans z0;replace d0:=q.f.trans d0;clear hP;have hP:=hP';clear hP' q
 refine Sq (Jq (s:=187) (k:=5) (i:=10) (by decide) (by rw [z0];decide) e0 e1 hl hx hbc hP (by decide) (by decide) (by decide) (fun a' w' q hP'=>Qa ?_))
 replace e0:=(q.n 0 (by decide)).trans e0;replace e1:=(q.n 1 (by decide)).trans e1;replace z0:=q.z.trans z0;replace d0:=q.f.trans d0;clear hP;have hP:=hP';clear hP' q
 refine Sq (Jh (s:=196) (k:=5) (i:=9) (by decide) (by rw [z0];decide) e0 e1 hl hx hbc hP (by decide) (by decide) (by decide) (fun a' w' q hP'=>Qa ?_))
 replace e0:=(q.n 0 (by decide)).trans e0;replace e1:=(q.n 1 (by decide)).trans e1;replace z0:=q.z.trans z0;replace d0:=q.f.trans d0;clear hP;have hP:=hP';clear hP' q
 refine Sq (Jg (s:=205) (k:=5) (i:=8) (by decide) (by rw [z0];decide) e0 e1 hl hx hbc hP (by decide) (by decide) (by decide) (fun a' w' q hP'=>Qa ?_))
 replace e0:=(q.n 0 (by decide)).trans e0;replace e1:=(q.n 1 (by decide)).trans e1;replace z0:=q.z.trans z0;replace d0:=q.f.trans d0;clear hP;have hP:=hP';clear hP' q
 refine Sq (Jr (s:=214) (k:=6) (i:=7) (by decide) (by rw [z0];decide) e0 e1 hl hx hbc hP (by decide) (by decide) (by decide) (fun a' w' q hP'=>Qa ?_))
 replace e0:=(q.n 0 (by decide)).trans e0;replace e1:=(q.n 1 (by decide)).trans e1;replace z0:=q.z.trans z0;replace d0:=q.f.trans d0;clear hP;have hP:=hP';clear hP' q
 refine Sq (Jq (s:=222) (k:=6) (i:=6) (by decide) (by rw [z0];decide) e0 e1 hl hx hbc hP (by decide) (by decide) (by decide) (fun a' w' q hP'=>Qa ?_))
 replace e0:=(q.n 0 (by decide)).trans e0;replace e1:=(q.n 1 (by decide)).trans e1;replace z0:=q.z.trans z0;replace d0:=q.f.trans d0;clear hP;have hP:=hP';clear hP' q
 refine Sq (Jh (s:=231) (k:=6) (i:=5) (by decide) (by rw [z0];decide) e0 e1 hl hx hbc hP (by decide) (by decide) (by decide) (fun a' w' q hP'=>Qa ?_))
 replace e0:=(q.n 0 (by decide)).trans e0;replace e1:=(q.n 1 (by decide)).trans e1;replace z0:=q.z.trans z0;replace d0:=q.f.trans d0;clear hP;have hP:=hP';clear hP' q
 refine Sq (Jg (s:=240) (k:=6) (i:=4) (by decide) (by rw [z0];decide) e0 e1 hl hx hbc hP (by decide) (by decide) (by decide) (fun a' w' q hP'=>Qa ?_))
 replace e0:=(q.n 0 (by decide)).trans e0;replace e1:=(q.n 1 (by decide)).trans e1;replace z0:=q.z.trans z0;replace d0:=q.f.trans d0;clear hP;have hP:=hP';clear hP' q
 refine Sq (Jr (s:=249) (k:=7) (i:=3) (by decide) (by rw [z0];decide) e0 e1 hl hx hbc hP (by decide) (by decide) (by decide) (fun a' w' q hP'=>Qa ?_))
 replace e0:=(q.n 0 (by decide)).trans e0;replace e1:=(q.n 1 (by decide)).trans e1;replace z0:=q.z.trans z0;replace d0:=q.f.trans d0;clear hP;have hP:=hP';clear hP' q
 refine Sq (Jq (s:=257) (k:=7) (i:=2) (by decide) (by rw [z0];decide) e0 e1 hl hx hbc hP (by decide) (by decide) (by decide) (fun a' w' q hP'=>Qa ?_))
 replace e0:=(q.n 0 (by decide)).trans e0;replace e1:=(q.n 1 (by decide)).trans e1;replace z0:=q.z.trans z0;replace d0:=q.f.trans d0;clear hP;have hP:=hP';clear hP' q
 refine Sq (Jh (s:=266) (k:=7) (i:=1) (by decide) (by rw [z0];decide) e0 e1 hl hx hbc hP (by decide) (by decide) (by decide) (fun a' w' q hP'=>Qa ?_))
 replace e0:=(q.n 0 (by decide)).trans e0;replace e1:=(q.n 1 (by decide)).trans e1;replace z0:=q.z.trans z0;replace d0:=q.f.trans d0;clear hP;have hP:=hP';clear hP' q
 refine Jg (s:=275) (k:=7) (i:=0) (by decide) (by rw [z0];decide) e0 e1 hl hx hbc hP (by decide) (by decide) (by decide) (fun a' w' q hP'=>?_)
 replace e0:=(q.n 0 (by decide)).trans e0;replace e1:=(q.n 1 (by decide)).trans e1;replace z0:=q.z.trans z0;replace d0:=q.f.trans d0;clear hP;have hP:=hP';clear hP' q
 exact endA rfl d0 ⟨rfl,hP⟩
section
set_option maxRecDepth 8000
section
variable {a:Act} {N:Nat} {ds:List Deferred} {l:Env} {w:World} {d:Option Nat} {ty:TypeId} {pos:String} {after:Array Edge} {g:Option (Nat × Bool)}
theorem Ez.ix42 (H:Hd a N ds l) {x y:Operand} {b o:Nat} {k:IntKind} {i:Int} (h:ov l x=some (.pointer (some ⟨b,o,none⟩))) (h':ov l y=some (.int k i)) (j:Nat) (hj:i=(j:Int)) (hn:j < 8):(execOp a.eval ⟨d,.indexAddr 42 x y,ty,pos,after,g⟩).run Tryz.prog w=.ok (.value (.pointer (some ⟨b,o+j,none⟩))) w:=by
 have e:=H.o h
 have e':=H.o h'
 subst hj
 have h1:(0:Int)<=(j:Int)/\(j:Int) < 8:=by omega
 simp only [execOp,e,e']
 go_simp
 try (intro hle;exact absurd hle (by omega))
end
theorem Jb {x y:Int} (hx:U32 x) (hy:U32 y):U32 (bits .or .u32 x y)/\(bits .or .u32 x y=0↔x=0/\y=0):=by
 obtain ⟨x,rfl⟩:=Eo hx.1
 obtain ⟨y,rfl⟩:=Eo hy.1
 have h1:=hx.2
 have h2:=hy.2
 rw [u32_or_nat x y (by omega) (by omega)]
 have hb:x ||| y < 2 ^ 32:=Nat.or_lt_two_pow (by omega) (by omega)
 refine ⟨⟨by omega,by have:(2:Nat) ^ 32=4294967296:=by decide
                      omega⟩,?_⟩
 have:x ||| y=0↔x=0/\y=0:=Nat.or_eq_zero_iff
 omega
end
section
set_option maxRecDepth 8000
theorem val8_zero {n0 n1 n2 n3 n4 n5 n6 n7:Int} (u0:U32 n0) (u1:U32 n1) (u2:U32 n2) (u3:U32 n3) (u4:U32 n4) (u5:U32 n5) (u6:U32 n6) (u7:U32 n7):val8 n0 n1 n2 n3 n4 n5 n6 n7=0↔n0=0/\n1=0/\n2=0/\n3=0/\n4=0/\n5=0/\n6=0/\n7=0:=by
 unfold U32 at*;unfold val8;omega
end
section
set_option maxRecDepth 8000
structure Sm where
 d:Nat
 r:List Nat
 e:List Nat
def nin (t:Nat):List Nat->Bool
 | []=>true
 | x::l=>bif Nat.beq x t then false else nin t l
def isin (t:Nat):List Nat->Bool
 | []=>false
 | x::l=>bif Nat.beq x t then true else isin t l
theorem nin_spec {t:Nat}:∀{l:List Nat},nin t l=true->t ∉ l
 | [],_=>by simp
 | x::l,h=>by
   unfold nin at h
   cases hb:Nat.beq x t with
   | true=>rw [hb] at h;cases h
   | false=>
     rw [hb] at h
     have h1:=Nat.ne_of_beq_eq_false hb
     have h2:=nin_spec (l:=l) h
     simp only [List.mem_cons,not_or]
     exact ⟨fun e=>h1 e.symm,h2⟩
theorem isin_spec {t:Nat}:∀{l:List Nat},isin t l=true->t ∈ l
 | [],h=>by cases h
 | x::l,h=>by
   unfold isin at h
   cases hb:Nat.beq x t with
   | true=>exact (Nat.eq_of_beq_eq_true hb)▸List.mem_cons_self
   | false=>rw [hb] at h;exact List.mem_cons_of_mem _ (isin_spec h)
def smPair (k:Nat) (s:Sm):List Sm->Bool
 | []=>true
 | t::l=>(bif isin k t.e then true else (bif Nat.beq s.d t.d then false else (bif nin s.d t.r then nin t.d s.r else false))) && smPair k s l
def smBelow (k:Nat):List Nat->Bool
 | []=>true
 | x::l=>bif Nat.blt x k then smBelow k l else false
def smOk:Nat->List Sm->Bool
 | _, []=>true
 | k,s::l=>(bif smBelow k s.e then smPair k s l else false) && smOk (k+1) l
def bindE:List Edge->List Nat
 | []=> []
 | e::l=>bif Region.binds .any e then e.on::bindE l else bindE l
theorem bindE_mem {x:Nat}:∀{l:List Edge},x ∈ bindE l↔∃e ∈ l,Region.binds .any e=true/\e.on=x
 | []=>by simp [bindE]
 | e::l=>by
   unfold bindE
   cases h:Region.binds .any e with
   | true=>
     simp only [cond_true,List.mem_cons]
     rw [bindE_mem (l:=l)]
     constructor
     ·rintro (rfl | ⟨e',h1,h2⟩)
      ·exact ⟨e,.inl rfl,h,rfl⟩
      exact ⟨e',.inr h1,h2⟩
     rintro ⟨e',rfl | h1,h2,h3⟩
     ·exact .inl h3.symm
     exact .inr ⟨e',h1,h2,h3⟩
   | false=>
     simp only [cond_false,List.mem_cons]
     rw [bindE_mem (l:=l)]
     constructor
     ·rintro ⟨e',h1,h2⟩;exact ⟨e',.inr h1,h2⟩
     rintro ⟨e',rfl | h1,h2,h3⟩
     ·rw [h] at h2;cases h2
     exact ⟨e',h1,h2,h3⟩
def tmE:List Operand->List Nat
 | []=> []
 | .tmp t::l=>t::tmE l
 | _::l=>tmE l
def smOf (o:Oper):Option Sm:=
 match o.dst,o.guard with
 | some d,none=>some ⟨d,tmE o.op.operands.toList,bindE o.after.toList⟩
 | _,_=>none
def noSel:List Oper->Bool
 | []=>true
 | o::l=>(match o.op with | .select ..=>false | _=>true) && noSel l
def smIs:List Oper->List Sm->Prop
 | [], []=>True
 | o::l,s::m=>smOf o=some s/\smIs l m
 | _,_=>False
theorem tmE_eq:∀(l:List Operand),tmE l=l.filterMap fun | .tmp t=>some t | _=>none
 | []=>rfl
 | .tmp t::l=>by simp [tmE,tmE_eq l]
 | .const _::l=>by simp [tmE,tmE_eq l]
 | .global _::l=>by simp [tmE,tmE_eq l]
 | .func _::l=>by simp [tmE,tmE_eq l]
theorem smOf_spec {o:Oper} {s:Sm} (h:smOf o=some s) (ops:Array Oper):o.dst=some s.d/\o.looksAt ops=s.r/\bindE o.after.toList=s.e:=by
 unfold smOf at h
 cases hd:o.dst with
 | none=>rw [hd] at h;cases h
 | some d=>
   cases hg:o.guard with
   | some g=>rw [hd,hg] at h;cases h
   | none=>
     rw [hd,hg] at h
     have:=Option.some.inj h
     subst this
     refine ⟨rfl,?_,rfl⟩
     simp only [Oper.looksAt,hg,List.append_nil]
     exact (tmE_eq _).symm
theorem smIs_get:∀{l:List Oper} {m:List Sm},smIs l m->∀{i:Nat} {o:Oper},l[i]?=some o->∃s,m[i]?=some s/\smOf o=some s
 | [], [],_,i,o,h=>by simp at h
 | o::l,s::m,hm,0,o',h=>by simp at h;subst h;exact ⟨s,by simp,hm.1⟩
 | o::l,s::m,hm,i+1,o',h=>by
   obtain ⟨s',h1,h2⟩:=smIs_get hm.2 (i:=i) (by simpa using h)
   exact ⟨s',by simpa using h1,h2⟩
 | [],_::_,hm,_,_,_=>hm.elim
 | _::_, [],hm,_,_,_=>hm.elim
theorem smBelow_spec {k:Nat}:∀{l:List Nat},smBelow k l=true->∀x ∈ l,x < k
 | [],_,x,hx=>by simp at hx
 | y::l,h,x,hx=>by
   unfold smBelow at h
   cases hb:Nat.blt y k with
   | false=>rw [hb] at h;cases h
   | true=>
     rw [hb] at h
     rcases List.mem_cons.1 hx with rfl | hx
     ·simpa using hb
     exact smBelow_spec h x hx
theorem smPair_spec {k:Nat} {s:Sm}:∀{l:List Sm},smPair k s l=true->∀t ∈ l,k ∈ t.e\/(s.d≠t.d/\s.d ∉ t.r/\t.d ∉ s.r)
 | [],_,t,ht=>by simp at ht
 | u::l,h,t,ht=>by
   simp only [smPair,Bool.and_eq_true] at h
   rcases List.mem_cons.1 ht with rfl | ht
   ·have h1:=h.1
    cases hi:isin k t.e with
    | true=>exact .inl (isin_spec hi)
    | false=>
      rw [hi] at h1
      cases hd:Nat.beq s.d t.d with
      | true=>rw [hd] at h1;cases h1
      | false=>
        rw [hd] at h1
        cases hn:nin s.d t.r with
        | false=>rw [hn] at h1;cases h1
        | true=>rw [hn] at h1;exact .inr ⟨Nat.ne_of_beq_eq_false hd,nin_spec hn,nin_spec h1⟩
   exact smPair_spec h.2 t ht
theorem smOk_get:∀{m:List Sm} {k:Nat},smOk k m=true->∀{i:Nat} {s:Sm},m[i]?=some s->smBelow (k+i) s.e=true/\∀j t,i < j->m[j]?=some t->(k+i) ∈ t.e\/(s.d≠t.d/\s.d ∉ t.r/\t.d ∉ s.r)
 | [],_,_,i,s,h=>by simp at h
 | u::m,k,h,0,s,hs=>by
   simp only [smOk,Bool.and_eq_true] at h
   simp at hs;subst hs
   have h1:=h.1
   cases hb:smBelow k u.e with
   | false=>rw [hb] at h1;cases h1
   | true=>
     rw [hb] at h1
     refine ⟨rfl,fun j t hj ht=>?_⟩
     obtain ⟨j,rfl⟩:∃j',j=j'+1:=⟨j - 1,by omega⟩
     have:=smPair_spec h1 t (List.mem_of_getElem? (i:=j) (by simpa using ht))
     simpa using this
 | u::m,k,h,i+1,s,hs=>by
   simp only [smOk,Bool.and_eq_true] at h
   obtain ⟨h1,h2⟩:=smOk_get h.2 (i:=i) (s:=s) (by simpa using hs)
   rw [show k+1+i=k+(i+1) by omega] at h1 h2
   refine ⟨h1,fun j t hj ht=>?_⟩
   obtain ⟨j,rfl⟩:∃j',j=j'+1:=⟨j - 1,by omega⟩
   exact h2 j t (by omega) (by simpa using ht)
theorem noSel_spec:∀{l:List Oper},noSel l=true->Region.noSelect l.toArray=true
 | [],_=>by simp [Region.noSelect]
 | o::l,h=>by
   simp only [noSel,Bool.and_eq_true] at h
   have:=noSel_spec h.2
   simp only [Region.noSelect,List.all_toArray,List.all_cons,Bool.and_eq_true] at this ⊢
   exact ⟨h.1,this⟩
theorem lexFrom_of {ops:Array Oper} {m:List Sm} (hm:smIs ops.toList m) (ho:smOk 0 m=true):∀(f k:Nat) (listed:Array Bool),f+k=ops.size->listed.size=ops.size->(∀j,j < ops.size->listed.getD j true=decide (j < k))->Region.lexFrom .any ops f k listed=true
 | 0,k,listed,hk,hs,hl=>by
   simp only [Region.lexFrom,List.isEmpty_iff]
   refine List.eq_nil_iff_forall_not_mem.2 fun j hj=>?_
   obtain ⟨h1,o,h2,_⟩:=mem_ready.1 hj
   have hlt:=(Array.getElem?_eq_some_iff.1 h2).1
   rw [hl j hlt] at h1
   simp at h1
   omega
 | f+1,k,listed,hk,hs,hl=>by
   simp only [Region.lexFrom,Bool.and_eq_true]
   have hklt:k < ops.size:=by omega
   have hok:ops[k]?=some ops[k]:=by simp [hklt]
   obtain ⟨s,hs1,hs2⟩:=smIs_get hm (i:=k) (o:=ops[k]) (by simp)
   obtain ⟨b1,b2⟩:=smOk_get ho hs1
   rw [Nat.zero_add] at b1 b2
   obtain ⟨sd,sr,se⟩:=smOf_spec hs2 ops
   have hget:∀j,j < ops.size->listed.getD j false=decide (j < k):=fun j hj=>by
    have:=hl j hj
    have hj':j < listed.size:=by omega
    simp [hj'] at this ⊢
    exact this
   refine ⟨⟨?_,?_⟩,lexFrom_of hm ho f (k+1) _ (by omega) (by simpa using hs) fun j hj=>?_⟩
   ·rw [List.contains_iff_mem]
    refine mem_ready.2 ⟨by rw [hl k hklt];simp,_,hok,fun e he hb=>?_⟩
    have:e.on ∈ s.e:=se▸bindE_mem.2 ⟨e,by simpa using he,hb,rfl⟩
    have:=smBelow_spec b1 _ this
    rw [hget _ (by omega)];simpa using this
   ·unfold Region.free
    rw [hok]
    refine List.all_eq_true.2 fun j hj=>?_
    have hj:=List.mem_range.1 hj
    have hoj:ops[j]?=some ops[j]:=by simp [hj]
    rw [hl j hj,hoj]
    by_cases c1:j=k
    ·simp [c1]
    by_cases c2:j < k
    ·simp [c2]
    obtain ⟨t,ht1,ht2⟩:=smIs_get hm (i:=j) (o:=ops[j]) (by simp)
    obtain ⟨td,tr,te⟩:=smOf_spec ht2 ops
    have h3:=b2 j t (by omega) ht1
    simp only [Bool.or_eq_true]
    right
    rcases h3 with h3 | ⟨h3,h4,h5⟩
    ·left
     rw [<-te] at h3
     obtain ⟨e,he,hb,hon⟩:=bindE_mem.1 h3
     rw [Array.any_eq_true']
     exact ⟨e,by simpa using he,by simp [hb,hon]⟩
    right
    simp only [Oper.apart,sd,td,sr,tr,Bool.and_eq_true]
    refine ⟨⟨by simpa using h4,by simpa using fun e=>h3 e.symm⟩,by simpa using h5⟩
   by_cases c:j=k
   ·subst c
    have:j < listed.size:=by omega
    simp [this]
   rw [getD_set_ne true (Ne.symm c),hl j hj]
   exact decide_eq_decide.2 (by omega)
theorem lexB_of {l:List Oper} (m:List Sm) (hn:noSel l=true) (hm:smIs l m) (ho:smOk 0 m=true):Region.lexB .any l.toArray=true:=by
 simp only [Region.lexB,Bool.and_eq_true]
 exact ⟨noSel_spec hn,lexFrom_of (by simpa using hm) ho _ 0 _ (by simp) (by simp) fun j hj=>by simp at hj ⊢;simp [hj]⟩
theorem smIs_of:∀{l:List Oper} {m:List Sm},l.map smOf=m.map some->smIs l m
 | [], [],_=>trivial
 | o::l,s::m,h=>by
   simp only [List.map_cons,List.cons.injEq] at h
   exact ⟨h.1,smIs_of h.2⟩
 | [],_::_,h=>by simp at h
 | _::_, [],h=>by simp at h
variable {P:Program}
theorem Kk {id:Nat} {Q:Exit->Act->World->Prop} {a:Act} {w:World} {ls:List Oper} (m:List Sm) (hm:P.follows .mixedOrders=true) (hn:noSel ls=true) (hs:ls.map smOf=m.map some) (ho:smOk 0 m=true)
 (h:wpQuiet P ls.toArray (Cd w) (fun a'=>∀w',Cd w w'->Q .normal a' w') ls a):(Code.region id ls.toArray true).wp P Q a w:=Qr hm (lexB_of m hn (smIs_of hs) ho) h
end
end Go.Proofs.YtijgloklmiokhaaGreatDoor
