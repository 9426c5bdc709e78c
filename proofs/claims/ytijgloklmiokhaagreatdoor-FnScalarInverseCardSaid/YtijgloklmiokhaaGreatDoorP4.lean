/-
Part 4 of 6 of the proof; what is proved stands in the last part.
-/
import Derived.Test.YtijgloklmiokhaaGreatDoorP3
set_option linter.unusedSimpArgs false
set_option linter.unusedVariables false
namespace Go.Proofs.YtijgloklmiokhaaGreatDoor
open Go.RowKit
section
set_option maxRecDepth 8000
namespace Ez
section
variable {a : Act} {N : Nat} {ds : List Deferred} {l : Env} {w : World} {d : Option Nat} {ty : TypeId} {pos : String} {after : Array Edge} {g : Option (Nat × Bool)}
theorem bs80 (H : Hd a N ds l) {x : Operand} {v : Int} (h : ov l x = some (.int .u64 v)) : (execOp a.eval ⟨d, .buildSlice 80 1 #[(0, x)], ty, pos, after, g⟩).run Tryz.prog w = .ok (.value (.slice (some ⟨w.heap.size, 0, none⟩) 1 1)) (w.alloc (.cells #[.int .u64 v] 103)) := by
  have e := H.o h
  revert e; generalize a.eval = ρ; intro e
  simp only [execOp]; go_simp
theorem bld82 (H : Hd a N ds l) {x y : Operand} {b : Bool} {q : Option Addr} {n c : Nat} (h : ov l x = some (.bool b)) (h' : ov l y = some (.slice q n c)) : (execOp a.eval ⟨d, .build 82 #[(0, x), (1, y)], ty, pos, after, g⟩).run Tryz.prog w = .ok (.value (.agg #[.bool b, .slice q n c])) w := by
  have e := H.o h
  have e' := H.o h'
  revert e e'; generalize a.eval = ρ; intro e e'
  simp only [execOp]; go_simp
theorem box82 (H : Hd a N ds l) {x : Operand} {u v : Value} (h : ov l x = some (.agg #[u, v])) (hu : u.cells = #[u]) (hv : v.cells = #[v]) : (execOp a.eval ⟨d, .box 82 x, ty, pos, after, g⟩).run Tryz.prog w = .ok (.value (.pointer (some ⟨w.heap.size, 0, none⟩))) (w.alloc (.cells #[u, v] 82)) := by
  have e := H.o h
  simp only [execOp, e]; go_simp
end
end Ez
theorem Wk.one (w : World) {v : Int} (hv : U64 v) : Wk (w.alloc (.cells #[.int .u64 v] 103)) w.heap.size 1 (fun _ => v) :=
  ⟨by rw [heap_alloc_new]; rfl, fun _ _ => hv, by decide⟩
theorem natOne (w : World) :
    Calls Tryz.prog 91 #[] w fun e w' => ∃ b, e = .returned (.slice (some ⟨b, 0, none⟩) 1 1) ∧ Wk w' b 1 (fun _ => 1) ∧ w.heap.size ≤ b ∧ Fr NoT w w' := by
  refine enterE (vs := []) Tryz.func91 rfl rfl ?_
  intro a H
  replace H : Hd a 2 [] [] := H
  refine wp_seq (wp_region_lit (l := [_]) (wl H (Ez.asn H rfl) rfl (kW (kS (kR [_, _] (kL (fun a H => Ez.bs80 H rfl) rfl (kA rfl rfl (kP [(0, _)] rfl (kW ?_))))))))); clear H a; intro a H
  refine wp_ret ?_
  refine rt1 H rfl rfl ?_
  exact ⟨_, rfl, Wk.one w ⟨by decide, by decide⟩, Nat.le_refl _, (Fr.refl NoT w).alloc _⟩
theorem intOne (w : World) :
    Calls Tryz.prog 74 #[] w fun e w' => ∃ b r, e = .returned (.pointer (some ⟨b, 0, none⟩)) ∧ Ib w' b r ∧ r.s = false ∧ r.n = 1 ∧ nv r.X r.n = 1 ∧ w.heap.size ≤ b ∧ Fr NoT w w' := by
  refine enterE (vs := []) Tryz.func74 rfl rfl ?_
  intro a H
  replace H : Hd a 4 [] [] := H
  refine wp_seq (wp_region_lit (l := [_]) (wl H (Ez.asn H rfl) rfl (kW (kS (kR [_, _, _, _] ?_))))); clear H a; intro a H
  refine wk H cf91 (natOne w) rfl rfl ?_
  rintro _ w1 ⟨b, rfl, h1, h2, h3⟩
  refine ⟨_, rfl, ?_⟩; clear H a; intro a H
  refine wl H (Ez.bld82 H rfl rfl) rfl (kL (fun a H => Ez.box82 H rfl rfl rfl) rfl (kA rfl rfl (kP [(0, _)] rfl (kW ?_)))); clear H a; intro a H
  refine wp_ret ?_
  refine rt1 H rfl rfl ?_
  refine ⟨_, ⟨false, some ⟨b, 0, none⟩, 1, 1, fun _ => 1⟩, rfl, ⟨heap_alloc_new w1 _, ?_, .inr (by show (1 : Int) ≠ 0; decide)⟩, rfl, rfl, by simp [nv], h3.size, h3.alloc _⟩
  exact (Sl.of h1 (Nat.le_refl _) (by decide)).frN ((Fr.refl NoT w1).alloc _)
theorem intCmp (x y : Nat) (rx ry : IR) (w : World) (hx : Ib w x rx) (hy : Ib w y ry) (hne : x ≠ y) (hxs : rx.s = false) (hys : ry.s = false) (hnx : rx.n < 1000) (hny : ry.n < 1000) :
    Calls Tryz.prog 73 #[.pointer (some ⟨x, 0, none⟩), .pointer (some ⟨y, 0, none⟩)] w fun e w' => e = .returned (.int .i64 (cmpI (nv rx.X rx.n) (nv ry.X ry.n))) ∧ Cd w w' := by
  refine enterE (vs := [.pointer (some ⟨x, 0, none⟩), .pointer (some ⟨y, 0, none⟩)]) Tryz.func73 rfl rfl ?_
  intro a H
  replace H : Hd a 39 [] [(0, .pointer (some ⟨x, 0, none⟩)), (1, .pointer (some ⟨y, 0, none⟩))] := H
  refine wp_seq (wp_region_lit (l := [_]) (wl H (Ez.asn H rfl) rfl (kW (kS ?_)))); clear H a; intro a H
  refine wp_block (wp_seq (wp_region_lit (l := [_, _, _, _]) (wl H (Ez.mv H rfl) rfl (kM rfl rfl (kL (fun a H => Ez.eqI H rfl rfl hx.blk hy.blk (r := false) (by simp [hne])) rfl (kA rfl rfl (kP [(0, _), (1, _), (4, _), (5, _)] rfl (kW ?_)))))))); clear H a; intro a H
  refine wp_cond_false (H.o rfl) (wp_seq ?_)
  have hcx := hx.c0
  have hcy := hy.c0
  rw [hxs] at hcx
  rw [hys] at hcy
  refine regionQ (ls := [_, _, _, _, _, _, _, _, _, _]) follows_mixed (by kernel_rfl) (wq H (fun w2 hw2 => Ez.mv H rfl) rfl (jN rfl rfl (jL (fun a H w2 hw2 => Ez.fa82_0 H rfl) rfl (jL (fun a H w2 hw2 => Ez.ld4 H rfl (hw2.cell hcx)) rfl (jM rfl rfl (jN rfl rfl (jL (fun a H w2 hw2 => Ez.fa82_0 H rfl) rfl (jL (fun a H w2 hw2 => Ez.ld4 H rfl (hw2.cell hcy)) rfl (jL (fun a H w2 hw2 => Ez.eqb H rfl rfl rfl) rfl (jA rfl rfl ?_)))))))))); clear H a; intro a H
  refine wqe ?_
  intro w1 hw
  have hC := hw
  have hx := hx.cd hw
  have hy := hy.cd hw
  have hcx := hw.cell hcx
  clear hw
  replace H : Hd a 39 [] [(0, _), (1, _), (4, _), (9, _)] := H.pick [0, 1, 4, 9]
  refine wp_cond_true (H.o rfl) (wp_seq (regionQ (ls := [_, _, _, _, _, _, _, _, _, _]) follows_mixed (by kernel_rfl) (wq H (fun w2 hw2 => Ez.mv H rfl) rfl (jN rfl rfl (jL (fun a H w2 hw2 => Ez.fa82_1 H rfl) rfl (jL (fun a H w2 hw2 => Ez.ld80 H rfl (hw2.cell hx.c1)) rfl (jM rfl rfl (jN rfl rfl (jL (fun a H w2 hw2 => Ez.fa82_1 H rfl) rfl (jL (fun a H w2 hw2 => Ez.ld80 H rfl (hw2.cell hy.c1)) rfl ?_)))))))))); clear H a; intro a H
  refine wkq H cf90 (cmpW rx.q ry.q rx.n rx.c ry.n ry.c rx.X ry.X w1 hx.sl hy.sl (by omega) (by omega) hx.nm hy.nm) rfl rfl ?_; clear H a; intro a H
  refine wq H (fun w2 hw2 => Ez.asn H rfl) rfl ?_; clear H a; intro a H
  refine wqe ?_
  intro w1 hw
  have hC := hC.trans hw
  have hcx := hw.cell hcx
  clear hw
  refine kP [(0, _), (4, _)] rfl (kS (kR [_, _, _, _] (kM rfl rfl (kN rfl rfl (kL (fun a H => Ez.fa82_0 H rfl) rfl (kL (fun a H => Ez.ld4 H rfl (hcx)) rfl (kP [(4, _), (31, _)] rfl (kW ?_)))))))) a H; clear H a; intro a H
  refine wp_cond_false (H.o rfl) (wp_skip (bn (thn (wp_ret ?_))))
  refine rt1 H rfl rfl ?_
  exact ⟨rfl, hC⟩
theorem intGCD (B : Nat) (p0 : Nat → Nat) (F0 : Nat → IR) (pa pb : Nat) (ra rb : IR) (w : World) (h2 : Ih B 2 w p0 F0) (hB5 : 4 < B) (haI : Ib w pa ra) (hbI : Ib w pb rb) (hpaB : pa < B) (hpbB : pb < B) (hraB : ∀ k j, TQ ra.q k j → k < B) (hrbB : ∀ k j, TQ rb.q k j → k < B) (hg1 : w.cell? ⟨1, 0, none⟩ = some (.int .i64 40)) (hg4 : w.cell? ⟨4, 0, none⟩ = some (.int .i64 40)) (has : ra.s = false) (hab : nv ra.X ra.n < nv rb.X rb.n) (hna : ra.n ≤ 4) (hnb : rb.n ≤ 4) :
    Calls Tryz.prog 72 #[.pointer (some ⟨p0 0, 0, none⟩), .pointer (some ⟨p0 1, 0, none⟩), .pointer none, .pointer (some ⟨pa, 0, none⟩), .pointer (some ⟨pb, 0, none⟩)] w fun e w' => ∃ F', e = .returned (.pointer (some ⟨p0 0, 0, none⟩)) ∧ Ih B 2 w' p0 F' ∧ Gx (nv ra.X ra.n) (nv rb.X rb.n) (F' 0).v (F' 1).v ∧ (F' 0).n ≤ 4 ∧ (F' 1).n ≤ 500 ∧ Fr (Hi B) w w' := by
  refine enterE (vs := [.pointer (some ⟨p0 0, 0, none⟩), .pointer (some ⟨p0 1, 0, none⟩), .pointer none, .pointer (some ⟨pa, 0, none⟩), .pointer (some ⟨pb, 0, none⟩)]) Tryz.func72 rfl rfl ?_
  intro a H
  replace H : Hd a 89 [] [(0, .pointer (some ⟨p0 0, 0, none⟩)), (1, .pointer (some ⟨p0 1, 0, none⟩)), (2, .pointer none), (3, .pointer (some ⟨pa, 0, none⟩)), (4, .pointer (some ⟨pb, 0, none⟩))] := H
  refine wp_seq (wp_region_lit (l := [_]) (wl H (Ez.asn H rfl) rfl (kW (kS (kS ?_))))); clear H a; intro a H
  rcases Nat.eq_zero_or_pos ra.n with h0 | h0
  · have hbn : 0 < rb.n := by
      rcases Nat.eq_zero_or_pos rb.n with h0 | h0
      · have := nv_nonneg ra.n haI.u
        rw [h0] at hab; simp [nv] at hab; omega
      exact h0
    refine wp_region_lit (l := [_, _, _, _, _, _, _, _, _, _, _, _, _, _]) (wl H (Ez.mv H rfl) rfl (kN rfl rfl (kL (fun a H => Ez.fa82_1 H rfl) rfl (kL (fun a H => Ez.ld80 H rfl (haI.c1)) rfl (kL (fun a H => Ez.len80 H rfl) rfl (kL (fun a H => Ez.eql (r := true) H rfl rfl (by (simp; omega))) rfl (kM rfl rfl (kX rfl rfl rfl rfl rfl (kX rfl rfl rfl rfl rfl (kX rfl rfl rfl rfl rfl (kX rfl rfl rfl rfl rfl (kX rfl rfl rfl rfl rfl (kX rfl rfl rfl rfl rfl (kL (fun a H => Ez.pkT H rfl rfl) rfl (kP [(0, _), (1, _), (2, _), (3, _), (4, _), (10, _), (28, _)] rfl (kW ?_)))))))))))))))); clear H a; intro a H
    refine wp_cond_true (H.o rfl) (wp_seq (regionQ (ls := [_, _, _, _, _, _, _, _, _, _, _, _, _, _, _, _, _, _, _, _, _, _]) follows_mixed (by kernel_rfl) (wq H (fun w2 hw2 => Ez.mv H rfl) rfl (jN rfl rfl (jL (fun a H w2 hw2 => Ez.fa82_1 H rfl) rfl (jL (fun a H w2 hw2 => Ez.ld80 H rfl (hw2.cell haI.c1)) rfl (jL (fun a H w2 hw2 => Ez.len80 H rfl) rfl (jM rfl rfl (jN rfl rfl (jL (fun a H w2 hw2 => Ez.fa82_1 H rfl) rfl (jL (fun a H w2 hw2 => Ez.ld80 H rfl (hw2.cell hbI.c1)) rfl (jL (fun a H w2 hw2 => Ez.len80 H rfl) rfl (jM rfl rfl (jN rfl rfl (jL (fun a H w2 hw2 => Ez.fa82_0 H rfl) rfl (jL (fun a H w2 hw2 => Ez.ld4 H rfl (hw2.cell haI.c0)) rfl (jM rfl rfl (jN rfl rfl (jL (fun a H w2 hw2 => Ez.fa82_0 H rfl) rfl (jL (fun a H w2 hw2 => Ez.ld4 H rfl (hw2.cell hbI.c0)) rfl (jA rfl rfl (jA rfl rfl (jA rfl rfl (jA rfl rfl ?_)))))))))))))))))))))))); clear H a; intro a H
    refine wqe ?_
    intro w1 hw
    have h2 := h2.cd hw
    have hbI := hbI.cd hw
    have hC := hw
    clear hw
    obtain ⟨wX, rfl⟩ : ∃ wX, wX = w1 := ⟨w1, rfl⟩
    refine kP [(0, _), (1, _), (2, _), (3, _), (4, _), (10, _), (11, _), (12, _), (13, _), (14, _)] rfl (kS (kS (kR [_, _] (kM rfl rfl (kL (fun a H => Ez.eql (r := true) H rfl rfl (by (simp; omega))) rfl (kP [(0, _), (1, _), (2, _), (3, _), (4, _), (10, _), (11, _), (12, _), (13, _), (14, _), (48, _)] rfl (kW ?_))))))) a H; clear H a; intro a H
    refine wp_cond_true (H.o rfl) (wp_region_lit (l := [_, _, _]) (wl H (Ez.mv H rfl) rfl (kM rfl rfl ?_))); clear H a; intro a H
    refine wk H cf76 (intSet (p0 0) pb (F0 0) rb wX (h2.ib 0 (by decide)) hbI (by have := h2.lo 0 (by decide); omega) (by omega)) rfl rfl ?_
    rintro _ w1 ⟨r1, rfl, k1, k1v, k1s, k1n⟩
    refine ⟨_, rfl, ?_⟩; clear H a; intro a H
    obtain ⟨wY, rfl⟩ : ∃ wY, wY = w1 := ⟨w1, rfl⟩
    refine kP [(0, _), (1, _), (2, _), (3, _), (4, _), (10, _), (11, _), (12, _), (13, _), (14, _)] rfl (kW (kS (kR [_, _, _, _] (kM rfl rfl (kN rfl rfl (kL (fun a H => Ez.fa82_0 H rfl) rfl ?_)))))) a H; clear H a; intro a H
    refine wls H (Ez.st4 H rfl rfl rfl k1.ib.c0 (k1.ib.fz _)) ?_; clear H; intro H
    refine kP [(0, _), (1, _), (2, _), (3, _), (4, _), (10, _), (11, _), (12, _), (13, _), (14, _)] rfl (kW ?_) a H; clear H a; intro a H
    have hN := k1.ib.neg false r1.q
    have k2 : Zr wX _ (p0 0) (F0 0) ⟨false, r1.q, r1.n, r1.c, r1.X⟩ := k1.trans ⟨hN.1, Own.refl _ _, hN.2⟩
    obtain ⟨F1, h3, e3, o3, f3⟩ := h2.upd' (i := 0) (by decide) k2
    generalize wY.setCell ⟨p0 0, 0, none⟩ (.bool false) = wZ at h3 f3
    refine wp_seq (wp_seq (wp_region_lit (l := [_, _]) (wl H (Ez.mv H rfl) rfl (kL (fun a H => Ez.neN78 H rfl rfl (r := true) rfl) rfl (kP [(0, _), (1, _), (2, _), (3, _), (4, _), (10, _), (11, _), (12, _), (13, _), (14, _), (59, _)] rfl (kW ?_)))))); clear H a; intro a H
    refine wp_cond_true (H.o rfl) (wp_seq (wp_region_lit (l := [_, _]) (wl H (Ez.mv H rfl) rfl (kL (fun a H => Ez.eql (r := true) H rfl rfl (by (simp; omega))) rfl (kP [(0, _), (1, _), (2, _), (3, _), (4, _), (10, _), (12, _), (13, _), (14, _), (61, _)] rfl (kW ?_)))))); clear H a; intro a H
    refine wp_cond_true (H.o rfl) (wp_region_lit (l := [_, _]) (wl H (Ez.mv H rfl) rfl ?_)); clear H a; intro a H
    refine wk H cf88 (intSetUint64 (p0 1) 0 (F1 1) wZ (h3.ib 1 (by decide)) ⟨by decide, by decide⟩) rfl rfl ?_
    rintro _ w1 ⟨r4, rfl, k4, k4v, k4s, k4n⟩
    refine ⟨_, rfl, ?_⟩; clear H a; intro a H
    obtain ⟨F2, h4, e4, o4, f4⟩ := h3.upd' (i := 1) (by decide) k4
    refine kP [(0, _), (1, _), (2, _), (3, _), (4, _), (10, _), (12, _), (14, _)] rfl (kW (kS (kS (kR [_, _] (kM rfl rfl (kL (fun a H => Ez.neN78 H rfl rfl (r := false) rfl) rfl (kP [(0, _), (1, _), (2, _), (3, _), (4, _), (10, _), (12, _), (14, _), (71, _)] rfl (kW ?_)))))))) a H; clear H a; intro a H
    refine wp_cond_false (H.o rfl) (wp_skip (thn (wp_seq (wp_region_lit (l := [_, _]) (wl H (Ez.mv H rfl) rfl (kA rfl rfl (kP [(0, _), (1, _), (2, _), (3, _), (4, _), (10, _)] rfl (kW ?_)))))))); clear H a; intro a H
    refine wp_ret (thr ?_)
    refine rt1 H rfl rfl ?_
    have g0 : (F2 0).v = nv rb.X rb.n := by
      rw [o4 0 (by decide), e3]
      have hk := k1v
      unfold IR.v at hk ⊢
      simp only
      rw [k1s] at hk
      cases hs : rb.s with
      | false => rw [hs] at hk; simpa using hk
      | true => rw [hs] at hk; simp at hk ⊢; omega
    have g1 : (F2 1).v = 0 := by rw [e4, k4v]
    refine ⟨F2, rfl, h4, ?_, by rw [o4 0 (by decide), e3]; show r1.n ≤ 4; omega, by rw [e4]; omega, ((hC.fr _).trans f3).trans f4⟩
    rw [g0, g1, h0]
    have hz : nv ra.X 0 = 0 := rfl
    rw [h0] at hab
    rw [hz] at hab ⊢
    exact ⟨hab, Int.dvd_refl _, Int.dvd_zero _, by simp, by omega, by omega⟩
  have hbn : 0 < rb.n := by
    rcases Nat.eq_zero_or_pos rb.n with h0 | h0
    · have := nv_nonneg ra.n haI.u
      rw [h0] at hab; simp [nv] at hab; omega
    exact h0
  refine wp_region_lit (l := [_, _, _, _, _, _, _, _, _, _, _, _, _, _]) (wl H (Ez.mv H rfl) rfl (kN rfl rfl (kL (fun a H => Ez.fa82_1 H rfl) rfl (kL (fun a H => Ez.ld80 H rfl (haI.c1)) rfl (kL (fun a H => Ez.len80 H rfl) rfl (kL (fun a H => Ez.eql (r := false) H rfl rfl (by (simp; omega))) rfl (kM rfl rfl (kG (fun a H => Ez.mv H rfl) rfl rfl rfl rfl rfl (kG (fun a H => Ez.nc H rfl) rfl rfl rfl rfl rfl (kG (fun a H => Ez.fa82_1 H rfl) rfl rfl rfl rfl rfl (kG (fun a H => Ez.ld80 H rfl (hbI.c1)) rfl rfl rfl rfl rfl (kG (fun a H => Ez.len80 H rfl) rfl rfl rfl rfl rfl (kG (fun a H => Ez.eql (r := false) H rfl rfl (by (simp; omega))) rfl rfl rfl rfl rfl (kL (fun a H => Ez.pkF H rfl rfl) rfl (kP [(0, _), (1, _), (2, _), (3, _), (4, _), (10, _), (28, _)] rfl (kW ?_)))))))))))))))); clear H a; intro a H
  refine wp_cond_false (H.o rfl) (wp_skip (thn (wp_seq ?_)))
  have hap : 0 < nv ra.X ra.n := by
    have := nv_ge h0 haI.u (by rcases haI.nm with h' | h'; omega; exact h')
    have := BBn_pos (ra.n - 1)
    omega
  refine wp_region_lit (l := [_, _, _, _, _, _, _]) (wl H (Ez.mv H rfl) rfl (kM rfl rfl (kM rfl rfl (kM rfl rfl (kM rfl rfl ?_))))); clear H a; intro a H
  refine wk H cf89 (lehmerGCD B p0 F0 pa pb ra rb w h2 hB5 haI hbI hpaB hpbB hraB hrbB hg1 hg4 has hap hab hna hnb) rfl rfl ?_
  rintro _ w1 ⟨F', rfl, k1, k2, k3, k4, k5⟩
  refine ⟨_, rfl, ?_⟩; clear H a; intro a H
  refine wl H (Ez.asn H rfl) rfl (kP [(10, _)] rfl (kW ?_)); clear H a; intro a H
  refine wp_ret ?_
  refine rt1 H rfl rfl ?_
  exact ⟨F', rfl, k1, k2, k3, k4, k5⟩
theorem modInverse (z pg pn : Nat) (rz rg rn : IR) (w : World) (hz : Ib w z rz) (hg : Ib w pg rg) (hn : Ib w pn rn) (hg1 : w.cell? ⟨1, 0, none⟩ = some (.int .i64 40)) (hg4 : w.cell? ⟨4, 0, none⟩ = some (.int .i64 40)) (hgs : rg.s = false) (hns : rn.s = false) (hlt : nv rg.X rg.n < nv rn.X rn.n) (hgn : rg.n ≤ 4) (hnn : rn.n ≤ 4) :
    Calls Tryz.prog 60 #[.pointer (some ⟨z, 0, none⟩), .pointer (some ⟨pg, 0, none⟩), .pointer (some ⟨pn, 0, none⟩)] w fun e w' => (e = .returned (.pointer none) ∧ Fr (Hi w.heap.size) w w' ∧ ∃ g : Int, 1 < g ∧ g ∣ nv rn.X rn.n ∧ g ∣ nv rg.X rg.n) ∨ (∃ r, e = .returned (.pointer (some ⟨z, 0, none⟩)) ∧ Zr w w' z rz r ∧ (0 ≤ r.v ∧ r.v ≤ nv rn.X rn.n) ∧ nv rn.X rn.n ∣ 1 - r.v * nv rg.X rg.n ∧ r.n ≤ 600) := by
  have hcn := hn.c0
  have hcg := hg.c0
  rw [hns] at hcn
  rw [hgs] at hcg
  refine enterE (vs := [.pointer (some ⟨z, 0, none⟩), .pointer (some ⟨pg, 0, none⟩), .pointer (some ⟨pn, 0, none⟩)]) Tryz.func60 rfl rfl ?_
  intro a H
  replace H : Hd a 38 [] [(0, .pointer (some ⟨z, 0, none⟩)), (1, .pointer (some ⟨pg, 0, none⟩)), (2, .pointer (some ⟨pn, 0, none⟩))] := H
  refine wp_seq (wp_region_lit (l := [_]) (wl H (Ez.asn H rfl) rfl (kW (kS (kS (kR [_, _, _, _] (kM rfl rfl (kN rfl rfl (kL (fun a H => Ez.fa82_0 H rfl) rfl (kL (fun a H => Ez.ld4 H rfl (hcn)) rfl (kP [(0, _), (1, _), (2, _), (6, _), (14, _)] rfl (kW ?_)))))))))))); clear H a; intro a H
  refine wp_cond_false (H.o rfl) (wp_skip (thn (wp_seq (wp_seq (wp_region_lit (l := [_, _, _, _]) (wl H (Ez.mv H rfl) rfl (kN rfl rfl (kL (fun a H => Ez.fa82_0 H rfl) rfl (kL (fun a H => Ez.ld4 H rfl (hcg)) rfl (kP [(0, _), (1, _), (2, _), (6, _), (20, _)] rfl (kW ?_))))))))))); clear H a; intro a H
  refine wp_cond_false (H.o rfl) (wp_skip (thn (wp_seq ?_)))
  obtain ⟨B, hB⟩ : ∃ B, B = w.heap.size := ⟨_, rfl⟩
  have h0 : Ih B 0 w (fun _ => 0) (fun _ => r0) := ⟨fun i hi => by omega, fun i hi => by omega, fun i hi => by omega, fun i hi => by omega, fun i hi => by omega⟩
  have hF := Fr.refl (Hi B) w
  have sB : B ≤ w.heap.size := by omega
  have hB5 : 4 < B := by have := World.block_lt_of_cell? w _ hg4; rw [hB]; exact this
  refine wp_region_lit (l := [_, _]) (wl H (Ez.al82) rfl ?_); clear H a; intro a H
  obtain ⟨b0, hb, h1, fA, sA⟩ := h0.al sB
  rw [← hb] at H
  clear hb sB
  obtain ⟨wA, hwA⟩ : ∃ x, x = World.alloc w (.cells #[.bool false, .slice none 0 0] 82) := ⟨_, rfl⟩
  rw [← hwA] at h1 fA sA ⊢
  clear hwA
  have sB := sA
  have hF := hF.trans fA
  clear fA sA
  refine wl H (Ez.al82) rfl (kP [(0, _), (1, _), (2, _), (6, _), (9, _), (10, _)] rfl (kW ?_)); clear H a; intro a H
  obtain ⟨b1, hb, h2, fA, sA⟩ := h1.al sB
  rw [← hb] at H
  clear hb sB
  obtain ⟨wA, hwA⟩ : ∃ x, x = World.alloc wA (.cells #[.bool false, .slice none 0 0] 82) := ⟨_, rfl⟩
  rw [← hwA] at h2 fA sA ⊢
  clear hwA
  have sB := sA
  have hF := hF.trans fA
  clear fA sA
  obtain ⟨wX, rfl⟩ : ∃ wX, wX = wA := ⟨wA, rfl⟩
  refine wp_seq (wp_region_lit (l := [_, _, _]) (wl H (Ez.mv H rfl) rfl (kM rfl rfl ?_))); clear H a; intro a H
  refine wk H cf72 (intGCD B (un (un (fun _ => 0) 0 b0) 1 b1) _ pg pn rg rn wX h2 hB5 (hg.hi hF (by rw [hB]; exact hg.lt) (fun k j ht => by rw [hB]; exact hg.sl.lt ht)) (hn.hi hF (by rw [hB]; exact hn.lt) (fun k j ht => by rw [hB]; exact hn.sl.lt ht)) (by rw [hB]; exact hg.lt) (by rw [hB]; exact hn.lt) (fun k j ht => by rw [hB]; exact hg.sl.lt ht) (fun k j ht => by rw [hB]; exact hn.sl.lt ht) (hF.glob (by omega) hg1) (hF.glob (by omega) hg4) hgs hlt hgn hnn) rfl rfl ?_
  rintro _ w1 ⟨F1, rfl, h3, hG, hn0, hn1, f3⟩
  refine ⟨_, rfl, ?_⟩; clear H a; intro a H
  have hF := hF.trans f3
  clear f3
  obtain ⟨wY, rfl⟩ : ∃ wY, wY = w1 := ⟨w1, rfl⟩
  have hI0 : Ib wY b0 (F1 0) := h3.ib 0 (by decide)
  have hI1 : Ib wY b1 (F1 1) := h3.ib 1 (by decide)
  obtain ⟨hs0, hv0⟩ := IR.pos hI0.u hG.1
  refine kP [(0, _), (2, _), (6, _), (9, _), (10, _)] rfl (kW (kS (kS (kR [_, _, _] ?_)))) a H; clear H a; intro a H
  refine wk H cf74 (intOne wY) rfl rfl ?_
  rintro _ w1 ⟨bo, ro, rfl, j1, j2, j3, j4, j5, j6⟩
  refine ⟨_, rfl, ?_⟩; clear H a; intro a H
  obtain ⟨wZ, rfl⟩ : ∃ wZ, wZ = w1 := ⟨w1, rfl⟩
  have hI0 := hI0.fr j6 (fun _ f => f) (fun _ _ _ _ f => f)
  have hI1' := hI1.fr j6 (fun _ f => f) (fun _ _ _ _ f => f)
  have hF := hF.trans j6.noT
  refine wk H cf73 (intCmp b0 bo (F1 0) ro wZ hI0 j1 (by have h9 : b0 < wY.heap.size := (h3.ib 0 (by decide)).lt; omega) hs0 j2 (by omega) (by omega)) rfl rfl ?_
  rintro _ w1 ⟨rfl, hC⟩
  refine ⟨_, rfl, ?_⟩; clear H a; intro a H
  have hF := hF.trans (hC.fr _)
  have hI1' := hI1'.cd hC
  rw [hv0, j4] at H
  obtain ⟨wV, rfl⟩ : ∃ wV, wV = w1 := ⟨w1, rfl⟩
  refine wl H (Ez.neq H rfl rfl (rfl)) rfl (kP [(0, _), (2, _), (6, _), (10, _), (29, _)] rfl (kW ?_)); clear H a; intro a H
  refine wp_cond_split (H.o rfl) (fun hb2 => ?_) (fun hb2 => ?_)
  · have hne : (F1 0).v ≠ 1 := by
      have : cmpI (F1 0).v 1 ≠ 0 := by simpa using hb2
      intro e; rw [e] at this; exact this rfl
    refine wp_seq (wp_region_lit (l := [_]) (wl H (Ez.asn H rfl) rfl (kP [(0, _), (2, _), (6, _), (10, _)] rfl (kW ?_)))); clear H a; intro a H
    refine wp_ret (thr ?_)
    refine rt1 H rfl rfl ?_
    exact .inl ⟨rfl, by rw [← hB]; exact hF, (F1 0).v, by have := hG.1; omega, hG.2.1, hG.2.2.1⟩
  have heq : (F1 0).v = 1 := by
    have : cmpI (F1 0).v 1 = 0 := by simpa using hb2
    unfold cmpI at this
    split at this
    · omega
    split at this <;> omega
  refine wp_skip (thn (wp_seq (wp_seq ?_)))
  obtain ⟨_, _, _, hmod, hl1, hl2⟩ := hG
  rw [heq] at hmod
  have hz9 := hz.hi hF (by rw [hB]; exact hz.lt) (fun k j ht => by rw [hB]; exact hz.sl.lt ht)
  have hn9 := hn.hi hF (by rw [hB]; exact hn.lt) (fun k j ht => by rw [hB]; exact hn.sl.lt ht)
  have hnv : rn.v = nv rn.X rn.n := by unfold IR.v; rw [hns]; simp
  have hzb : z ≠ b1 := by have h9 : B ≤ b1 := h3.lo 1 (by decide); have := hz.lt; omega
  refine wp_region_lit (l := [_, _]) (wl H (Ez.fa82_0 H rfl) rfl (kL (fun a H => Ez.ld4 H rfl (hI1'.c0)) rfl (kP [(0, _), (2, _), (6, _), (10, _), (31, _)] rfl (kW ?_)))); clear H a; intro a H
  refine wp_cond_split (H.o rfl) (fun hb3 => ?_) (fun hb3 => ?_)
  · have hsg : (F1 1).s = true := hb3
    have hle : (F1 1).v ≤ 0 := by unfold IR.v; rw [hsg]; have := nv_nonneg (F1 1).n hI1'.u; simp; omega
    refine wp_region_lit (l := [_, _, _]) (wl H (Ez.mv H rfl) rfl (kM rfl rfl ?_)); clear H a; intro a H
    refine wk H cf75 (intAdd z b1 pn rz (F1 1) rn wV hz9 hI1' hn9 (by omega) (by omega)) rfl rfl ?_
    rintro _ w1 ⟨r, rfl, k1, k2, k3⟩
    refine ⟨_, rfl, ?_⟩; clear H a; intro a H
    refine kP [(0, _), (6, _)] rfl (kW (kS (kR [_, _] (kM rfl rfl (kA rfl rfl (kP [(6, _)] rfl (kW ?_))))))) a H; clear H a; intro a H
    refine wp_ret ?_
    refine rt1 H rfl rfl ?_
    have hFz : Fr (ZT z rz.q) w w1 := (hF.mono fun k o hk e => by have : B ≤ k := e; omega).trans (k1.fr)
    have hOz : Own w rz.q r.q := fun k j ht => (k1.ow k j ht).imp id (fun h => Nat.le_trans hF.size h)
    refine .inr ⟨r, rfl, ⟨k1.ib, hOz, hFz⟩, ?_, ?_, by omega⟩
    · rw [k2]; first | (rw [hnv]; omega) | omega
    rw [k2]
    first
      | (rw [hnv, show 1 - ((F1 1).v + nv rn.X rn.n) * nv rg.X rg.n = (1 - (F1 1).v * nv rg.X rg.n) - nv rn.X rn.n * nv rg.X rg.n by grind]; exact Int.dvd_sub hmod (Int.dvd_mul_right _ _))
      | exact hmod
  have hsg : (F1 1).s = false := hb3
  have hle : 0 ≤ (F1 1).v := by unfold IR.v; rw [hsg]; have := nv_nonneg (F1 1).n hI1'.u; simp; omega
  refine wp_region_lit (l := [_, _]) (wl H (Ez.mv H rfl) rfl ?_); clear H a; intro a H
  refine wk H cf76 (intSet z b1 rz (F1 1) wV hz9 hI1' hzb (by omega)) rfl rfl ?_
  rintro _ w1 ⟨r, rfl, k1, k2, k4, k3⟩
  refine ⟨_, rfl, ?_⟩; clear H a; intro a H
  refine kP [(0, _), (6, _)] rfl (kW (kS (kR [_, _] (kM rfl rfl (kA rfl rfl (kP [(6, _)] rfl (kW ?_))))))) a H; clear H a; intro a H
  refine wp_ret ?_
  refine rt1 H rfl rfl ?_
  have hFz : Fr (ZT z rz.q) w w1 := (hF.mono fun k o hk e => by have : B ≤ k := e; omega).trans (k1.fr)
  have hOz : Own w rz.q r.q := fun k j ht => (k1.ow k j ht).imp id (fun h => Nat.le_trans hF.size h)
  refine .inr ⟨r, rfl, ⟨k1.ib, hOz, hFz⟩, ?_, ?_, by omega⟩
  · rw [k2]; first | (rw [hnv]; omega) | omega
  rw [k2]
  first
    | (rw [hnv, show 1 - ((F1 1).v + nv rn.X rn.n) * nv rg.X rg.n = (1 - (F1 1).v * nv rg.X rg.n) - nv rn.X rn.n * nv rg.X rg.n by grind]; exact Int.dvd_sub hmod (Int.dvd_mul_right _ _))
    | exact hmod
end
theorem wrapU64 (n : Int) : IntKind.u64.wrap n = n % 18446744073709551616 := IntKind.wrap_u64 n
theorem wrapU32 (n : Int) : IntKind.u32.wrap n = n % 4294967296 := IntKind.wrap_u32' n
def U32 (a : Int) : Prop := 0 ≤ a ∧ a < 4294967296
def eqN (a b : Int) : Int := if a = b then 1 else 0
def ltN (a b : Int) : Int := if a < b then 1 else 0
theorem eqN_cases (a b : Int) : eqN a b = 0 ∨ eqN a b = 1 := by unfold eqN; split <;> simp
theorem ltN_cases (a b : Int) : ltN a b = 0 ∨ ltN a b = 1 := by unfold ltN; split <;> simp
theorem ret_int {k : IntKind} {a b : Int} (h : a = b) : Ending.returned (.int k a) = .returned (.int k b) := by rw [h]
theorem xor32_zero {a b : Int} (ha : U32 a) (hb : U32 b) : 0 ≤ bits .xor .u32 a b ∧ bits .xor .u32 a b < 4294967296 ∧ (bits .xor .u32 a b = 0 ↔ a = b) := by
  obtain ⟨A, rfl⟩ := Int.eq_ofNat_of_zero_le ha.1
  obtain ⟨B, rfl⟩ := Int.eq_ofNat_of_zero_le hb.1
  have h1 := ha.2; have h2 := hb.2
  rw [u32_xor_nat A B (by omega) (by omega)]
  have h : A ^^^ B < 2 ^ 32 := Nat.xor_lt_two_pow (by omega) (by omega)
  refine ⟨by omega, by omega, ?_⟩
  constructor
  · intro h0
    have : A ^^^ B = 0 := by omega
    have e : A ^^^ (A ^^^ B) = A := by rw [this]; simp
    rw [← Nat.xor_assoc] at e; simp at e; omega
  intro h0
  have : A = B := by omega
  subst this; simp
theorem ctEq (a b : Int) (w : World) (ha : U32 a) (hb : U32 b) :
    Calls Tryz.prog 47 #[.int .u32 a, .int .u32 b] w fun e w' => e = .returned (.int .u32 (eqN a b)) ∧ w = w' := by
  go_enter Tryz.func47, Tryz.ntmps47
  go_wp2
  go_ret
  refine ⟨ret_int ?_, rfl⟩
  obtain ⟨h1, h2, h3⟩ := xor32_zero ha hb
  generalize bits .xor .u32 a b = x at h1 h2 h3
  rw [wrapU64, wrapU64]; unfold eqN
  split <;> omega
theorem ctLess (a b : Int) (w : World) (ha : U32 a) (hb : U32 b) :
    Calls Tryz.prog 65 #[.int .u32 a, .int .u32 b] w fun e w' => e = .returned (.int .u32 (ltN a b)) ∧ w = w' := by
  go_enter Tryz.func65, Tryz.ntmps65
  go_wp2
  go_ret
  refine ⟨ret_int ?_, rfl⟩
  unfold U32 at ha hb
  rw [wrapU64, wrapU64, wrapU64]; unfold ltN
  split <;> omega
theorem ctLE (a b : Int) (w : World) (ha : U32 a) (hb : U32 b) :
    Calls Tryz.prog 81 #[.int .u32 a, .int .u32 b] w fun e w' => e = .returned (.int .u32 (1 - ltN b a)) ∧ w = w' := by
  go_enter Tryz.func81, Tryz.ntmps81
  go_wp2
  go_ret
  refine ⟨ret_int ?_, rfl⟩
  unfold U32 at ha hb
  rw [wrapU64, wrapU64, wrapU64, wrapU64]; unfold ltN
  split <;> omega
theorem ctGreater (a b : Int) (w : World) (ha : U32 a) (hb : U32 b) :
    Calls Tryz.prog 46 #[.int .u32 a, .int .u32 b] w fun e w' => e = .returned (.int .u32 (ltN b a)) ∧ w = w' := by
  go_enter Tryz.func46, Tryz.ntmps46
  go_wp2_with (go_at_call 65; refine (ctLess _ _ _ hb ha).mono ?_; rintro e w' ⟨rfl, rfl⟩)
  go_ret
  exact ⟨rfl, rfl⟩
theorem ctGE (a b : Int) (w : World) (ha : U32 a) (hb : U32 b) :
    Calls Tryz.prog 67 #[.int .u32 a, .int .u32 b] w fun e w' => e = .returned (.int .u32 (1 - ltN a b)) ∧ w = w' := by
  go_enter Tryz.func67, Tryz.ntmps67
  go_wp2_with (go_at_call 81; refine (ctLE _ _ _ hb ha).mono ?_; rintro e w' ⟨rfl, rfl⟩)
  go_ret
  exact ⟨rfl, rfl⟩
theorem ctNotEq (a b : Int) (w : World) (ha : U32 a) (hb : U32 b) :
    Calls Tryz.prog 58 #[.int .u32 a, .int .u32 b] w fun e w' => e = .returned (.int .u32 (1 - eqN a b)) ∧ w = w' := by
  go_enter Tryz.func58, Tryz.ntmps58
  go_wp2
  go_ret
  refine ⟨ret_int ?_, rfl⟩
  obtain ⟨h1, h2, h3⟩ := xor32_zero ha hb
  generalize bits .xor .u32 a b = x at h1 h2 h3
  rw [wrapU64, wrapU64]
  unfold eqN
  split
  · rw [show (x % 18446744073709551616 - 1) % 18446744073709551616 / 9223372036854775808 % 4294967296 = 1 by omega]; decide
  rw [show (x % 18446744073709551616 - 1) % 18446744073709551616 / 9223372036854775808 % 4294967296 = 0 by omega]; decide
theorem ctMin (a b : Int) (w : World) (ha : U32 a) (hb : U32 b) :
    Calls Tryz.prog 78 #[.int .u32 a, .int .u32 b] w fun e w' => e = .returned (.int .u32 (min a b)) ∧ w = w' := by
  go_enter Tryz.func78, Tryz.ntmps78
  go_wp2_with (go_at_call 65; refine (ctLess _ _ _ ha hb).mono ?_; rintro e w' ⟨rfl, rfl⟩)
  go_ret
  refine ⟨ret_int ?_, rfl⟩
  obtain ⟨A, rfl⟩ := Int.eq_ofNat_of_zero_le ha.1
  obtain ⟨B, rfl⟩ := Int.eq_ofNat_of_zero_le hb.1
  have h1 := ha.2; have h2 := hb.2
  have h : A ^^^ B < 2 ^ 32 := Nat.xor_lt_two_pow (by omega) (by omega)
  rw [u32_xor_nat A B (by omega) (by omega)]
  unfold ltN
  split
  · rw [show (-1 : Int) % 4294967296 = ((4294967295 : Nat) : Int) by decide, u32_and_nat _ _ (by omega) (by omega),
      show (4294967295 : Nat) = 2 ^ 32 - 1 by decide, Nat.and_two_pow_sub_one_eq_mod, Nat.mod_eq_of_lt h, u32_xor_nat _ _ (by omega) (by omega),
      Nat.xor_comm A B, ← Nat.xor_assoc]
    simp; omega
  rw [show (-0 : Int) % 4294967296 = ((0 : Nat) : Int) by decide, u32_and_nat _ _ (by omega) (by omega), Nat.and_zero, u32_xor_nat _ _ (by omega) (by omega)]
  simp; omega
def S8 (w : World) (b o : Nat) (n0 n1 n2 n3 n4 n5 n6 n7 : Int) : Prop := w.cell? ⟨b, o, none⟩ = some (.int .u32 n0) ∧ w.cell? ⟨b, o + 1, none⟩ = some (.int .u32 n1) ∧ w.cell? ⟨b, o + 2, none⟩ = some (.int .u32 n2) ∧ w.cell? ⟨b, o + 3, none⟩ = some (.int .u32 n3) ∧ w.cell? ⟨b, o + 4, none⟩ = some (.int .u32 n4) ∧ w.cell? ⟨b, o + 5, none⟩ = some (.int .u32 n5) ∧ w.cell? ⟨b, o + 6, none⟩ = some (.int .u32 n6) ∧ w.cell? ⟨b, o + 7, none⟩ = some (.int .u32 n7) ∧ U32 n0 ∧ U32 n1 ∧ U32 n2 ∧ U32 n3 ∧ U32 n4 ∧ U32 n5 ∧ U32 n6 ∧ U32 n7
def F8 (w : World) (b o : Nat) : Prop := w.frozen? ⟨b, o, none⟩ = false ∧ w.frozen? ⟨b, o + 1, none⟩ = false ∧ w.frozen? ⟨b, o + 2, none⟩ = false ∧ w.frozen? ⟨b, o + 3, none⟩ = false ∧ w.frozen? ⟨b, o + 4, none⟩ = false ∧ w.frozen? ⟨b, o + 5, none⟩ = false ∧ w.frozen? ⟨b, o + 6, none⟩ = false ∧ w.frozen? ⟨b, o + 7, none⟩ = false
def val8 (n0 n1 n2 n3 n4 n5 n6 n7 : Int) : Int := n0 + 4294967296 * (n1 + 4294967296 * (n2 + 4294967296 * (n3 + 4294967296 * (n4 + 4294967296 * (n5 + 4294967296 * (n6 + 4294967296 * n7))))))
def NN : Int := 115792089237316195423570985008687907852837564279074904382605163141518161494337
def ovN (x : Int) : Int := if NN ≤ x then 1 else 0
theorem and01 {x y : Int} (hx : x = 0 ∨ x = 1) (hy : y = 0 ∨ y = 1) : bits .and .u32 x y = x * y := by
  rcases hx with rfl | rfl <;> rcases hy with rfl | rfl <;> decide
theorem or01 {x y : Int} (hx : x = 0 ∨ x = 1) (hy : y = 0 ∨ y = 1) : bits .or .u32 x y = x + y - x * y := by
  rcases hx with rfl | rfl <;> rcases hy with rfl | rfl <;> decide
theorem andE {x X a A : Int} (ha : U32 a) (hA : U32 A) : bits .and .u32 (eqN x X) (eqN a A) = eqN (a + 4294967296 * x) (A + 4294967296 * X) := by
  rw [and01 (eqN_cases _ _) (eqN_cases _ _)]
  unfold U32 at ha hA; unfold eqN
  repeat' split
  all_goals omega
theorem orL {x X a A : Int} (ha : U32 a) (hA : U32 A) : bits .or .u32 (ltN X x) (bits .and .u32 (eqN x X) (ltN A a)) = ltN (A + 4294967296 * X) (a + 4294967296 * x) := by
  have e : bits .and .u32 (eqN x X) (ltN A a) = 0 ∨ bits .and .u32 (eqN x X) (ltN A a) = 1 := by
    rcases eqN_cases x X with h | h <;> rcases ltN_cases A a with h' | h' <;> rw [h, h'] <;> decide
  rw [or01 (ltN_cases _ _) e, and01 (eqN_cases _ _) (ltN_cases _ _)]
  unfold U32 at ha hA; unfold eqN ltN
  repeat' split
  all_goals omega
theorem orL1 {x X a A : Int} (ha : U32 a) (hA : U32 A) (hx : x ≤ X) : bits .and .u32 (eqN x X) (ltN A a) = ltN (A + 4294967296 * X) (a + 4294967296 * x) := by
  rw [and01 (eqN_cases _ _) (ltN_cases _ _)]
  unfold U32 at ha hA; unfold eqN ltN
  repeat' split
  all_goals omega
theorem orL0 {x X a A : Int} (ha : U32 a) (hA : U32 A) : bits .or .u32 (ltN X x) (bits .and .u32 (eqN x X) (1 - ltN a A)) = 1 - ltN (a + 4294967296 * x) (A + 4294967296 * X) := by
  have e0 : (1 - ltN a A) = 0 ∨ (1 - ltN a A) = 1 := by rcases ltN_cases a A with h | h <;> rw [h] <;> decide
  have e : bits .and .u32 (eqN x X) (1 - ltN a A) = 0 ∨ bits .and .u32 (eqN x X) (1 - ltN a A) = 1 := by
    rcases eqN_cases x X with h | h <;> rcases e0 with h' | h' <;> rw [h, h'] <;> decide
  rw [or01 (ltN_cases _ _) e, and01 (eqN_cases _ _) e0]
  unfold U32 at ha hA; unfold eqN ltN
  repeat' split
  all_goals omega
set_option maxRecDepth 10000 in
set_option maxHeartbeats 2000000 in
theorem overflows (b o : Nat) (n0 n1 n2 n3 n4 n5 n6 n7 : Int) (w : World) (h : S8 w b o n0 n1 n2 n3 n4 n5 n6 n7) :
    Calls Tryz.prog 52 #[.pointer (some ⟨b, o, none⟩)] w fun e w' => e = .returned (.int .u32 (ovN (val8 n0 n1 n2 n3 n4 n5 n6 n7))) ∧ w = w' := by
  obtain ⟨h0, h1, h2, h3, h4, h5, h6, h7, u0, u1, u2, u3, u4, u5, u6, u7⟩ := h
  go_enter Tryz.func52, Tryz.ntmps52
  go_wp2_with (first
    | (go_at_call 47; refine (ctEq _ _ _ (by assumption) ⟨by decide, by decide⟩).mono ?_; rintro e w' ⟨rfl, rfl⟩)
    | (go_at_call 46; refine (ctGreater _ _ _ (by assumption) ⟨by decide, by decide⟩).mono ?_; rintro e w' ⟨rfl, rfl⟩)
    | (go_at_call 67; refine (ctGE _ _ _ (by assumption) ⟨by decide, by decide⟩).mono ?_; rintro e w' ⟨rfl, rfl⟩))
  go_ret
  refine ⟨ret_int ?_, rfl⟩
  have k0 : U32 3493216577 := ⟨by decide, by decide⟩
  have k1 : U32 3218235020 := ⟨by decide, by decide⟩
  have k2 : U32 2940772411 := ⟨by decide, by decide⟩
  have k3 : U32 3132021990 := ⟨by decide, by decide⟩
  have k4 : U32 4294967294 := ⟨by decide, by decide⟩
  have k5 : U32 4294967295 := ⟨by decide, by decide⟩
  have z : n5 + 4294967296 * (n6 + 4294967296 * n7) ≤ 4294967295 + 4294967296 * (4294967295 + 4294967296 * 4294967295) := by
    unfold U32 at u5 u6 u7; omega
  rw [andE u6 k5, andE u5 k5, orL1 u4 k4 z, andE u4 k4, orL u3 k3, andE u3 k3, orL u2 k2, andE u2 k2, orL u1 k1, andE u1 k1, orL0 u0 k0]
  unfold ovN ltN val8 NN
  split <;> split <;> omega
def Sc (w : World) (b o : Nat) (x : Int) : Prop := ∃ n0 n1 n2 n3 n4 n5 n6 n7 : Int, S8 w b o n0 n1 n2 n3 n4 n5 n6 n7 ∧ val8 n0 n1 n2 n3 n4 n5 n6 n7 = x
theorem Sc.range {w : World} {b o : Nat} {x : Int} (h : Sc w b o x) : 0 ≤ x ∧ x < 115792089237316195423570985008687907853269984665640564039457584007913129639936 := by
  obtain ⟨n0, n1, n2, n3, n4, n5, n6, n7, ⟨_, _, _, _, _, _, _, _, u0, u1, u2, u3, u4, u5, u6, u7⟩, rfl⟩ := h
  unfold U32 at *; unfold val8; omega
def put8 (w : World) (b o : Nat) (m0 m1 m2 m3 m4 m5 m6 m7 : Int) : World := ((((((((w.setCell ⟨b, o, none⟩ (.int .u32 m0)).setCell ⟨b, o + 1, none⟩ (.int .u32 m1)).setCell ⟨b, o + 2, none⟩ (.int .u32 m2)).setCell ⟨b, o + 3, none⟩ (.int .u32 m3)).setCell ⟨b, o + 4, none⟩ (.int .u32 m4)).setCell ⟨b, o + 5, none⟩ (.int .u32 m5)).setCell ⟨b, o + 6, none⟩ (.int .u32 m6)).setCell ⟨b, o + 7, none⟩ (.int .u32 m7))
theorem put8_fr (w : World) (b o : Nat) (m0 m1 m2 m3 m4 m5 m6 m7 : Int) : Fr (Rng b o 8) w (put8 w b o m0 m1 m2 m3 m4 m5 m6 m7) :=
  (((((((((Fr.refl _ w).setCell (b := b) (o := o) (fun _ => ⟨rfl, by omega, by omega⟩) (.int .u32 m0)).setCell (b := b) (o := o + 1) (fun _ => ⟨rfl, by omega, by omega⟩) (.int .u32 m1)).setCell (b := b) (o := o + 2) (fun _ => ⟨rfl, by omega, by omega⟩) (.int .u32 m2)).setCell (b := b) (o := o + 3) (fun _ => ⟨rfl, by omega, by omega⟩) (.int .u32 m3)).setCell (b := b) (o := o + 4) (fun _ => ⟨rfl, by omega, by omega⟩) (.int .u32 m4)).setCell (b := b) (o := o + 5) (fun _ => ⟨rfl, by omega, by omega⟩) (.int .u32 m5)).setCell (b := b) (o := o + 6) (fun _ => ⟨rfl, by omega, by omega⟩) (.int .u32 m6)).setCell (b := b) (o := o + 7) (fun _ => ⟨rfl, by omega, by omega⟩) (.int .u32 m7))
theorem cellSet {w : World} {a q : Addr} {v u : Value} (h : w.cell? q = some u) : (w.setCell a v).cell? q = some (if q = a then v else u) := by
  split
  · subst q; exact World.cell?_setCell_same _ _ _ (by rw [h]; first | done | rfl)
  rw [World.cell?_setCell_other _ _ _ _ (Ne.symm (by assumption))]; exact h
theorem put8_S8 {w : World} {b o : Nat} {n0 n1 n2 n3 n4 n5 n6 n7 : Int} (h : S8 w b o n0 n1 n2 n3 n4 n5 n6 n7) (m0 m1 m2 m3 m4 m5 m6 m7 : Int) (u0 : U32 m0) (u1 : U32 m1) (u2 : U32 m2) (u3 : U32 m3) (u4 : U32 m4) (u5 : U32 m5) (u6 : U32 m6) (u7 : U32 m7) : S8 (put8 w b o m0 m1 m2 m3 m4 m5 m6 m7) b o m0 m1 m2 m3 m4 m5 m6 m7 := by
  obtain ⟨h0, h1, h2, h3, h4, h5, h6, h7, _⟩ := h
  refine ⟨?_, ?_, ?_, ?_, ?_, ?_, ?_, ?_, u0, u1, u2, u3, u4, u5, u6, u7⟩
  · exact (cellSet (cellSet (cellSet (cellSet (cellSet (cellSet (cellSet (cellSet h0)))))))).trans (by simp)
  · exact (cellSet (cellSet (cellSet (cellSet (cellSet (cellSet (cellSet (cellSet h1)))))))).trans (by simp)
  · exact (cellSet (cellSet (cellSet (cellSet (cellSet (cellSet (cellSet (cellSet h2)))))))).trans (by simp)
  · exact (cellSet (cellSet (cellSet (cellSet (cellSet (cellSet (cellSet (cellSet h3)))))))).trans (by simp)
  · exact (cellSet (cellSet (cellSet (cellSet (cellSet (cellSet (cellSet (cellSet h4)))))))).trans (by simp)
  · exact (cellSet (cellSet (cellSet (cellSet (cellSet (cellSet (cellSet (cellSet h5)))))))).trans (by simp)
  · exact (cellSet (cellSet (cellSet (cellSet (cellSet (cellSet (cellSet (cellSet h6)))))))).trans (by simp)
  exact (cellSet (cellSet (cellSet (cellSet (cellSet (cellSet (cellSet (cellSet h7)))))))).trans (by simp)
theorem and_low (z : Int) (h0 : 0 ≤ z) (h1 : z < 18446744073709551616) : bits .and .u64 z 4294967295 % 4294967296 = z % 4294967296 := by
  obtain ⟨Z, rfl⟩ := Int.eq_ofNat_of_zero_le h0
  rw [show (4294967295 : Int) = ((4294967295 : Nat) : Int) by rfl, u64_and_nat _ _ (by omega) (by omega), show (4294967295 : Nat) = 2 ^ 32 - 1 by decide, Nat.and_two_pow_sub_one_eq_mod]
  omega
theorem red_arith (n0 n1 n2 n3 n4 n5 n6 n7 x v c0 c1 c2 c3 c4 c5 c6 c7 : Int)
    (hv : v = 0 ∨ v = 1) (hx : val8 n0 n1 n2 n3 n4 n5 n6 n7 = x) (e0 : c0 = n0 + v * 801750719) (e1 : c1 = c0 / 4294967296 + n1 + v * 1076732275) (e2 : c2 = c1 / 4294967296 + n2 + v * 1354194884)
    (e3 : c3 = c2 / 4294967296 + n3 + v * 1162945305) (e4 : c4 = c3 / 4294967296 + n4 + v) (e5 : c5 = c4 / 4294967296 + n5) (e6 : c6 = c5 / 4294967296 + n6) (e7 : c7 = c6 / 4294967296 + n7) :
    val8 (c0 % 4294967296) (c1 % 4294967296) (c2 % 4294967296) (c3 % 4294967296) (c4 % 4294967296) (c5 % 4294967296) (c6 % 4294967296) (c7 % 4294967296) = (x + v * 432420386565659656852420866394968145599) % 115792089237316195423570985008687907853269984665640564039457584007913129639936 := by
  unfold val8 at *; omega
set_option maxRecDepth 10000 in
set_option maxHeartbeats 2000000 in
theorem reduce256g (b o : Nat) (x v : Int) (w : World) (h : Sc w b o x) (hf : F8 w b o) (hv : v = 0 ∨ v = 1) :
    Calls Tryz.prog 53 #[.pointer (some ⟨b, o, none⟩), .int .u32 v] w fun e w' => e = .returned (.tuple #[]) ∧ Sc w' b o ((x + v * 432420386565659656852420866394968145599) % 115792089237316195423570985008687907853269984665640564039457584007913129639936) ∧ Fr (Rng b o 8) w w' := by
  obtain ⟨n0, n1, n2, n3, n4, n5, n6, n7, ⟨h0, h1, h2, h3, h4, h5, h6, h7, u0, u1, u2, u3, u4, u5, u6, u7⟩, hx⟩ := h
  obtain ⟨f0, f1, f2, f3, f4, f5, f6, f7⟩ := hf
  obtain ⟨R, hR⟩ : ∃ R, R = (x + v * 432420386565659656852420866394968145599) % 115792089237316195423570985008687907853269984665640564039457584007913129639936 := ⟨_, rfl⟩
  rw [← hR]
  have HR := Lib.hid hR; clear hR
  have HV := Lib.hid hv
  obtain ⟨hv0, hv1⟩ : 0 ≤ v ∧ v ≤ 1 := by omega
  clear hv
  have HX := Lib.hid hx; clear hx
  obtain ⟨u0, u0'⟩ := u0; obtain ⟨u1, u1'⟩ := u1; obtain ⟨u2, u2'⟩ := u2; obtain ⟨u3, u3'⟩ := u3
  obtain ⟨u4, u4'⟩ := u4; obtain ⟨u5, u5'⟩ := u5; obtain ⟨u6, u6'⟩ := u6; obtain ⟨u7, u7'⟩ := u7
  go_enter Tryz.func53, Tryz.ntmps53
  go_wp2
  refine bodyPost_end (results_none rfl _ _ _) rfl ?_
  have hs : S8 w b o n0 n1 n2 n3 n4 n5 n6 n7 := ⟨h0, h1, h2, h3, h4, h5, h6, h7, ⟨u0, u0'⟩, ⟨u1, u1'⟩, ⟨u2, u2'⟩, ⟨u3, u3'⟩, ⟨u4, u4'⟩, ⟨u5, u5'⟩, ⟨u6, u6'⟩, ⟨u7, u7'⟩⟩
  obtain ⟨c0, e0⟩ : ∃ c, c = n0 + v * 801750719 := ⟨_, rfl⟩
  obtain ⟨c1, e1⟩ : ∃ c, c = c0 / 4294967296 + n1 + v * 1076732275 := ⟨_, rfl⟩
  obtain ⟨c2, e2⟩ : ∃ c, c = c1 / 4294967296 + n2 + v * 1354194884 := ⟨_, rfl⟩
  obtain ⟨c3, e3⟩ : ∃ c, c = c2 / 4294967296 + n3 + v * 1162945305 := ⟨_, rfl⟩
  obtain ⟨c4, e4⟩ : ∃ c, c = c3 / 4294967296 + n4 + v := ⟨_, rfl⟩
  obtain ⟨c5, e5⟩ : ∃ c, c = c4 / 4294967296 + n5 := ⟨_, rfl⟩
  obtain ⟨c6, e6⟩ : ∃ c, c = c5 / 4294967296 + n6 := ⟨_, rfl⟩
  obtain ⟨c7, e7⟩ : ∃ c, c = c6 / 4294967296 + n7 := ⟨_, rfl⟩
  simp only [← e0, ← e1, ← e2, ← e3, ← e4, ← e5, ← e6, ← e7]
  have hA := red_arith n0 n1 n2 n3 n4 n5 n6 n7 x v c0 c1 c2 c3 c4 c5 c6 c7 HV.out HX.out e0 e1 e2 e3 e4 e5 e6 e7
  rw [and_low c0 (by omega) (by omega), and_low c1 (by omega) (by omega), and_low c2 (by omega) (by omega), and_low c3 (by omega) (by omega),
    and_low c4 (by omega) (by omega), and_low c5 (by omega) (by omega), and_low c6 (by omega) (by omega), and_low c7 (by omega) (by omega)]
  rw [← HR.out] at hA
  exact ⟨by trivial, ⟨_, _, _, _, _, _, _, _, put8_S8 hs _ _ _ _ _ _ _ _ (by unfold U32; omega) (by unfold U32; omega) (by unfold U32; omega) (by unfold U32; omega) (by unfold U32; omega) (by unfold U32; omega) (by unfold U32; omega) (by unfold U32; omega), hA⟩, put8_fr _ _ _ _ _ _ _ _ _ _ _⟩
theorem reduce256 (b o : Nat) (x : Int) (w : World) (h : Sc w b o x) (hf : F8 w b o) :
    Calls Tryz.prog 53 #[.pointer (some ⟨b, o, none⟩), .int .u32 (ovN x)] w fun e w' => e = .returned (.tuple #[]) ∧ Sc w' b o (x - NN * ovN x) ∧ Fr (Rng b o 8) w w' := by
  have hr := h.range
  refine (reduce256g b o x (ovN x) w h hf (by unfold ovN; split <;> simp)).mono fun e w' ⟨h1, h2, h3⟩ => ⟨h1, ?_, h3⟩
  have : (x + ovN x * 432420386565659656852420866394968145599) % 115792089237316195423570985008687907853269984665640564039457584007913129639936 = x - NN * ovN x := by
    unfold ovN NN; split <;> omega
  rw [← this]; exact h2
def Ac3 (w : World) (b o : Nat) (n0 n1 n2 : Int) : Prop := w.cell? ⟨b, o, none⟩ = some (.int .u32 n0) ∧ w.cell? ⟨b, o + 1, none⟩ = some (.int .u32 n1) ∧ w.cell? ⟨b, o + 2, none⟩ = some (.int .u32 n2) ∧ U32 n0 ∧ U32 n1 ∧ U32 n2
def Af3 (w : World) (b o : Nat) : Prop := w.frozen? ⟨b, o, none⟩ = false ∧ w.frozen? ⟨b, o + 1, none⟩ = false ∧ w.frozen? ⟨b, o + 2, none⟩ = false
def Ac (w : World) (b o : Nat) (x : Int) : Prop := ∃ n0 n1 n2 : Int, Ac3 w b o n0 n1 n2 ∧ n0 + 4294967296 * (n1 + 4294967296 * n2) = x
theorem ltN_01 (a b : Int) : 0 ≤ ltN a b ∧ ltN a b ≤ 1 := by rcases ltN_cases a b with h | h <;> omega
theorem and_low' (z : Int) (h0 : 0 ≤ z) (h1 : z < 18446744073709551616) : bits .and .u64 z 4294967295 = z % 4294967296 := by
  obtain ⟨Z, rfl⟩ := Int.eq_ofNat_of_zero_le h0
  rw [show (4294967295 : Int) = ((4294967295 : Nat) : Int) by rfl, u64_and_nat _ _ (by omega) (by omega), show (4294967295 : Nat) = 2 ^ 32 - 1 by decide, Nat.and_two_pow_sub_one_eq_mod]
  omega
theorem Ac3.set0 {w : World} {b o : Nat} {n0 n1 n2 : Int} (h : Ac3 w b o n0 n1 n2) (m : Int) (hm : U32 m) : Ac3 (w.setCell ⟨b, o, none⟩ (.int .u32 m)) b o m n1 n2 := by
  obtain ⟨h0, h1, h2, u0, u1, u2⟩ := h
  exact ⟨(cellSet h0).trans (by simp), (cellSet h1).trans (by simp), (cellSet h2).trans (by simp), hm, u1, u2⟩
theorem Ac3.set1 {w : World} {b o : Nat} {n0 n1 n2 : Int} (h : Ac3 w b o n0 n1 n2) (m : Int) (hm : U32 m) : Ac3 (w.setCell ⟨b, o + 1, none⟩ (.int .u32 m)) b o n0 m n2 := by
  obtain ⟨h0, h1, h2, u0, u1, u2⟩ := h
  exact ⟨(cellSet h0).trans (by simp), (cellSet h1).trans (by simp), (cellSet h2).trans (by simp), u0, hm, u2⟩
theorem Ac3.set2 {w : World} {b o : Nat} {n0 n1 n2 : Int} (h : Ac3 w b o n0 n1 n2) (m : Int) (hm : U32 m) : Ac3 (w.setCell ⟨b, o + 2, none⟩ (.int .u32 m)) b o n0 n1 m := by
  obtain ⟨h0, h1, h2, u0, u1, u2⟩ := h
  exact ⟨(cellSet h0).trans (by simp), (cellSet h1).trans (by simp), (cellSet h2).trans (by simp), u0, u1, hm⟩
theorem Af3.fr {w w' : World} {b o : Nat} {T : Nat → Nat → Prop} (hF : Fr T w w') (hb : b < w.heap.size) (h : Af3 w b o) : Af3 w' b o :=
  ⟨(hF.frozen _ _ hb).trans h.1, (hF.frozen _ _ hb).trans h.2.1, (hF.frozen _ _ hb).trans h.2.2⟩
theorem Ac.lt {w : World} {b o : Nat} {x : Int} (h : Ac w b o x) : b < w.heap.size := by
  obtain ⟨n0, n1, n2, h, e⟩ := h
  exact World.block_lt_of_cell? w _ h.1
set_option maxRecDepth 100000 in
set_option maxHeartbeats 4000000 in
theorem accAdd (b o : Nat) (x v : Int) (w : World) (h : Ac w b o x) (hf : Af3 w b o) (hv0 : 0 ≤ v) (hv1 : v ≤ 18446744065119617025) (hx : x + v < 79228162514264337593543950336) :
    Calls Tryz.prog 55 #[.pointer (some ⟨b, o, none⟩), .int .u64 v] w fun e w' => e = .returned (.tuple #[]) ∧ Ac w' b o (x + v) ∧ Fr (Rng b o 3) w w' := by
  have hlt := h.lt
  obtain ⟨n0, n1, n2, hA, HX⟩ := h
  have hA' := hA
  obtain ⟨h0, h1, h2, ⟨u0, u0'⟩, ⟨u1, u1'⟩, ⟨u2, u2'⟩⟩ := hA'
  have hf' := hf
  obtain ⟨f0, f1, f2⟩ := hf'
  replace HX := Lib.hid HX
  have HV := Lib.hid hx; clear hx
  have hF : Fr (Rng b o 3) w w := Fr.refl _ _
  go_enter Tryz.func55, Tryz.ntmps55
  go_wp2_with fail
  go_still_tail 10, (by kernel_rfl)
  change wpList _ _ _ _ _ w.drew
  go_wp2_with (go_at_call 65; refine (ctLess _ _ _ (by unfold U32; omega) (by unfold U32; omega)).mono ?_; rintro e w' ⟨rfl, rfl⟩)
  rw [and_low' v hv0 (by omega)]
  obtain ⟨m0, hm0⟩ : ∃ m, (n0 + v % 4294967296) % 4294967296 = m := ⟨_, rfl⟩
  rw [hm0]
  have l0 := ltN_01 m0 (v % 4294967296 % 4294967296)
  obtain ⟨k, hk⟩ : ∃ m, (v / 4294967296 + ltN m0 (v % 4294967296 % 4294967296)) % 4294967296 = m := ⟨_, rfl⟩
  rw [hk]
  replace hF := (hF.setCell (b := b) (o := o) (fun _ => ⟨rfl, by omega, by omega⟩) (.int .u32 m0)).drew
  replace hf := Af3.fr hF hlt hf
  replace hA : Ac3 (w.setCell ⟨b, o, none⟩ (.int .u32 m0)).drew b o m0 n1 n2 := hA.set0 m0 (by unfold U32; omega)
  generalize (w.setCell ⟨b, o, none⟩ (.int .u32 m0)).drew = w1 at hA hf hF ⊢
  have hA' := hA.2.1
  have hf' := hf.2.1
  have HM0 := Lib.hid hm0; clear hm0
  have HK := Lib.hid hk
  have hk1 : 0 ≤ k ∧ k < 4294967296 := by omega
  clear hk l0 h0 h1 h2 f0 f1 f2
  obtain ⟨hk0, hk1⟩ := hk1
  go_still_tail 10, (by kernel_rfl)
  replace hf : Af3 w1.drew b o := hf
  replace hA : Ac3 w1.drew b o m0 n1 n2 := hA
  replace hF := hF.drew
  change wpList _ _ _ _ _ w1.drew
  clear hA' hf'
  generalize w1.drew = w2 at hA hf hF ⊢
  have hA' := hA.2.1
  have hf' := hf.2.1
  go_wp2_with fail
  clear hA' hf'
  obtain ⟨m1, hm1⟩ : ∃ m, (n1 + k) % 4294967296 = m := ⟨_, rfl⟩
  rw [hm1]
  replace hf := Af3.fr (Fr.setCell (Fr.refl (Rng b o 3) w2) (b := b) (o := o + 1) (fun _ => ⟨rfl, by omega, by omega⟩) (.int .u32 m1)) (World.block_lt_of_cell? _ _ hA.1) hf
  replace hF := (hF.setCell (b := b) (o := o + 1) (fun _ => ⟨rfl, by omega, by omega⟩) (.int .u32 m1))
  replace hA := hA.set1 m1 (by unfold U32; omega)
  generalize (w2.setCell ⟨b, o + 1, none⟩ (.int .u32 m1)) = w3 at hA hf hF ⊢
  have hA' := hA.2.1
  have hA'' := hA.2.2.1
  have hf' := hf.2.2
  have hu1 : 0 ≤ m1 ∧ m1 < 4294967296 := by omega
  obtain ⟨hu1, hu1'⟩ := hu1
  have HM1 := Lib.hid hm1; clear hm1
  go_still_tail 16, (by kernel_rfl)
  still_call ((ctLess m1 k w3.drew ⟨hu1, hu1'⟩ ⟨hk0, hk1⟩).mono fun _ _ h => ⟨h.1, h.2.symm⟩)
  repeat still_step
  refine wpStill_nil ?_
  have l1 := ltN_01 m1 k
  replace hf : Af3 w3.drew b o := hf
  replace hA : Ac3 w3.drew b o m0 m1 n2 := hA
  replace hF := hF.drew
  change wpList _ _ _ _ _ w3.drew
  clear hA' hA'' hf'
  generalize w3.drew = w4 at hA hf hF ⊢
  have hA' := hA.2.2.1
  have hf' := hf.2.2
  have hfin : n2 + ltN m1 k < 4294967296 ∧ m0 + 4294967296 * (m1 + 4294967296 * (n2 + ltN m1 k)) = x + v := by
    have := HX.out; have := HV.out; have := HM0.out; have := HM1.out; have := HK.out; have := ltN_01 m0 (v % 4294967296 % 4294967296)
    unfold ltN at *; split at * <;> split at * <;> omega
  have hw : IntKind.u32.wrap (n2 + ltN m1 k) = n2 + ltN m1 k := by
    rw [wrapU32]; exact Int.emod_eq_of_lt (by omega) hfin.1
  rw [hw]
  clear hw
  obtain ⟨m2, hm2⟩ : ∃ m, n2 + ltN m1 k = m := ⟨_, rfl⟩
  rw [hm2] at hfin ⊢
  have hu2 : U32 m2 := by unfold U32; omega
  have HM2 := Lib.hid hm2; clear hm2
  have HFIN := Lib.hid hfin; clear hfin
  go_wp2_with fail
  refine bodyPost_end (results_none rfl _ _ _) rfl ?_
  exact ⟨rfl, ⟨m0, m1, m2, hA.set2 m2 hu2, HFIN.out.2⟩, hF.setCell (b := b) (o := o + 2) (fun _ => ⟨rfl, by omega, by omega⟩) (.int .u32 m2)⟩
set_option maxRecDepth 100000 in
set_option maxHeartbeats 4000000 in
theorem accRsh (b o : Nat) (x : Int) (w : World) (h : Ac w b o x) (hf : Af3 w b o) :
    Calls Tryz.prog 56 #[.pointer (some ⟨b, o, none⟩)] w fun e w' => e = .returned (.tuple #[]) ∧ Ac w' b o (x / 4294967296) ∧ Fr (Rng b o 3) w w' := by
  have hlt := h.lt
  obtain ⟨n0, n1, n2, hA, HX⟩ := h
  have hA' := hA
  obtain ⟨h0, h1, h2, ⟨u0, u0'⟩, ⟨u1, u1'⟩, ⟨u2, u2'⟩⟩ := hA'
  have hf' := hf
  obtain ⟨f0, f1, f2⟩ := hf'
  replace HX := Lib.hid HX
  have hF : Fr (Rng b o 3) w w := Fr.refl _ _
  go_enter Tryz.func56, Tryz.ntmps56
  go_wp2_with fail
  go_still_tail 9, (by kernel_rfl)
  change wpList _ _ _ _ _ w.drew
  go_wp2_with fail
  replace hF := (hF.drew.setCell (b := b) (o := o) (fun _ => ⟨rfl, by omega, by omega⟩) (.int .u32 n1))
  replace hf := Af3.fr hF hlt hf
  replace hA : Ac3 (w.drew.setCell ⟨b, o, none⟩ (.int .u32 n1)) b o n1 n1 n2 := Ac3.set0 (w := w.drew) hA n1 ⟨u1, u1'⟩
  have e : (w.setCell ⟨b, o, none⟩ (.int .u32 n1)).drew = w.drew.setCell ⟨b, o, none⟩ (.int .u32 n1) := rfl
  rw [e]
  clear e h0 h1 h2 f0 f1 f2
  generalize w.drew.setCell ⟨b, o, none⟩ (.int .u32 n1) = w1 at hA hf hF ⊢
  have hA1 := hA.2.1
  have hA2 := hA.2.2.1
  have hf1 := hf.2.1
  go_still_tail 9, (by kernel_rfl)
  change wpList _ _ _ _ _ w1.drew
  replace hf : Af3 w1.drew b o := hf
  replace hA : Ac3 w1.drew b o n1 n1 n2 := hA
  replace hF := hF.drew
  clear hA1 hA2 hf1
  generalize w1.drew = w2 at hA hf hF ⊢
  obtain ⟨h0, h1, h2, _⟩ := id hA
  obtain ⟨f0, f1, f2⟩ := id hf
  go_wp2_with fail
  refine bodyPost_end (results_none rfl _ _ _) rfl ?_
  refine ⟨by trivial, ⟨n1, n2, 0, (hA.set1 n2 ⟨u2, u2'⟩).set2 0 ⟨by decide, by decide⟩, ?_⟩, (hF.setCell (b := b) (o := o + 1) (fun _ => ⟨rfl, by omega, by omega⟩) (.int .u32 n2)).setCell (b := b) (o := o + 2) (fun _ => ⟨rfl, by omega, by omega⟩) (.int .u32 0)⟩
  have := HX.out; omega
theorem S8.set0 {w : World} {b o : Nat} {n0 n1 n2 n3 n4 n5 n6 n7 : Int} (h : S8 w b o n0 n1 n2 n3 n4 n5 n6 n7) (m : Int) (hm : U32 m) : S8 (w.setCell ⟨b, o, none⟩ (.int .u32 m)) b o m n1 n2 n3 n4 n5 n6 n7 := by
  obtain ⟨h0, h1, h2, h3, h4, h5, h6, h7, u0, u1, u2, u3, u4, u5, u6, u7⟩ := h
  exact ⟨(cellSet h0).trans (by simp), (cellSet h1).trans (by simp), (cellSet h2).trans (by simp), (cellSet h3).trans (by simp), (cellSet h4).trans (by simp), (cellSet h5).trans (by simp), (cellSet h6).trans (by simp), (cellSet h7).trans (by simp), hm, u1, u2, u3, u4, u5, u6, u7⟩
theorem S8.set1 {w : World} {b o : Nat} {n0 n1 n2 n3 n4 n5 n6 n7 : Int} (h : S8 w b o n0 n1 n2 n3 n4 n5 n6 n7) (m : Int) (hm : U32 m) : S8 (w.setCell ⟨b, o + 1, none⟩ (.int .u32 m)) b o n0 m n2 n3 n4 n5 n6 n7 := by
  obtain ⟨h0, h1, h2, h3, h4, h5, h6, h7, u0, u1, u2, u3, u4, u5, u6, u7⟩ := h
  exact ⟨(cellSet h0).trans (by simp), (cellSet h1).trans (by simp), (cellSet h2).trans (by simp), (cellSet h3).trans (by simp), (cellSet h4).trans (by simp), (cellSet h5).trans (by simp), (cellSet h6).trans (by simp), (cellSet h7).trans (by simp), u0, hm, u2, u3, u4, u5, u6, u7⟩
theorem S8.set2 {w : World} {b o : Nat} {n0 n1 n2 n3 n4 n5 n6 n7 : Int} (h : S8 w b o n0 n1 n2 n3 n4 n5 n6 n7) (m : Int) (hm : U32 m) : S8 (w.setCell ⟨b, o + 2, none⟩ (.int .u32 m)) b o n0 n1 m n3 n4 n5 n6 n7 := by
  obtain ⟨h0, h1, h2, h3, h4, h5, h6, h7, u0, u1, u2, u3, u4, u5, u6, u7⟩ := h
  exact ⟨(cellSet h0).trans (by simp), (cellSet h1).trans (by simp), (cellSet h2).trans (by simp), (cellSet h3).trans (by simp), (cellSet h4).trans (by simp), (cellSet h5).trans (by simp), (cellSet h6).trans (by simp), (cellSet h7).trans (by simp), u0, u1, hm, u3, u4, u5, u6, u7⟩
theorem S8.set3 {w : World} {b o : Nat} {n0 n1 n2 n3 n4 n5 n6 n7 : Int} (h : S8 w b o n0 n1 n2 n3 n4 n5 n6 n7) (m : Int) (hm : U32 m) : S8 (w.setCell ⟨b, o + 3, none⟩ (.int .u32 m)) b o n0 n1 n2 m n4 n5 n6 n7 := by
  obtain ⟨h0, h1, h2, h3, h4, h5, h6, h7, u0, u1, u2, u3, u4, u5, u6, u7⟩ := h
  exact ⟨(cellSet h0).trans (by simp), (cellSet h1).trans (by simp), (cellSet h2).trans (by simp), (cellSet h3).trans (by simp), (cellSet h4).trans (by simp), (cellSet h5).trans (by simp), (cellSet h6).trans (by simp), (cellSet h7).trans (by simp), u0, u1, u2, hm, u4, u5, u6, u7⟩
theorem S8.set4 {w : World} {b o : Nat} {n0 n1 n2 n3 n4 n5 n6 n7 : Int} (h : S8 w b o n0 n1 n2 n3 n4 n5 n6 n7) (m : Int) (hm : U32 m) : S8 (w.setCell ⟨b, o + 4, none⟩ (.int .u32 m)) b o n0 n1 n2 n3 m n5 n6 n7 := by
  obtain ⟨h0, h1, h2, h3, h4, h5, h6, h7, u0, u1, u2, u3, u4, u5, u6, u7⟩ := h
  exact ⟨(cellSet h0).trans (by simp), (cellSet h1).trans (by simp), (cellSet h2).trans (by simp), (cellSet h3).trans (by simp), (cellSet h4).trans (by simp), (cellSet h5).trans (by simp), (cellSet h6).trans (by simp), (cellSet h7).trans (by simp), u0, u1, u2, u3, hm, u5, u6, u7⟩
theorem S8.set5 {w : World} {b o : Nat} {n0 n1 n2 n3 n4 n5 n6 n7 : Int} (h : S8 w b o n0 n1 n2 n3 n4 n5 n6 n7) (m : Int) (hm : U32 m) : S8 (w.setCell ⟨b, o + 5, none⟩ (.int .u32 m)) b o n0 n1 n2 n3 n4 m n6 n7 := by
  obtain ⟨h0, h1, h2, h3, h4, h5, h6, h7, u0, u1, u2, u3, u4, u5, u6, u7⟩ := h
  exact ⟨(cellSet h0).trans (by simp), (cellSet h1).trans (by simp), (cellSet h2).trans (by simp), (cellSet h3).trans (by simp), (cellSet h4).trans (by simp), (cellSet h5).trans (by simp), (cellSet h6).trans (by simp), (cellSet h7).trans (by simp), u0, u1, u2, u3, u4, hm, u6, u7⟩
theorem S8.set6 {w : World} {b o : Nat} {n0 n1 n2 n3 n4 n5 n6 n7 : Int} (h : S8 w b o n0 n1 n2 n3 n4 n5 n6 n7) (m : Int) (hm : U32 m) : S8 (w.setCell ⟨b, o + 6, none⟩ (.int .u32 m)) b o n0 n1 n2 n3 n4 n5 m n7 := by
  obtain ⟨h0, h1, h2, h3, h4, h5, h6, h7, u0, u1, u2, u3, u4, u5, u6, u7⟩ := h
  exact ⟨(cellSet h0).trans (by simp), (cellSet h1).trans (by simp), (cellSet h2).trans (by simp), (cellSet h3).trans (by simp), (cellSet h4).trans (by simp), (cellSet h5).trans (by simp), (cellSet h6).trans (by simp), (cellSet h7).trans (by simp), u0, u1, u2, u3, u4, u5, hm, u7⟩
theorem S8.set7 {w : World} {b o : Nat} {n0 n1 n2 n3 n4 n5 n6 n7 : Int} (h : S8 w b o n0 n1 n2 n3 n4 n5 n6 n7) (m : Int) (hm : U32 m) : S8 (w.setCell ⟨b, o + 7, none⟩ (.int .u32 m)) b o n0 n1 n2 n3 n4 n5 n6 m := by
  obtain ⟨h0, h1, h2, h3, h4, h5, h6, h7, u0, u1, u2, u3, u4, u5, u6, u7⟩ := h
  exact ⟨(cellSet h0).trans (by simp), (cellSet h1).trans (by simp), (cellSet h2).trans (by simp), (cellSet h3).trans (by simp), (cellSet h4).trans (by simp), (cellSet h5).trans (by simp), (cellSet h6).trans (by simp), (cellSet h7).trans (by simp), u0, u1, u2, u3, u4, u5, u6, hm⟩
theorem F8.fr {w w' : World} {b o : Nat} {T : Nat → Nat → Prop} (hF : Fr T w w') (hb : b < w.heap.size) (h : F8 w b o) : F8 w' b o := by
  obtain ⟨f0, f1, f2, f3, f4, f5, f6, f7⟩ := h
  exact ⟨(hF.frozen _ _ hb).trans f0, (hF.frozen _ _ hb).trans f1, (hF.frozen _ _ hb).trans f2, (hF.frozen _ _ hb).trans f3, (hF.frozen _ _ hb).trans f4, (hF.frozen _ _ hb).trans f5, (hF.frozen _ _ hb).trans f6, (hF.frozen _ _ hb).trans f7⟩
theorem S8.lt {w : World} {b o : Nat} {n0 n1 n2 n3 n4 n5 n6 n7 : Int} (h : S8 w b o n0 n1 n2 n3 n4 n5 n6 n7) : b < w.heap.size := World.block_lt_of_cell? w _ h.1
theorem S8.fr {w w' : World} {b o : Nat} {n0 n1 n2 n3 n4 n5 n6 n7 : Int} {T : Nat → Nat → Prop} (hF : Fr T w w') (ht : ∀ j, o ≤ j → j < o + 8 → ¬ T b j) (h : S8 w b o n0 n1 n2 n3 n4 n5 n6 n7) : S8 w' b o n0 n1 n2 n3 n4 n5 n6 n7 := by
  obtain ⟨h0, h1, h2, h3, h4, h5, h6, h7, u⟩ := h
  exact ⟨hF.someCell h0 (ht _ (by omega) (by omega)), hF.someCell h1 (ht _ (by omega) (by omega)), hF.someCell h2 (ht _ (by omega) (by omega)), hF.someCell h3 (ht _ (by omega) (by omega)),
    hF.someCell h4 (ht _ (by omega) (by omega)), hF.someCell h5 (ht _ (by omega) (by omega)), hF.someCell h6 (ht _ (by omega) (by omega)), hF.someCell h7 (ht _ (by omega) (by omega)), u⟩
theorem Sc.fr {w w' : World} {b o : Nat} {x : Int} {T : Nat → Nat → Prop} (hF : Fr T w w') (ht : ∀ j, o ≤ j → j < o + 8 → ¬ T b j) (h : Sc w b o x) : Sc w' b o x := by
  obtain ⟨n0, n1, n2, n3, n4, n5, n6, n7, h, e⟩ := h
  exact ⟨_, _, _, _, _, _, _, _, h.fr hF ht, e⟩
theorem Sc.lt {w : World} {b o : Nat} {x : Int} (h : Sc w b o x) : b < w.heap.size := by
  obtain ⟨n0, n1, n2, n3, n4, n5, n6, n7, h, e⟩ := h
  exact h.lt
theorem or4 {a b c d : Int} (ha : 0 ≤ a ∧ a < 256) (hb : 0 ≤ b ∧ b < 256) (hc : 0 ≤ c ∧ c < 256) (hd : 0 ≤ d ∧ d < 256) :
    bits BinOp.or IntKind.u32 (bits BinOp.or IntKind.u32 (bits BinOp.or IntKind.u32 a (b * 256)) (c * 65536)) (d * 16777216) = a + b * 256 + c * 65536 + d * 16777216 := by
  obtain ⟨A, rfl⟩ := Int.eq_ofNat_of_zero_le ha.1
  obtain ⟨B, rfl⟩ := Int.eq_ofNat_of_zero_le hb.1
  obtain ⟨C, rfl⟩ := Int.eq_ofNat_of_zero_le hc.1
  obtain ⟨D, rfl⟩ := Int.eq_ofNat_of_zero_le hd.1
  have e1 : A ||| B * 256 = A + B * 256 := by rw [Nat.or_comm, nat_join 8 _ _ (by omega) (by omega)]; omega
  have e2 : (A + B * 256) ||| C * 65536 = A + B * 256 + C * 65536 := by rw [Nat.or_comm, nat_join 16 _ _ (by omega) (by omega)]; omega
  have e3 : (A + B * 256 + C * 65536) ||| D * 16777216 = A + B * 256 + C * 65536 + D * 16777216 := by rw [Nat.or_comm, nat_join 24 _ _ (by omega) (by omega)]; omega
  rw [show (B : Int) * 256 = ((B * 256 : Nat) : Int) by omega, u32_or_nat _ _ (by omega) (by omega), e1,
    show (C : Int) * 65536 = ((C * 65536 : Nat) : Int) by omega, u32_or_nat _ _ (by omega) (by omega), e2,
    show (D : Int) * 16777216 = ((D * 16777216 : Nat) : Int) by omega, u32_or_nat _ _ (by omega) (by omega), e3]
  omega
def be (Y : Nat → Int) : Nat → Int
  | 0 => 0
  | n + 1 => be Y n * 256 + Y n
theorem be_split (Y : Nat → Int) : be Y 32 = val8 (Y 31 + Y 30 * 256 + Y 29 * 65536 + Y 28 * 16777216) (Y 27 + Y 26 * 256 + Y 25 * 65536 + Y 24 * 16777216) (Y 23 + Y 22 * 256 + Y 21 * 65536 + Y 20 * 16777216) (Y 19 + Y 18 * 256 + Y 17 * 65536 + Y 16 * 16777216)
    (Y 15 + Y 14 * 256 + Y 13 * 65536 + Y 12 * 16777216) (Y 11 + Y 10 * 256 + Y 9 * 65536 + Y 8 * 16777216) (Y 7 + Y 6 * 256 + Y 5 * 65536 + Y 4 * 16777216) (Y 3 + Y 2 * 256 + Y 1 * 65536 + Y 0 * 16777216) := by
  simp only [be, val8]; omega
def By (w : World) (b o n : Nat) (Y : Nat → Int) : Prop := ∀ j, j < n → w.cell? ⟨b, o + j, none⟩ = some (.int .u8 (Y j)) ∧ 0 ≤ Y j ∧ Y j < 256
theorem By.fr {w w' : World} {b o n : Nat} {Y : Nat → Int} {T : Nat → Nat → Prop} (hF : Fr T w w') (ht : ∀ j, o ≤ j → j < o + n → ¬ T b j) (h : By w b o n Y) : By w' b o n Y :=
  fun j hj => ⟨hF.someCell (h j hj).1 (ht _ (by omega) (by omega)), (h j hj).2⟩
section
set_option maxRecDepth 8000
theorem By.cd {w w' : World} {b o n : Nat} {Y : Nat → Int} (h : By w b o n Y) (hC : Cd w w') : By w' b o n Y := fun j hj => ⟨hC.cell (h j hj).1, (h j hj).2⟩
theorem By.sub {w : World} {b o n : Nat} {Y : Nat → Int} (h : By w b o n Y) {s m : Nat} (hs : s + m ≤ n) : By w b (o + s) m (fun i => Y (s + i)) := fun j hj => by
  have := h (s + j) (by omega)
  rw [← Nat.add_assoc] at this; exact this
theorem be_add (Y : Nat → Int) (m : Nat) : ∀ n, be Y (m + n) = be Y m * 256 ^ n + be (fun i => Y (m + i)) n
  | 0 => by simp [be]
  | n + 1 => by
    rw [← Nat.add_assoc]
    simp only [be]
    rw [be_add Y m n, Int.pow_succ]
    grind
theorem be_congr {Y Z : Nat → Int} : ∀ n, (∀ j, j < n → Y j = Z j) → be Y n = be Z n
  | 0, _ => rfl
  | n + 1, h => by simp only [be]; rw [be_congr n (fun j hj => h j (by omega)), h n (by omega)]
theorem be_bound {Y : Nat → Int} : ∀ n, (∀ j, j < n → 0 ≤ Y j ∧ Y j < 256) → 0 ≤ be Y n ∧ be Y n < 256 ^ n
  | 0, _ => by simp [be]
  | n + 1, h => by
    have h1 := be_bound n (fun j hj => h j (by omega))
    have h2 := h n (by omega)
    simp only [be]
    rw [Int.pow_succ]
    omega
theorem pow256 (k : Nat) : (256 : Int) ^ (8 * k) = BB ^ k := by rw [Int.pow_mul]; rfl
theorem beU32 (b o n c : Nat) (Y : Nat → Int) (w : World) (hB : By w b o 4 Y) (hn : 4 ≤ n) :
    Calls Tryz.prog 98 #[.slice (some ⟨b, o, none⟩) n c] w fun e w' => e = .returned (.int .u32 (be Y 4)) ∧ Cd w w' := by
  refine enterE (vs := [.slice (some ⟨b, o, none⟩) n c]) Tryz.func98 rfl rfl ?_
  intro a H
  replace H : Hd a 28 [] [(0, .slice (some ⟨b, o, none⟩) n c)] := H
  refine wp_seq (wp_region_lit (l := [_]) (wl H (Ez.asn H rfl) rfl (kW (kS (kR [_, _, _] (kM rfl rfl (kL (fun a H => Ez.ix65 H rfl rfl 3 rfl (by omega)) rfl (kL (fun a H => Ez.ld5 H rfl ((hB 3 (by omega)).1)) rfl (kP [(0, _), (2, _)] rfl (kW (kS ?_))))))))))); clear H a; intro a H
  refine regionQ (ls := [_, _, _, _, _, _, _, _, _, _, _, _, _, _, _, _, _, _, _, _, _, _, _]) follows_mixed (by kernel_rfl) (wq H (fun w2 hw2 => Ez.mv H rfl) rfl (jL (fun a H w2 hw2 => Ez.ix65 H rfl rfl 3 rfl (by omega)) rfl (jL (fun a H w2 hw2 => Ez.ld5 H rfl (hw2.cell (hB 3 (by omega)).1)) rfl (jL (fun a H w2 hw2 => Ez.cv (r := (Y 3)) H rfl ty5 ty33 (by (rw [IntKind.wrap_u32']; have := (hB 3 (by omega)).2; omega))) rfl (jM rfl rfl (jL (fun a H w2 hw2 => Ez.ix65 H rfl rfl 2 rfl (by omega)) rfl (jL (fun a H w2 hw2 => Ez.ld5 H rfl (hw2.cell (hB 2 (by omega)).1)) rfl (jL (fun a H w2 hw2 => Ez.cv (r := (Y 2)) H rfl ty5 ty33 (by (rw [IntKind.wrap_u32']; have := (hB 2 (by omega)).2; omega))) rfl (jL (fun a H w2 hw2 => Ez.shlU32 (r := (Y 2 * 256)) H rfl rfl 8 rfl (by decide) (by (have := (hB 2 (by omega)).2; omega))) rfl (jL (fun a H w2 hw2 => Ez.or H rfl rfl (u32_or8 _ _ (by have := (hB 3 (by omega)).2; omega) (by have := (hB 3 (by omega)).2; omega) (by have := (hB 2 (by omega)).2; omega) (by omega) (by have := (hB 2 (by omega)).2; omega))) rfl (jM rfl rfl (jL (fun a H w2 hw2 => Ez.ix65 H rfl rfl 1 rfl (by omega)) rfl (jL (fun a H w2 hw2 => Ez.ld5 H rfl (hw2.cell (hB 1 (by omega)).1)) rfl (jL (fun a H w2 hw2 => Ez.cv (r := (Y 1)) H rfl ty5 ty33 (by (rw [IntKind.wrap_u32']; have := (hB 1 (by omega)).2; omega))) rfl (jL (fun a H w2 hw2 => Ez.shlU32 (r := (Y 1 * 65536)) H rfl rfl 16 rfl (by decide) (by (have := (hB 1 (by omega)).2; omega))) rfl (jL (fun a H w2 hw2 => Ez.or H rfl rfl (u32_or16 _ _ (by have := (hB 3 (by omega)).2; have := (hB 2 (by omega)).2; omega) (by have := (hB 3 (by omega)).2; have := (hB 2 (by omega)).2; omega) (by have := (hB 1 (by omega)).2; omega) (by omega) (by have := (hB 1 (by omega)).2; omega))) rfl (jM rfl rfl (jL (fun a H w2 hw2 => Ez.ix65 H rfl rfl 0 rfl (by omega)) rfl (jL (fun a H w2 hw2 => Ez.ld5 H rfl (hw2.cell (hB 0 (by omega)).1)) rfl (jL (fun a H w2 hw2 => Ez.cv (r := (Y 0)) H rfl ty5 ty33 (by (rw [IntKind.wrap_u32']; have := (hB 0 (by omega)).2; omega))) rfl (jL (fun a H w2 hw2 => Ez.shlU32 (r := (Y 0 * 16777216)) H rfl rfl 24 rfl (by decide) (by (have := (hB 0 (by omega)).2; omega))) rfl (jL (fun a H w2 hw2 => Ez.or H rfl rfl (u32_or24 _ _ (by have := (hB 3 (by omega)).2; have := (hB 2 (by omega)).2; have := (hB 1 (by omega)).2; omega) (by have := (hB 3 (by omega)).2; have := (hB 2 (by omega)).2; have := (hB 1 (by omega)).2; omega) (by have := (hB 0 (by omega)).2; omega) (by omega) (by have := (hB 0 (by omega)).2; omega))) rfl (jA rfl rfl ?_))))))))))))))))))))))); clear H a; intro a H
  refine wqe ?_
  intro w1 hw
  skip
  replace H : Hd a 28 [] [(2, _)] := H.pick [2]
  refine wp_ret ?_
  refine rt1 H rfl rfl ?_
  refine ⟨?_, hw⟩
  congr 2
  simp only [be]; omega
theorem beU32Q (b o n c : Nat) (Y : Nat → Int) (w : World) (hB : By w b o 4 Y) (hn : 4 ≤ n) : ∀ w', Cd w w' → Calls Tryz.prog 98 [Value.slice (some ⟨b, o, none⟩) n c].toArray w' fun e w'' => e = .returned (.int .u32 (be Y 4)) ∧ Cd w w'' :=
  fun w' hw => (beU32 b o n c Y w' (hB.cd hw) hn).mono fun _ _ ⟨h, e⟩ => ⟨h, hw.trans e⟩
theorem beU64 (b o n c : Nat) (Y : Nat → Int) (w : World) (hB : By w b o 8 Y) (hn : 8 ≤ n) (hc : n ≤ c) :
    Calls Tryz.prog 97 #[.slice (some ⟨b, o, none⟩) n c] w fun e w' => e = .returned (.int .u64 (be Y 8)) ∧ Cd w w' := by
  refine enterE (vs := [.slice (some ⟨b, o, none⟩) n c]) Tryz.func97 rfl rfl ?_
  intro a H
  replace H : Hd a 15 [] [(0, .slice (some ⟨b, o, none⟩) n c)] := H
  refine wp_seq (wp_region_lit (l := [_]) (wl H (Ez.asn H rfl) rfl (kW (kS (kR [_, _, _] (kM rfl rfl (kL (fun a H => Ez.ix65 H rfl rfl 7 rfl (by omega)) rfl (kL (fun a H => Ez.ld5 H rfl ((hB 7 (by omega)).1)) rfl (kP [(0, _), (2, _)] rfl (kW (kS ?_))))))))))); clear H a; intro a H
  have hu : ∀ j, j < 8 → 0 ≤ Y j ∧ Y j < 256 := fun j hj => (hB j hj).2
  have b1 := be_bound (Y := Y) 4 (fun j hj => hu j (by omega))
  have b2 := be_bound (Y := fun i => Y (4 + i)) 4 (fun j hj => hu _ (by omega))
  have e1 := be_add Y 4 4
  rw [show (256 : Int) ^ 4 = 4294967296 by decide] at b1 b2 e1
  refine regionQ (ls := [_, _, _, _, _, _, _, _, _, _]) follows_mixed (by kernel_rfl) (wq H (fun w2 hw2 => Ez.mv H rfl) rfl ?_); clear H a; intro a H
  refine wkq H cf98 (beU32Q b o n c Y w (fun j hj => hB j (by omega)) (by omega)) rfl rfl ?_; clear H a; intro a H
  refine wq H (fun w2 hw2 => Ez.cv (r := (be Y 4)) H rfl ty33 ty28 (by (rw [IntKind.wrap_u64]; omega))) rfl (jL (fun a H w2 hw2 => Ez.shlU (r := (be Y 4 * 4294967296)) H rfl rfl 32 rfl (by decide) (by (omega))) rfl (jM rfl rfl (jL (fun a H w2 hw2 => Ez.slL65 H rfl rfl 4 rfl (by omega) hc (o + 4) (n - 4) (c - 4) (if_pos (by omega)) rfl rfl) rfl ?_))); clear H a; intro a H
  refine wkq H cf98 (beU32Q b (o + 4) (n - 4) (c - 4) (fun i => Y (4 + i)) w (hB.sub (by omega)) (by omega)) rfl rfl ?_; clear H a; intro a H
  refine wq H (fun w2 hw2 => Ez.cv (r := (be (fun i => Y (4 + i)) 4)) H rfl ty33 ty28 (by (rw [IntKind.wrap_u64]; omega))) rfl (jL (fun a H w2 hw2 => Ez.or H rfl rfl (orJ 32 (by decide) ⟨by omega, by omega⟩ (by omega) ⟨b2.1, by have := b2.2; omega⟩)) rfl (jA rfl rfl ?_)); clear H a; intro a H
  refine wqe ?_
  intro w1 hw
  skip
  replace H : Hd a 15 [] [(2, _)] := H.pick [2]
  refine wp_ret ?_
  refine rt1 H rfl rfl ?_
  refine ⟨?_, hw⟩
  congr 2
  exact e1.symm
theorem beWord (b o n c : Nat) (Y : Nat → Int) (w : World) (hB : By w b o 8 Y) (hn : 8 ≤ n) (hc : n ≤ c) :
    Calls Tryz.prog 83 #[.slice (some ⟨b, o, none⟩) n c] w fun e w' => e = .returned (.int .u64 (be Y 8)) ∧ Cd w w' := by
  refine enterE (vs := [.slice (some ⟨b, o, none⟩) n c]) Tryz.func83 rfl rfl ?_
  intro a H
  replace H : Hd a 8 [] [(0, .slice (some ⟨b, o, none⟩) n c)] := H
  refine wp_seq (wp_region_lit (l := [_]) (wl H (Ez.asn H rfl) rfl (kW (kS ?_)))); clear H a; intro a H
  refine wp_cond_true (H.o rfl) (wp_seq (wp_region_lit (l := [_, _, _]) (wl H (Ez.mv H rfl) rfl ?_))); clear H a; intro a H
  refine wk H cf97 (beU64 b o n c Y w hB hn hc) rfl rfl ?_
  rintro _ w1 ⟨rfl, hC⟩
  refine ⟨_, rfl, ?_⟩; clear H a; intro a H
  refine wl H (Ez.asn H rfl) rfl (kP [(0, _), (2, _)] rfl (kW ?_)); clear H a; intro a H
  refine wp_ret (thr ?_)
  refine rt1 H rfl rfl ?_
  exact ⟨rfl, hC⟩
theorem natSetBytes (q : Option Addr) (n0 c0 b o c : Nat) (Z Y : Nat → Int) (w : World) (hz : Sl w q n0 c0 Z) (hB : By w b o 32 Y) (hc : 32 ≤ c) (hd : ∀ j, ¬ TQ q b j) :
    Calls Tryz.prog 69 #[.slice q n0 c0, .slice (some ⟨b, o, none⟩) 32 c] w fun e w' => ∃ q' k c' X', e = .returned (.slice q' k c') ∧ Sl w' q' k c' X' ∧ k ≤ 4 ∧ nv X' k = be Y 32 ∧ Nm X' k ∧ Own w q q' ∧ Fr (TQ q) w w' := by
  obtain ⟨w0, hw0⟩ : ∃ w0, w0 = w := ⟨w, rfl⟩
  rw [← hw0]
  rw [← hw0] at hz hB
  clear hw0 w
  refine enterE (vs := [.slice q n0 c0, .slice (some ⟨b, o, none⟩) 32 c]) Tryz.func69 rfl rfl ?_
  intro a H
  replace H : Hd a 59 [] [(0, .slice q n0 c0), (1, .slice (some ⟨b, o, none⟩) 32 c)] := H
  refine wp_seq (wp_region_lit (l := [_]) (wl H (Ez.asn H rfl) rfl (kW (kS (kR [_, _, _, _, _, _, _, _] (kM rfl rfl (kM rfl rfl (kL (fun a H => Ez.len65 H rfl) rfl (kL (fun a H => Ez.addI (r := (40 : Int)) H rfl rfl (by omega) (by omega)) rfl (kL (fun a H => Ez.subI (r := (39 : Int)) H rfl rfl (by omega) (by omega)) rfl (kL (fun a H => Ez.quo H rfl rfl (by omega) (by omega) (by decide) (r := 4) (by decide)) rfl ?_))))))))))); clear H a; intro a H
  refine wk H cf82 (natMake q n0 c0 4 Z w0 hz (by omega)) rfl rfl ?_
  rintro _ w1 ⟨q', c', X1, rfl, h1, h2, h3⟩
  refine ⟨_, rfl, ?_⟩; clear H a; intro a H
  have hle := h1.le
  obtain ⟨bz, rfl, _, hW⟩ := h1.blk (by omega)
  have hB1 := By.fr h3 (fun j _ _ f => f) hB
  have hbz : bz ≠ b := by
    rcases h2 bz 0 (TQ_some.2 rfl) with h | h
    · exact fun e => hd 0 (by rw [← e]; exact h)
    have := World.block_lt_of_cell? w0 _ (hB 0 (by omega)).1
    intro e; rw [e] at h; exact absurd this (Nat.not_lt.2 h)
  have hF0 : Fr (Bl bz) w1 w1 := Fr.refl _ _
  obtain ⟨wX, hwX⟩ : ∃ wX, wX = w1 := ⟨w1, rfl⟩
  rw [← hwX]
  rw [← hwX] at hW hB1 h3 hF0
  clear hwX h1
  refine wl H (Ez.asn H rfl) rfl (kP [(0, _), (1, _), (4, _)] rfl (kW (kS (kR [_, _, _] (kM rfl rfl (kL (fun a H => Ez.len65 H rfl) rfl (kA rfl rfl (kP [(0, _), (1, _), (4, _), (5, _)] rfl (kW (kS (kS (kR [_] (kA rfl rfl (kW ?_)))))))))))))); clear H a; intro a H
  refine wp_block ?_
  refine wp_loopN (fun mm a w => ∃ (k : Nat) (X2 : Nat → Int), mm = 4 - k ∧ k ≤ 4 ∧ Hd a 59 [] [(0, .slice (some ⟨bz, 0, none⟩) 4 c'), (1, .slice (some ⟨b, o, none⟩) 32 c), (5, .int .i64 ((32 - 8 * k : Nat) : Int)), (6, .int .i64 k)] ∧ Wk w bz c' X2 ∧ nv X2 k = be (fun i => Y (32 - 8 * k + i)) (8 * k) ∧ Fr (Bl bz) wX w) (4) ?_ ?_
  · replace H : Hd a 59 [] [(0, _), (1, _), (5, _), (6, _)] := H.pick [0, 1, 5, 6]
    exact ⟨0, X1, rfl, Nat.zero_le _, H, hW, rfl, hF0⟩
  clear H a
  intro mm a w hI
  clear hF0 hW
  obtain ⟨k, X2, hmm, hk, H, hW, hv, hF⟩ := hI
  obtain ⟨wL, rfl⟩ : ∃ wL, wL = w := ⟨w, rfl⟩
  have hB2 := By.fr hF (fun j _ _ e => hbz (Eq.symm e)) hB1
  refine wp_seq (wp_seq (wp_region_lit (l := [_, _]) (wl H (Ez.mv H rfl) rfl (kL (fun a H => Ez.geq H rfl rfl (rfl)) rfl (kP [(0, _), (1, _), (5, _), (6, _), (19, _)] rfl (kW ?_)))))); clear H a; intro a H
  refine wp_cond_split (H.o rfl) (fun hb0 => ?_) (fun hb0 => ?_)
  · have hk3 : k < 4 := by have := of_decide_eq_true hb0; omega
    refine wp_skip (thn (wp_seq (wp_block (wp_seq (wp_region_lit (l := [_, _, _, _, _, _, _, _, _, _]) (wl H (Ez.mv H rfl) rfl (kM rfl rfl (kM rfl rfl (kM rfl rfl (kL (fun a H => Ez.subI (r := ((24 - 8 * k : Nat) : Int)) H rfl rfl (by omega) (by omega)) rfl (kM rfl rfl (kL (fun a H => Ez.slLH65 H rfl rfl rfl (24 - 8 * k) (32 - 8 * k) rfl rfl (by omega) (by omega) (o + (24 - 8 * k)) 8 (c - (24 - 8 * k)) (if_pos (by omega)) (by omega) rfl) rfl ?_)))))))))))); clear H a; intro a H
    refine wk H cf83 (beWord b (o + (24 - 8 * k)) 8 (c - (24 - 8 * k)) (fun i => Y (24 - 8 * k + i)) wL (hB2.sub (by omega)) (by omega) (by omega)) rfl rfl ?_
    rintro _ w1 ⟨rfl, hC⟩
    refine ⟨_, rfl, ?_⟩; clear H a; intro a H
    have hW2 := hW.heq hC.heap
    refine wl H (Ez.ix80 H rfl rfl k rfl (by omega)) rfl ?_; clear H a; intro a H
    refine wls H (Ez.st103 H rfl rfl rfl (hW2.cell (by omega)) (hW2.fz _)) ?_; clear H; intro H
    refine kP [(0, _), (1, _), (5, _), (6, _)] rfl (kW ?_) a H; clear H a; intro a H
    have hu := be_bound (Y := fun i => Y (24 - 8 * k + i)) 8 (fun j hj => (hB (24 - 8 * k + j) (by omega)).2)
    rw [show (256 : Int) ^ 8 = 18446744073709551616 by decide] at hu
    have hW3 := hW2.set (j := 0 + k) (by omega) (v := be (fun i => Y (24 - 8 * k + i)) 8) hu
    have hF3 := (hF.trans (hC.fr _)).trans (Fr.bl (b := bz) (j := 0 + k) (.int .u64 (be (fun i => Y (24 - 8 * k + i)) 8)))
    have hv3 : nv (up X2 (0 + k) (be (fun i => Y (24 - 8 * k + i)) 8)) (k + 1) = be (fun i => Y (32 - 8 * (k + 1) + i)) (8 * (k + 1)) := by
      simp only [nv]
      rw [Nat.zero_add, up_eq, nv_congr k (fun j hj => up_ne (by omega)), hv]
      have e := be_add (fun i => Y (24 - 8 * k + i)) 8 (8 * k)
      rw [pow256] at e
      rw [show 32 - 8 * (k + 1) = 24 - 8 * k by omega, show 8 * (k + 1) = 8 + 8 * k by omega, e, Int.add_comm]
      congr 1
      exact be_congr _ fun j hj => by congr 1; omega
    refine wp_region_lit (l := [_, _, _]) (wl H (Ez.mv H rfl) rfl (kL (fun a H => Ez.subI (r := ((32 - 8 * (k + 1) : Nat) : Int)) H rfl rfl (by omega) (by omega)) rfl (kA rfl rfl (kP [(0, _), (1, _), (5, _), (6, _)] rfl ?_)))); clear H a; intro a H
    refine wpList_nil ?_
    refine bn (thn (wp_region_lit (l := [_, _, _]) (wl H (Ez.mv H rfl) rfl (kL (fun a H => Ez.addI (r := ((k + 1 : Nat) : Int)) H rfl rfl (by omega) (by omega)) rfl (kA rfl rfl (kP [(0, _), (1, _), (5, _), (6, _)] rfl (kW (kP [(0, _), (1, _), (5, _), (6, _)] rfl ?_)))))))); clear H a; intro a H
    exact ⟨4 - (k + 1), by omega, k + 1, _, rfl, by omega, H, hW3, hv3, hF3⟩
  have hk4 : k = 4 := by have := of_decide_eq_false hb0; omega
  subst hk4
  refine wp_exit (thx (thx (bxe (thn (wp_seq (wp_seq (wp_region_lit (l := [_, _]) (wl H (Ez.mv H rfl) rfl (kL (fun a H => Ez.gtr (r := false) H rfl rfl (by (simp))) rfl (kP [(0, _), (1, _), (5, _), (34, _)] rfl (kW ?_))))))))))); clear H a; intro a H
  refine wp_cond_false (H.o rfl) (wp_skip (thn (wp_seq (wp_region_lit (l := [_, _, _]) (wl H (Ez.mv H rfl) rfl ?_))))); clear H a; intro a H
  refine wk H cf84 (natNorm _ 4 c' X2 wL (Sl.of hW hle (by omega)) (by omega)) rfl rfl ?_
  rintro _ w1 ⟨j, rfl, k1, k2, k3, k4, rfl⟩
  refine ⟨_, rfl, ?_⟩; clear H a; intro a H
  refine wl H (Ez.asn H rfl) rfl (kP [(4, _)] rfl (kW ?_)); clear H a; intro a H
  refine wp_ret ?_
  refine rt1 H rfl rfl ?_
  refine ⟨_, j, c', X2, rfl, k2, k1, ?_, k4, h2, (h3.noT.trans hF.blq).own h2⟩
  rw [k3, hv]
  exact be_congr 32 fun j hj => by congr 1; omega
theorem intSetBytes (z b o c : Nat) (Y : Nat → Int) (rz : IR) (w : World) (hz : Ib w z rz) (hB : By w b o 32 Y) (hc : 32 ≤ c) (hd : ∀ j, ¬ TQ rz.q b j) :
    Calls Tryz.prog 59 #[.pointer (some ⟨z, 0, none⟩), .slice (some ⟨b, o, none⟩) 32 c] w fun e w' => ∃ r, e = .returned (.pointer (some ⟨z, 0, none⟩)) ∧ Zr w w' z rz r ∧ nv r.X r.n = be Y 32 ∧ r.s = false ∧ r.n ≤ 4 := by
  refine enterE (vs := [.pointer (some ⟨z, 0, none⟩), .slice (some ⟨b, o, none⟩) 32 c]) Tryz.func59 rfl rfl ?_
  intro a H
  replace H : Hd a 18 [] [(0, .pointer (some ⟨z, 0, none⟩)), (1, .slice (some ⟨b, o, none⟩) 32 c)] := H
  refine wp_seq (wp_region_lit (l := [_]) (wl H (Ez.asn H rfl) rfl (kW (kS (kR [_, _, _, _, _, _, _, _, _, _] (kM rfl rfl (kM rfl rfl (kN rfl rfl (kL (fun a H => Ez.fa82_1 H rfl) rfl (kL (fun a H => Ez.ld80 H rfl (hz.c1)) rfl (kM rfl rfl ?_))))))))))); clear H a; intro a H
  refine wk H cf69 (natSetBytes rz.q rz.n rz.c b o c rz.X Y w hz.sl hB hc hd) rfl rfl ?_
  rintro _ w1 ⟨q', n', c', X', rfl, h1, h2, h3, h4, h5, h6⟩
  refine ⟨_, rfl, ?_⟩; clear H a; intro a H
  have hA := hz.abs h6 h1 h4
  refine wl H (Ez.nc H rfl) rfl (kL (fun a H => Ez.fa82_1 H rfl) rfl ?_); clear H a; intro a H
  refine wls H (Ez.st80 H rfl rfl rfl hA.1 hA.2.1) ?_; clear H; intro H
  refine kP [(0, _), (4, _)] rfl (kW (kS (kR [_, _, _, _] (kM rfl rfl (kN rfl rfl (kL (fun a H => Ez.fa82_0 H rfl) rfl ?_)))))) a H; clear H a; intro a H
  refine wls H (Ez.st4 H rfl rfl rfl hA.2.2.1.c0 (hA.2.2.1.fz _)) ?_; clear H; intro H
  refine kP [(0, _), (4, _)] rfl (kW (kS (kR [_, _] (kM rfl rfl (kA rfl rfl (kP [(4, _)] rfl (kW ?_))))))) a H; clear H a; intro a H
  refine wp_ret ?_
  refine rt1 H rfl rfl ?_
  have hN := hA.2.2.1.neg false rz.q
  exact ⟨_, rfl, ⟨hN.1, h5, hA.2.2.2.trans hN.2⟩, h3, rfl, h2⟩
end
section
set_option maxRecDepth 8000
structure Bk (w : World) (b c : Nat) (Y : Nat → Int) : Prop where
  blk : w.heap[b]? = some (.cells (Array.ofFn fun j : Fin c => Value.int .u8 (Y j)) 5 (0, 0))
  u : ∀ j, j < c → 0 ≤ Y j ∧ Y j < 256
section
variable {w w' : World} {b c : Nat} {Y : Nat → Int}
theorem Bk.cell (h : Bk w b c Y) {j : Nat} (hj : j < c) : w.cell? ⟨b, j, none⟩ = some (.int .u8 (Y j)) := by
  simp [World.cell?, h.blk, hj]
theorem Bk.fz (h : Bk w b c Y) (j : Nat) : w.frozen? ⟨b, j, none⟩ = false := by simp [World.frozen?, h.blk]
theorem Bk.lt (h : Bk w b c Y) : b < w.heap.size := by
  have := h.blk
  rcases Nat.lt_or_ge b w.heap.size with h' | h'
  · exact h'
  rw [Array.getElem?_eq_none h'] at this; cases this
theorem Bk.set (h : Bk w b c Y) {j : Nat} (hj : j < c) {v : Int} (hv : 0 ≤ v ∧ v < 256) : Bk (w.setCell ⟨b, j, none⟩ (.int .u8 v)) b c (up Y j v) := by
  refine ⟨?_, fun k hk => ?_⟩
  · rw [heap_set_in h.blk]
    refine congrArg (fun A => some (Obj.cells A 5 (0, 0))) ?_
    apply Array.ext
    · simp
    intro i h1 h2
    simp only [Array.getElem_ofFn, up]
    by_cases e : j = i
    · subst e; simp
    rw [Array.getElem_setIfInBounds_ne (by simpa using h2) e, if_neg (Ne.symm e)]; simp
  by_cases e : k = j
  · subst e; rw [up_eq]; exact hv
  rw [up_ne e]; exact h.u k hk
theorem Bk.fr {T : Nat → Nat → Prop} (h : Bk w b c Y) (hF : Fr T w w') (hT : ∀ o, ¬ T b o) : Bk w' b c Y := ⟨(hF.block b h.lt hT).trans h.blk, h.u⟩
theorem Bk.heq (h : Bk w b c Y) (hh : w'.heap = w.heap) : Bk w' b c Y := ⟨by rw [hh]; exact h.blk, h.u⟩
theorem Bk.by_ (h : Bk w b c Y) {o n : Nat} (hn : o + n ≤ c) : By w b o n (fun i => Y (o + i)) := fun j hj => ⟨h.cell (by omega), h.u _ (by omega)⟩
theorem byte_info : ∃ i, Tryz.prog.info? 5 = some i ∧ i.zero = some (.int .u8 0) ∧ i.bytes = 1 ∧ i.size = 1 := by
  have h : (Tryz.prog.info? 5).map (fun i => (i.zero, i.bytes, i.size)) = some (some (.int .u8 0), 1, 1) := by kernel_rfl
  cases hi : Tryz.prog.info? 5 with
  | none => rw [hi] at h; cases h
  | some i => rw [hi] at h; simp only [Option.map_some, Option.some.injEq, Prod.mk.injEq] at h; exact ⟨i, rfl, h⟩
theorem madeB (n : Nat) : madeCells #[Value.int .u8 0] n = Array.ofFn fun j : Fin n => Value.int .u8 ((fun _ => 0 : Nat → Int) j) := by
  apply Array.ext
  · rw [size_madeCells, Array.size_ofFn]
  intro i h1 h2
  simp only [madeCells, Array.getElem_map, Array.getElem_range, Array.getElem_ofFn]
  show #[Value.int .u8 0][i % 1]! = _
  rw [Nat.mod_one]; rfl
theorem Bk.made (w : World) (n : Nat) : Bk (w.alloc (.cells (Array.ofFn fun j : Fin n => Value.int .u8 ((fun _ => 0 : Nat → Int) j)) 5)) w.heap.size n (fun _ => 0) :=
  ⟨(by show (w.heap.push _)[w.heap.size]? = _; rw [Array.getElem?_push_size]), fun _ _ => ⟨by decide, by decide⟩⟩
end
section
variable {a : Act} {N : Nat} {ds : List Deferred} {l : Env} {w : World} {d : Option Nat} {ty : TypeId} {pos : String} {after : Array Edge} {g : Option (Nat × Bool)}
theorem Ez.mk65 (H : Hd a N ds l) {x y : Operand} {i j : Int} (h : ov l x = some (.int .i64 i)) (h' : ov l y = some (.int .i64 j)) (n : Nat) (hi : i = (n : Int)) (hj : j = (n : Int)) (hc : n < 10000000000) :
    (execOp a.eval ⟨d, .makeSlice 65 x y, ty, pos, after, g⟩).run Tryz.prog w = .ok (.value (.slice (some ⟨w.heap.size, 0, none⟩) n n)) (w.alloc (.cells (Array.ofFn fun j : Fin n => Value.int .u8 ((fun _ => 0 : Nat → Int) j)) 5)) := by
  have e := H.o h
  have e' := H.o h'
  subst hi; subst hj
  obtain ⟨ti, h1, h2, h3, h4⟩ := byte_info
  have q := run_make (P := Tryz.prog) w 65 5 ti (.int .u8 0) (by kernel_rfl) h1 h2 .i64 .i64 (n : Int) (n : Int) (by omega) (by omega) (by rw [h3]; omega) (by omega)
  rw [h4, Nat.mul_one, Int.toNat_natCast, show (Value.int .u8 0).cells = #[Value.int .u8 0] from rfl, madeB] at q
  simp only [execOp, e, e', Sem.run_bind, q, Result.andThen]; rfl
end
end
section
set_option maxRecDepth 8000
theorem emod_step {x P : Int} (hP : 0 < P) : x % (P * 256) = x % P + (x / P % 256) * P := by
  have d1 := Int.mul_ediv_add_emod x P
  have d2 := Int.mul_ediv_add_emod (x / P) 256
  have m1 := Int.emod_nonneg x (show P ≠ 0 by omega)
  have m2 := Int.emod_lt_of_pos x hP
  have m3 := Int.emod_nonneg (x / P) (show (256 : Int) ≠ 0 by decide)
  have m4 := Int.emod_lt_of_pos (x / P) (show (0 : Int) < 256 by decide)
  generalize x / P % 256 = r at *
  generalize x / P / 256 = q at *
  have e : x = (x % P + r * P) + P * 256 * q := by
    have : P * (x / P) = P * (256 * q + r) := by rw [d2]
    grind
  have h1 := Int.mul_le_mul_of_nonneg_right (show r ≤ 255 by omega) (Int.le_of_lt hP)
  have h2 := Int.mul_nonneg m3 (Int.le_of_lt hP)
  generalize hs : x % P = s at *
  rw [e, Int.add_mul_emod_self_left]
  exact Int.emod_eq_of_lt (by omega) (by omega)
theorem shr8 {x : Int} {j : Nat} (hP : (0 : Int) < 256 ^ j) : x / 256 ^ j / 2 ^ 8 = x / 256 ^ (j + 1) := by
  have e : (256 : Int) ^ (j + 1) = 256 ^ j * 2 ^ 8 := by rw [Int.pow_succ]; rfl
  rw [e]
  first | exact Int.ediv_ediv_of_nonneg (Int.le_of_lt hP) | exact Int.ediv_ediv (Int.le_of_lt hP) | exact (Int.ediv_mul_ediv _ _ _)
theorem be_pre (Y : Nat → Int) (s m : Nat) : be (fun i => Y (s + i)) (m + 1) = Y s * 256 ^ m + be (fun i => Y (s + 1 + i)) m := by
  have := be_add (fun i => Y (s + i)) 1 m
  rw [Nat.add_comm 1 m] at this
  rw [this]
  congr 1
  · simp [be]
  exact be_congr m fun j _ => by congr 1; omega
theorem natBytes (q : Option Addr) (n c b : Nat) (X Y : Nat → Int) (w : World) (hx : Sl w q n c X) (hb : Bk w b (8 * n) Y) (hd : ∀ j, ¬ TQ q b j) (hn : n < 1000) :
    Calls Tryz.prog 80 #[.slice q n c, .slice (some ⟨b, 0, none⟩) (8 * n) (8 * n)] w fun e w' => ∃ (i : Nat) (Y' : Nat → Int), e = .returned (.int .i64 i) ∧ i ≤ 8 * n ∧ Bk w' b (8 * n) Y' ∧ be (fun j => Y' (i + j)) (8 * n - i) = nv X n ∧ Fr (Bl b) w w' ∧ (i < 8 * n → Y' i ≠ 0) := by
  obtain ⟨w0, hw0⟩ : ∃ w0, w0 = w := ⟨w, rfl⟩
  rw [← hw0]
  rw [← hw0] at hx hb
  clear hw0 w
  refine enterE (vs := [.slice q n c, .slice (some ⟨b, 0, none⟩) (8 * n) (8 * n)]) Tryz.func80 rfl rfl ?_
  intro a H
  replace H : Hd a 51 [] [(0, .slice q n c), (1, .slice (some ⟨b, 0, none⟩) (8 * n) (8 * n))] := H
  refine wp_seq (wp_region_lit (l := [_]) (wl H (Ez.asn H rfl) rfl (kW (kS (kR [_, _, _] (kM rfl rfl (kL (fun a H => Ez.len65 H rfl) rfl (kA rfl rfl (kP [(0, _), (1, _), (4, _)] rfl (kW (kS (kS (kR [_, _, _] (kM rfl rfl (kL (fun a H => Ez.len80 H rfl) rfl (kM rfl rfl (kP [(1, _), (4, _), (10, _), (11, _), (12, _)] rfl (kW ?_)))))))))))))))))); clear H a; intro a H
  refine wp_block ?_
  refine wp_loopN (fun mm a w => ∃ (k : Nat) (Y1 : Nat → Int), mm = n - k ∧ k ≤ n ∧ Hd a 51 [] [(1, .slice (some ⟨b, 0, none⟩) (8 * n) (8 * n)), (4, .int .i64 ((8 * (n - k) : Nat) : Int)), (10, .slice q n c), (11, .int .i64 n), (12, .int .i64 k)] ∧ Bk w b (8 * n) Y1 ∧ be (fun i => Y1 (8 * (n - k) + i)) (8 * k) = nv X k ∧ Fr (Bl b) w0 w) (n) ?_ ?_
  · replace H : Hd a 51 [] [(1, _), (4, _), (10, _), (11, _), (12, _)] := H.pick [1, 4, 10, 11, 12]
    exact ⟨0, Y, rfl, Nat.zero_le _, H, hb, rfl, Fr.refl _ _⟩
  clear H a
  intro mm a w hI
  clear hb
  obtain ⟨k, Y1, hmm, hk, H, hb, hv, hF⟩ := hI
  obtain ⟨wL, rfl⟩ : ∃ wL, wL = w := ⟨w, rfl⟩
  refine wp_seq (wp_region_lit (l := [_]) (wl H (Ez.lss H rfl rfl (rfl)) rfl (kW (kS ?_)))); clear H a; intro a H
  refine wp_cond_split (H.o rfl) (fun hb0 => ?_) (fun hb0 => ?_)
  · have hkn : k < n := by have := of_decide_eq_true hb0; omega
    have hle := hx.le
    obtain ⟨bx, hq, _, hW⟩ := hx.blk (by omega)
    rw [hq] at H
    have hbx : bx ≠ b := fun e => hd 0 (by rw [hq, TQ_some]; exact e.symm)
    have hW1 := hW.fr hF (fun _ e => hbx e)
    have hxu := hW.u k (by omega)
    unfold U64 at hxu
    refine wp_skip (thn (wp_seq (wp_block (wp_seq (wp_region_lit (l := [_, _, _]) (wl H (Ez.ix80 H rfl rfl k rfl (by omega)) rfl (kL (fun a H => Ez.ld103 H rfl ((by rw [Nat.zero_add]; exact hW1.cell (by omega)))) rfl (kA rfl rfl (kP [(1, _), (4, _), (6, _), (10, _), (11, _), (12, _)] rfl (kW (kS (kR [_] (kA rfl rfl (kW ?_)))))))))))))); clear H a; intro a H
    refine wp_block ?_
    refine wp_loopN (fun mm a w => ∃ (j : Nat) (Y2 : Nat → Int), mm = 8 - j ∧ j ≤ 8 ∧ Hd a 51 [] [(1, .slice (some ⟨b, 0, none⟩) (8 * n) (8 * n)), (4, .int .i64 ((8 * (n - k) - j : Nat) : Int)), (6, .int .u64 (X k / 256 ^ j)), (7, .int .i64 j), (10, .slice (some ⟨bx, 0, none⟩) n c), (11, .int .i64 n), (12, .int .i64 k)] ∧ Bk w b (8 * n) Y2 ∧ be (fun i => Y2 (8 * (n - k) - j + i)) (8 * k + j) = nv X k + X k % 256 ^ j * BB ^ k ∧ Fr (Bl b) w0 w) (8) ?_ ?_
    · replace H : Hd a 51 [] [(1, _), (4, _), (6, _), (7, _), (10, _), (11, _), (12, _)] := H.pick [1, 4, 6, 7, 10, 11, 12]
      refine ⟨0, Y1, rfl, Nat.zero_le _, by simpa using H, hb, ?_, hF⟩
      rw [Int.pow_zero, Int.emod_one]; simpa using hv
    clear H a
    intro mm a w hI9
    clear hb hv hF hW1
    obtain ⟨j, Y2, hmm1, hj, H, hb, hv, hF⟩ := hI9
    obtain ⟨wL, rfl⟩ : ∃ wL, wL = w := ⟨w, rfl⟩
    have hP : (0 : Int) < 256 ^ j := Int.pow_pos (by decide)
    refine wp_seq (wp_seq (wp_region_lit (l := [_, _]) (wl H (Ez.mv H rfl) rfl (kL (fun a H => Ez.lss H rfl rfl (rfl)) rfl (kP [(1, _), (4, _), (6, _), (7, _), (10, _), (11, _), (12, _), (17, _)] rfl (kW ?_)))))); clear H a; intro a H
    refine wp_cond_split (H.o rfl) (fun hb1 => ?_) (fun hb1 => ?_)
    · have hj8 : j < 8 := by have := of_decide_eq_true hb1; omega
      refine wp_skip (thn (wp_seq (wp_block (wp_seq (wp_region_lit (l := [_, _, _]) (wl H (Ez.mv H rfl) rfl (kL (fun a H => Ez.subI (r := ((8 * (n - k) - (j + 1) : Nat) : Int)) H rfl rfl (by omega) (by omega)) rfl (kA rfl rfl (kP [(1, _), (4, _), (6, _), (7, _), (10, _), (11, _), (12, _)] rfl (kW (kS (kS (kR [_, _] (kM rfl rfl (kL (fun a H => Ez.geq (r := true) H rfl rfl (by (simp))) rfl (kP [(1, _), (4, _), (6, _), (7, _), (10, _), (11, _), (12, _), (23, _)] rfl (kW ?_))))))))))))))))); clear H a; intro a H
      refine wp_cond_true (H.o rfl) (wp_region_lit (l := [_, _, _, _, _, _]) (wl H (Ez.mv H rfl) rfl (kM rfl rfl (kM rfl rfl (kL (fun a H => Ez.cv (r := (X k / 256 ^ j % 256)) H rfl ty103 ty5 (by (rw [IntKind.wrap_u8]))) rfl (kL (fun a H => Ez.ix65 H rfl rfl (8 * (n - k) - (j + 1)) rfl (by omega)) rfl ?_)))))); clear H a; intro a H
      refine wls H (Ez.st5 H rfl rfl rfl (hb.cell (by omega)) (hb.fz _)) ?_; clear H; intro H
      refine kP [(1, _), (4, _), (6, _), (7, _), (10, _), (11, _), (12, _)] rfl (kW ?_) a H; clear H a; intro a H
      have hr0 := Int.emod_nonneg (X k / 256 ^ j) (show (256 : Int) ≠ 0 by decide)
      have hr1 := Int.emod_lt_of_pos (X k / 256 ^ j) (show (0 : Int) < 256 by decide)
      have hb3 := hb.set (j := 0 + (8 * (n - k) - (j + 1))) (by omega) (v := X k / 256 ^ j % 256) ⟨hr0, hr1⟩
      have hF3 := hF.trans (Fr.bl (b := b) (j := 0 + (8 * (n - k) - (j + 1))) (.int .u8 (X k / 256 ^ j % 256)))
      have hv3 : be (fun i => up Y2 (0 + (8 * (n - k) - (j + 1))) (X k / 256 ^ j % 256) (8 * (n - k) - (j + 1) + i)) (8 * k + (j + 1)) = nv X k + X k % 256 ^ (j + 1) * BB ^ k := by
        rw [← Nat.add_assoc, be_pre, Nat.zero_add, up_eq, Int.pow_succ, emod_step hP]
        have e1 : be (fun i => up Y2 (8 * (n - k) - (j + 1)) (X k / 256 ^ j % 256) (8 * (n - k) - (j + 1) + 1 + i)) (8 * k + j) = nv X k + X k % 256 ^ j * BB ^ k := by
          rw [← hv]
          exact be_congr _ fun i hi => by rw [up_ne (by omega)]; congr 1; omega
        rw [e1, Int.pow_add, pow256]
        grind
      refine wp_region_lit (l := [_, _, _]) (wl H (Ez.mv H rfl) rfl (kL (fun a H => Ez.shrU (r := (X k / 256 ^ (j + 1))) H rfl rfl 8 rfl (by decide) (by (exact shr8 hP))) rfl (kA rfl rfl (kP [(1, _), (4, _), (6, _), (7, _), (10, _), (11, _), (12, _)] rfl ?_)))); clear H a; intro a H
      refine wpList_nil ?_
      refine bn (thn (wp_region_lit (l := [_, _, _]) (wl H (Ez.mv H rfl) rfl (kL (fun a H => Ez.addI (r := ((j + 1 : Nat) : Int)) H rfl rfl (by omega) (by omega)) rfl (kA rfl rfl (kP [(1, _), (4, _), (6, _), (7, _), (10, _), (11, _), (12, _)] rfl (kW (kP [(1, _), (4, _), (6, _), (7, _), (10, _), (11, _), (12, _)] rfl ?_)))))))); clear H a; intro a H
      exact ⟨8 - (j + 1), by omega, j + 1, _, rfl, by omega, H, hb3, hv3, hF3⟩
    have hj8 : j = 8 := by have := of_decide_eq_false hb1; omega
    subst hj8
    rw [← hq] at H
    have hv9 : be (fun i => Y2 (8 * (n - (k + 1)) + i)) (8 * (k + 1)) = nv X (k + 1) := by
      rw [show 8 * (n - (k + 1)) = 8 * (n - k) - 8 by omega, show 8 * (k + 1) = 8 * k + 8 by omega, hv]
      simp only [nv]
      rw [show (256 : Int) ^ 8 = 18446744073709551616 by decide, Int.emod_eq_of_lt hxu.1 hxu.2]
    rw [show 8 * (n - k) - 8 = 8 * (n - (k + 1)) by omega] at H
    refine wp_exit (thx (thx (bxe (bn (thn (wp_region_lit (l := [_, _]) (wl H (Ez.addI (r := ((k + 1 : Nat) : Int)) H rfl rfl (by omega) (by omega)) rfl (kM rfl rfl (kP [(1, _), (4, _), (10, _), (11, _), (12, _)] rfl (kW (kP [(1, _), (4, _), (10, _), (11, _), (12, _)] rfl ?_))))))))))); clear H a; intro a H
    exact ⟨n - (k + 1), by omega, k + 1, Y2, rfl, by omega, H, hb, hv9, hF⟩
  have hkn : k = n := by have := of_decide_eq_false hb0; omega
  subst hkn
  refine wp_exit (thx (thx (bxe (thn (wp_seq (wp_seq (wp_region_lit (l := [_, _]) (wl H (Ez.mv H rfl) rfl (kL (fun a H => Ez.lss (r := false) H rfl rfl (by (simp))) rfl (kP [(1, _), (4, _), (37, _)] rfl (kW ?_))))))))))); clear H a; intro a H
  refine wp_cond_false (H.o rfl) (wp_skip (thn (wp_seq (wp_block ?_))))
  refine wp_loopN (fun mm a w => ∃ (i : Nat), mm = 8 * k - i ∧ i ≤ 8 * k ∧ Hd a 51 [] [(1, .slice (some ⟨b, 0, none⟩) (8 * k) (8 * k)), (4, .int .i64 i)] ∧ be (fun j => Y1 (i + j)) (8 * k - i) = nv X k ∧ wL = w) (8 * k) ?_ ?_
  · replace H : Hd a 51 [] [(1, _), (4, _)] := H.pick [1, 4]
    refine ⟨0, rfl, Nat.zero_le _, by simpa using H, ?_, rfl⟩
    rw [← hv]
    simp
  clear H a
  intro mm a w hI8
  obtain ⟨i, hmm2, hi, H, hv2, rfl⟩ := hI8
  refine wp_seq (wp_seq ?_)
  rcases (show i < 8 * k ∨ i = 8 * k by omega) with h0 | h0
  · refine wp_region_lit (l := [_, _, _, _, _, _, _, _, _, _, _]) (wl H (Ez.mv H rfl) rfl (kM rfl rfl (kL (fun a H => Ez.len65 H rfl) rfl (kL (fun a H => Ez.lss (r := true) H rfl rfl (by (simp; omega))) rfl (kM rfl rfl (kG (fun a H => Ez.mv H rfl) rfl rfl rfl rfl rfl (kG (fun a H => Ez.mv H rfl) rfl rfl rfl rfl rfl (kG (fun a H => Ez.ix65 H rfl rfl i rfl (by omega)) rfl rfl rfl rfl rfl (kG (fun a H => Ez.ld5 H rfl ((by rw [Nat.zero_add]; exact hb.cell h0))) rfl rfl rfl rfl rfl (kG (fun a H => Ez.eql H rfl rfl (rfl)) rfl rfl rfl rfl rfl (kL (fun a H => Ez.pkT H rfl rfl) rfl (kP [(1, _), (4, _), (48, _)] rfl (kW ?_))))))))))))); clear H a; intro a H
    refine wp_cond_split (H.o rfl) (fun hb5 => ?_) (fun hb5 => ?_)
    · have hz : Y1 i = 0 := of_decide_eq_true hb5
      refine wp_skip (thn (wp_block (wp_region_lit (l := [_, _, _]) (wl H (Ez.mv H rfl) rfl (kL (fun a H => Ez.addI (r := ((i + 1 : Nat) : Int)) H rfl rfl (by omega) (by omega)) rfl (kA rfl rfl (kP [(1, _), (4, _)] rfl ?_))))))); clear H a; intro a H
      refine wpList_nil ?_
      refine bn (thn ?_)
      replace H : Hd a 51 [] [(1, _), (4, _)] := H.pick [1, 4]
      refine ⟨8 * k - (i + 1), by omega, i + 1, rfl, by omega, H, ?_, rfl⟩
      rw [show 8 * k - i = (8 * k - (i + 1)) + 1 by omega, be_pre, hz] at hv2
      rw [← hv2]; simp
    refine wp_exit (thx (thx (bxe (thn (wp_ret ?_)))))
    refine rt1 H rfl rfl ?_
    exact ⟨i, Y1, rfl, hi, hb, hv2, hF, fun hlt => by first | exact of_decide_eq_false hb5 | omega⟩
  refine wp_region_lit (l := [_, _, _, _, _, _, _, _, _, _, _]) (wl H (Ez.mv H rfl) rfl (kM rfl rfl (kL (fun a H => Ez.len65 H rfl) rfl (kL (fun a H => Ez.lss (r := false) H rfl rfl (by (simp; omega))) rfl (kM rfl rfl (kX rfl rfl rfl rfl rfl (kX rfl rfl rfl rfl rfl (kX rfl rfl rfl rfl rfl (kX rfl rfl rfl rfl rfl (kX rfl rfl rfl rfl rfl (kL (fun a H => Ez.pkF H rfl rfl) rfl (kP [(1, _), (4, _), (48, _)] rfl (kW ?_))))))))))))); clear H a; intro a H
  refine wp_cond_false (H.o rfl) (wp_exit (thx (thx (bxe (thn (wp_ret ?_))))))
  refine rt1 H rfl rfl ?_
  exact ⟨i, Y1, rfl, hi, hb, hv2, hF, fun hlt => by first | exact of_decide_eq_false hb5 | omega⟩
theorem intBytes (x : Nat) (rx : IR) (w : World) (hx : Ib w x rx) (hn : rx.n < 1000) :
    Calls Tryz.prog 63 #[.pointer (some ⟨x, 0, none⟩)] w fun e w' => ∃ (b o L c : Nat) (Y : Nat → Int), e = .returned (.slice (some ⟨b, o, none⟩) L c) ∧ w.heap.size ≤ b ∧ L ≤ 8 * rx.n ∧ L ≤ c ∧ By w' b o L Y ∧ be Y L = nv rx.X rx.n ∧ Fr NoT w w' ∧ (0 < L → Y 0 ≠ 0) := by
  refine enterE (vs := [.pointer (some ⟨x, 0, none⟩)]) Tryz.func63 rfl rfl ?_
  intro a H
  replace H : Hd a 19 [] [(0, .pointer (some ⟨x, 0, none⟩))] := H
  refine wp_seq (wp_region_lit (l := [_]) (wl H (Ez.asn H rfl) rfl (kW (kS (kR [_, _, _, _, _, _, _, _] (kM rfl rfl (kN rfl rfl (kL (fun a H => Ez.fa82_1 H rfl) rfl (kL (fun a H => Ez.ld80 H rfl (hx.c1)) rfl (kL (fun a H => Ez.len80 H rfl) rfl (kL (fun a H => Ez.mulI (r := ((8 * rx.n : Nat) : Int)) H rfl rfl (by omega) (by omega)) rfl (kL (fun a H => Ez.mk65 H rfl rfl (8 * rx.n) rfl rfl (by omega)) rfl (kA rfl rfl (kP [(0, _), (2, _), (3, _)] rfl (kW ?_))))))))))))))); clear H a; intro a H
  have hb := Bk.made w (8 * rx.n)
  have hF := (Fr.refl NoT w).alloc (.cells (Array.ofFn fun j : Fin (8 * rx.n) => Value.int .u8 ((fun _ => 0 : Nat → Int) j)) 5)
  obtain ⟨b, hbb⟩ : ∃ b, b = w.heap.size := ⟨_, rfl⟩
  rw [← hbb] at H hb
  generalize w.alloc (.cells (Array.ofFn fun j : Fin (8 * rx.n) => Value.int .u8 ((fun _ => 0 : Nat → Int) j)) 5) = wA at hb hF
  have hx1 := hx.fr hF (fun _ f => f) (fun _ _ _ _ f => f)
  refine wp_seq (wp_region_lit (l := [_, _, _, _, _, _, _, _, _]) (wl H (Ez.mv H rfl) rfl (kM rfl rfl (kN rfl rfl (kL (fun a H => Ez.fa82_1 H rfl) rfl (kL (fun a H => Ez.ld80 H rfl (hx1.c1)) rfl (kM rfl rfl ?_))))))); clear H a; intro a H
  refine wk H cf80 (natBytes rx.q rx.n rx.c b rx.X _ wA hx1.sl hb (fun j ht => by have := hx.sl.lt ht; omega) hn) rfl rfl ?_
  rintro _ w1 ⟨i, Y', rfl, h1, h2, h3, h4, h5⟩
  refine ⟨_, rfl, ?_⟩; clear H a; intro a H
  refine wl H (Ez.slL65 H rfl rfl i rfl (by omega) (by omega) (if i < 8 * rx.n then 0 + i else 0) (8 * rx.n - i) (8 * rx.n - i) rfl rfl rfl) rfl (kA rfl rfl (kP [(2, _)] rfl (kW ?_))); clear H a; intro a H
  refine wp_ret ?_
  refine rt1 H rfl rfl ?_
  refine ⟨b, if i < 8 * rx.n then 0 + i else 0, 8 * rx.n - i, 8 * rx.n - i, fun j => Y' (i + j), rfl, by omega, by omega, Nat.le_refl _, ?_, h3, hF.plus h4 (by omega), fun h0 => h5 (by omega)⟩
  intro j hj
  rw [if_pos (by omega), Nat.zero_add]
  exact ⟨h2.cell (by omega), h2.u _ (by omega)⟩
end
section
set_option maxRecDepth 8000
namespace Ez
section
variable {a : Act} {N : Nat} {ds : List Deferred} {l : Env} {w : World} {d : Option Nat} {ty : TypeId} {pos : String} {after : Array Edge} {g : Option (Nat × Bool)}
theorem idx9 (H : Hd a N ds l) {x y : Operand} {s : ByteArray} {k : IntKind} {i : Int} {r : Int} (h : ov l x = some (.string s)) (h' : ov l y = some (.int k i)) (j : Nat) (hj : i = (j : Int)) (hn : j < s.size) (hr : ((getElem s j hn).toNat : Int) = r) : (execOp a.eval ⟨d, .index 9 x y, ty, pos, after, g⟩).run Tryz.prog w = .ok (.value (.int .u8 r)) w := by
  have e := H.o h
  have e' := H.o h'
  subst hj; subst hr
  have h1 : (0 : Int) ≤ (j : Int) ∧ (j : Int) < (s.size : Int) := by omega
  simp only [execOp, e, e']
  go_simp
theorem len9 (H : Hd a N ds l) {x : Operand} {s : ByteArray} (h : ov l x = some (.string s)) : (execOp a.eval ⟨d, .call { callee := .builtin .len, args := #[x], argTypes := #[9] }, ty, pos, after, g⟩).run Tryz.prog w = .ok (.value (.int .i64 s.size)) w := by
  have e := H.o h
  revert e; generalize a.eval = ρ; intro e
  simp only [execOp]; go_simp
theorem bld152 (H : Hd a N ds l) {x y z : Operand} {s : ByteArray} {i j : Int} (h : ov l x = some (.string s)) (h' : ov l y = some (.int .i64 i)) (h'' : ov l z = some (.int .i64 j)) : (execOp a.eval ⟨d, .build 152 #[(0, x), (1, y), (2, z)], ty, pos, after, g⟩).run Tryz.prog w = .ok (.value (.agg #[.string s, .int .i64 i, .int .i64 j])) w := by
  have e := H.o h
  have e' := H.o h'
  have e'' := H.o h''
  revert e e' e''; generalize a.eval = ρ; intro e e' e''
  simp only [execOp]; go_simp
theorem box152 (H : Hd a N ds l) {x : Operand} {u v t : Value} (h : ov l x = some (.agg #[u, v, t])) (hu : u.cells = #[u]) (hv : v.cells = #[v]) (ht : t.cells = #[t]) : (execOp a.eval ⟨d, .box 152 x, ty, pos, after, g⟩).run Tryz.prog w = .ok (.value (.pointer (some ⟨w.heap.size, 0, none⟩))) (w.alloc (.cells #[u, v, t] 152)) := by
  have e := H.o h
  simp only [execOp, e]; go_simp
theorem mki131 (H : Hd a N ds l) {x : Operand} {v : Value} (h : ov l x = some v) : (execOp a.eval ⟨d, .makeInterface 131 x, ty, pos, after, g⟩).run Tryz.prog w = .ok (.value (.iface 131 v)) w := by
  have e := H.o h
  simp only [execOp, e]; go_simp
theorem eqNI (H : Hd a N ds l) {x : Operand} {u : TypeId} (h : ov l x = some .nilIface) : (execOp a.eval ⟨d, .binOp .eql 146 x (.const .nilIface) u, ty, pos, after, g⟩).run Tryz.prog w = .ok (.value (.bool true)) w := by
  have e := H.o h
  have e' : a.eval (.const .nilIface) = .nilIface := rfl
  simp only [execOp, e, e', eqGuard]; go_simp
theorem neNI (H : Hd a N ds l) {x : Operand} {u : TypeId} (h : ov l x = some .nilIface) : (execOp a.eval ⟨d, .binOp .neq 146 x (.const .nilIface) u, ty, pos, after, g⟩).run Tryz.prog w = .ok (.value (.bool false)) w := by
  have e := H.o h
  have e' : a.eval (.const .nilIface) = .nilIface := rfl
  simp only [execOp, e, e', eqGuard]; go_simp
theorem eqSI (H : Hd a N ds l) {x y : Operand} {u t : TypeId} {v : Value} (h : ov l x = some (.iface t v)) (h' : ov l y = some .nilIface) : (execOp a.eval ⟨d, .binOp .eql 146 x y u, ty, pos, after, g⟩).run Tryz.prog w = .ok (.value (.bool false)) w := by
  have e := H.o h
  have e' := H.o h'
  simp only [execOp, e, e']; go_simp
theorem inv131R (H : Hd a N ds l) {x : Operand} {v : Value} (h : ov l x = some (.iface 131 v)) (ts : Array TypeId) : (execOp a.eval ⟨d, .call { callee := .invoke x "ReadByte", args := #[], argTypes := ts }, ty, pos, after, g⟩).run Tryz.prog w = .ok (.enter 200 #[v]) w := by
  have e := H.o h
  revert e; generalize a.eval = ρ; intro e
  simp only [execOp]; go_simp; go_invoke; go_simp
theorem inv131U (H : Hd a N ds l) {x : Operand} {v : Value} (h : ov l x = some (.iface 131 v)) (ts : Array TypeId) : (execOp a.eval ⟨d, .call { callee := .invoke x "UnreadByte", args := #[], argTypes := ts }, ty, pos, after, g⟩).run Tryz.prog w = .ok (.enter 201 #[v]) w := by
  have e := H.o h
  revert e; generalize a.eval = ρ; intro e
  simp only [execOp]; go_simp; go_invoke; go_simp
end
end Ez
end
section
set_option maxRecDepth 8000
def Rd (w : World) (b : Nat) (s : ByteArray) (i : Nat) : Prop := ∃ k : Int, w.heap[b]? = some (.cells #[.string s, .int .i64 i, .int .i64 k] 152 (0, 0))
section
variable {w w' : World} {b i : Nat} {s : ByteArray}
theorem Rd.c0 (h : Rd w b s i) : w.cell? ⟨b, 0, none⟩ = some (.string s) := by obtain ⟨k, h⟩ := h; simp [World.cell?, h]
theorem Rd.c1 (h : Rd w b s i) : w.cell? ⟨b, 1, none⟩ = some (.int .i64 i) := by obtain ⟨k, h⟩ := h; simp [World.cell?, h]
theorem Rd.c2 (h : Rd w b s i) : ∃ k : Int, w.cell? ⟨b, 2, none⟩ = some (.int .i64 k) := by obtain ⟨k, h⟩ := h; exact ⟨k, by simp [World.cell?, h]⟩
theorem Rd.fz (h : Rd w b s i) (j : Nat) : w.frozen? ⟨b, j, none⟩ = false := by obtain ⟨k, h⟩ := h; simp [World.frozen?, h]
theorem Rd.set2 (h : Rd w b s i) (k : Int) : Rd (w.setCell ⟨b, 2, none⟩ (.int .i64 k)) b s i := by obtain ⟨k', h⟩ := h; exact ⟨k, by rw [heap_set_in h]; rfl⟩
theorem Rd.set1 (h : Rd w b s i) {j : Int} (n : Nat) (hj : j = (n : Int)) : Rd (w.setCell ⟨b, 1, none⟩ (.int .i64 j)) b s n := by obtain ⟨k', h⟩ := h; subst hj; exact ⟨k', by rw [heap_set_in h]; rfl⟩
theorem Rd.cd (h : Rd w b s i) (hC : Cd w w') : Rd w' b s i := by obtain ⟨k, h⟩ := h; exact ⟨k, by rw [hC.heap]; exact h⟩
theorem Rd.fr {T : Nat → Nat → Prop} (h : Rd w b s i) (hF : Fr T w w') (hT : ∀ o, ¬ T b o) : Rd w' b s i := by
  obtain ⟨k, h⟩ := h
  refine ⟨k, (hF.block b ?_ hT).trans h⟩
  exact World.block_lt_of_cell? w ⟨b, 0, none⟩ (u := .string s) (by simp [World.cell?, h])
end
theorem newReader (s : ByteArray) (w : World) :
    Calls Tryz.prog 114 #[.string s] w fun e w' => ∃ b, e = .returned (.pointer (some ⟨b, 0, none⟩)) ∧ w.heap.size ≤ b ∧ Rd w' b s 0 ∧ Fr NoT w w' := by
  refine enterE (vs := [.string s]) Tryz.func114 rfl rfl ?_
  intro a H
  replace H : Hd a 6 [] [(0, .string s)] := H
  refine wp_seq (wp_region_lit (l := [_]) (wl H (Ez.asn H rfl) rfl (kW (kS (kR [_, _, _, _] (kM rfl rfl (kL (fun a H => Ez.bld152 H rfl rfl rfl) rfl (kL (fun a H => Ez.box152 H rfl rfl rfl rfl) rfl (kA rfl rfl (kP [(2, _)] rfl (kW ?_))))))))))); clear H a; intro a H
  refine wp_ret ?_
  refine rt1 H rfl rfl ?_
  exact ⟨_, rfl, Nat.le_refl _, ⟨-1, heap_alloc_new w _⟩, (Fr.refl NoT w).alloc _⟩
theorem readByte (b i : Nat) (s : ByteArray) (w : World) (hR : Rd w b s i) (hi : i < s.size) (hs : s.size < 1000000) :
    Calls Tryz.prog 200 #[.pointer (some ⟨b, 0, none⟩)] w fun e w' => e = .returned (.tuple #[.int .u8 ((getElem s i hi).toNat : Int), .nilIface]) ∧ Rd w' b s (i + 1) ∧ Fr (Bl b) w w' := by
  refine enterE (vs := [.pointer (some ⟨b, 0, none⟩)]) Tryz.func200 rfl rfl ?_
  intro a H
  replace H : Hd a 36 [] [(0, .pointer (some ⟨b, 0, none⟩))] := H
  refine wp_seq (wp_region_lit (l := [_, _]) (wl H (Ez.asn H rfl) rfl (kA rfl rfl (kW (kS ?_))))); clear H a; intro a H
  obtain ⟨k, hc2⟩ := hR.c2
  refine wp_region_lit (l := [_, _, _, _]) (wl H (Ez.mv H rfl) rfl (kN rfl rfl (kL (fun a H => Ez.fa152_2 H rfl) rfl ?_))); clear H a; intro a H
  refine wls H (Ez.st3 H rfl rfl rfl hc2 (hR.fz _)) ?_; clear H; intro H
  refine kP [(0, _), (2, _), (3, _)] rfl (kW ?_) a H; clear H a; intro a H
  have hR1 := hR.set2 (-1)
  have hF1 : Fr (Bl b) w (w.setCell ⟨b, 0 + 2, none⟩ (.int .i64 (-1))) := Fr.bl _
  generalize hw2 : w.setCell ⟨b, 0 + 2, none⟩ (.int .i64 (-1)) = w2 at hF1
  rw [show w.setCell ⟨b, 2, none⟩ (.int .i64 (-1)) = w2 from hw2] at hR1
  refine wp_seq (wp_seq (regionQ (ls := [_, _, _, _, _, _, _, _, _, _]) follows_mixed (by kernel_rfl) (wq H (fun w2 hw2 => Ez.mv H rfl) rfl (jN rfl rfl (jL (fun a H w2 hw2 => Ez.fa152_1 H rfl) rfl (jL (fun a H w2 hw2 => Ez.ld2 H rfl (hw2.cell hR1.c1)) rfl (jM rfl rfl (jN rfl rfl (jL (fun a H w2 hw2 => Ez.fa152_0 H rfl) rfl (jL (fun a H w2 hw2 => Ez.ld9 H rfl (hw2.cell hR1.c0)) rfl (jL (fun a H w2 hw2 => Ez.len9 H rfl) rfl (jL (fun a H w2 hw2 => Ez.geq (r := false) H rfl rfl (by (simp; omega))) rfl ?_)))))))))))); clear H a; intro a H
  refine wqe ?_
  intro w1 hw
  have hR1 := hR1.cd hw
  have hF1 := hF1.trans (hw.fr _)
  clear hw
  replace H : Hd a 36 [] [(0, _), (2, _), (3, _), (17, _)] := H.pick [0, 2, 3, 17]
  refine wp_cond_false (H.o rfl) (wp_skip (thn (wp_seq (regionQ (ls := [_, _, _, _, _, _, _, _, _, _]) follows_mixed (by kernel_rfl) (wq H (fun w2 hw2 => Ez.mv H rfl) rfl (jN rfl rfl (jL (fun a H w2 hw2 => Ez.fa152_0 H rfl) rfl (jL (fun a H w2 hw2 => Ez.ld9 H rfl (hw2.cell hR1.c0)) rfl (jM rfl rfl (jN rfl rfl (jL (fun a H w2 hw2 => Ez.fa152_1 H rfl) rfl (jL (fun a H w2 hw2 => Ez.ld2 H rfl (hw2.cell hR1.c1)) rfl (jL (fun a H w2 hw2 => Ez.idx9 H rfl rfl i rfl hi rfl) rfl (jA rfl rfl ?_)))))))))))))); clear H a; intro a H
  refine wqe ?_
  intro w1 hw
  have hR1 := hR1.cd hw
  have hF1 := hF1.trans (hw.fr _)
  clear hw
  obtain ⟨wX, rfl⟩ : ∃ wX, wX = w1 := ⟨w1, rfl⟩
  refine kP [(0, _), (2, _), (3, _), (4, _)] rfl (kS (kR [_, _, _, _, _, _, _, _] (kM rfl rfl (kN rfl rfl (kL (fun a H => Ez.fa152_1 H rfl) rfl (kL (fun a H => Ez.ld2 H rfl (hR1.c1)) rfl (kL (fun a H => Ez.addI (r := ((i + 1 : Nat) : Int)) H rfl rfl (by omega) (by omega)) rfl (kN rfl rfl (kL (fun a H => Ez.fa152_1 H rfl) rfl ?_))))))))) a H; clear H a; intro a H
  refine wls H (Ez.st2 H rfl rfl rfl hR1.c1 (hR1.fz _)) ?_; clear H; intro H
  refine kP [(2, _), (3, _), (4, _)] rfl (kW (kS (kR [_, _, _] (kM rfl rfl (kA rfl rfl (kA rfl rfl (kP [(2, _), (3, _)] rfl (kW ?_)))))))) a H; clear H a; intro a H
  refine wp_ret ?_
  refine rt2 H rfl rfl rfl ?_
  exact ⟨rfl, hR1.set1 (i + 1) rfl, hF1.trans (Fr.bl _)⟩
theorem readEOF (b i : Nat) (s : ByteArray) (v : Value) (w : World) (hR : Rd w b s i) (hi : s.size ≤ i) (hi2 : i < 1000000) (he : w.cell? ⟨0, 0, none⟩ = some v) (hb : b ≠ 0) :
    Calls Tryz.prog 200 #[.pointer (some ⟨b, 0, none⟩)] w fun e w' => e = .returned (.tuple #[.int .u8 0, v]) ∧ Rd w' b s i ∧ Fr (Bl b) w w' := by
  refine enterE (vs := [.pointer (some ⟨b, 0, none⟩)]) Tryz.func200 rfl rfl ?_
  intro a H
  replace H : Hd a 36 [] [(0, .pointer (some ⟨b, 0, none⟩))] := H
  refine wp_seq (wp_region_lit (l := [_, _]) (wl H (Ez.asn H rfl) rfl (kA rfl rfl (kW (kS ?_))))); clear H a; intro a H
  obtain ⟨k, hc2⟩ := hR.c2
  refine wp_region_lit (l := [_, _, _, _]) (wl H (Ez.mv H rfl) rfl (kN rfl rfl (kL (fun a H => Ez.fa152_2 H rfl) rfl ?_))); clear H a; intro a H
  refine wls H (Ez.st3 H rfl rfl rfl hc2 (hR.fz _)) ?_; clear H; intro H
  refine kP [(0, _), (2, _), (3, _)] rfl (kW ?_) a H; clear H a; intro a H
  have hR1 := hR.set2 (-1)
  have hF1 : Fr (Bl b) w (w.setCell ⟨b, 0 + 2, none⟩ (.int .i64 (-1))) := Fr.bl _
  generalize hw2 : w.setCell ⟨b, 0 + 2, none⟩ (.int .i64 (-1)) = w2 at hF1
  rw [show w.setCell ⟨b, 2, none⟩ (.int .i64 (-1)) = w2 from hw2] at hR1
  refine wp_seq (wp_seq ?_)
  have he2 := hF1.someCell he (fun e => hb (Eq.symm e))
  refine regionQ (ls := [_, _, _, _, _, _, _, _, _, _]) follows_mixed (by kernel_rfl) (wq H (fun w2 hw2 => Ez.mv H rfl) rfl (jN rfl rfl (jL (fun a H w2 hw2 => Ez.fa152_1 H rfl) rfl (jL (fun a H w2 hw2 => Ez.ld2 H rfl (hw2.cell hR1.c1)) rfl (jM rfl rfl (jN rfl rfl (jL (fun a H w2 hw2 => Ez.fa152_0 H rfl) rfl (jL (fun a H w2 hw2 => Ez.ld9 H rfl (hw2.cell hR1.c0)) rfl (jL (fun a H w2 hw2 => Ez.len9 H rfl) rfl (jL (fun a H w2 hw2 => Ez.geq (r := true) H rfl rfl (by (simp; omega))) rfl ?_)))))))))); clear H a; intro a H
  refine wqe ?_
  intro w1 hw
  have hR1 := hR1.cd hw
  have hF1 := hF1.trans (hw.fr _)
  have he2 := hw.cell he2
  clear hw
  replace H : Hd a 36 [] [(0, _), (2, _), (3, _), (17, _)] := H.pick [0, 2, 3, 17]
  refine wp_cond_true (H.o rfl) (wp_seq (regionQ (ls := [_, _, _]) follows_mixed (by kernel_rfl) (wq H (fun w2 hw2 => Ez.ld146 H rfl (hw2.cell he2)) rfl (jA rfl rfl (jA rfl rfl ?_))))); clear H a; intro a H
  refine wqe ?_
  intro w1 hw
  have hR1 := hR1.cd hw
  have hF1 := hF1.trans (hw.fr _)
  replace H : Hd a 36 [] [(0, _), (2, _), (3, _)] := H.pick [0, 2, 3]
  refine wp_ret (thr ?_)
  refine rt2 H rfl rfl rfl ?_
  exact ⟨rfl, hR1, hF1⟩
theorem unreadByte (b i : Nat) (s : ByteArray) (w : World) (hR : Rd w b s (i + 1)) (hi : i < 1000000) :
    Calls Tryz.prog 201 #[.pointer (some ⟨b, 0, none⟩)] w fun e w' => e = .returned .nilIface ∧ Rd w' b s i ∧ Fr (Bl b) w w' := by
  refine enterE (vs := [.pointer (some ⟨b, 0, none⟩)]) Tryz.func201 rfl rfl ?_
  intro a H
  replace H : Hd a 19 [] [(0, .pointer (some ⟨b, 0, none⟩))] := H
  refine wp_seq (wp_region_lit (l := [_]) (wl H (Ez.asn H rfl) rfl (kW (kS (kS (kR [_, _, _, _, _] (kM rfl rfl (kN rfl rfl (kL (fun a H => Ez.fa152_1 H rfl) rfl (kL (fun a H => Ez.ld2 H rfl (hR.c1)) rfl (kL (fun a H => Ez.leq (r := false) H rfl rfl (by (simp <;> omega))) rfl (kP [(0, _), (2, _), (7, _)] rfl (kW ?_))))))))))))); clear H a; intro a H
  refine wp_cond_false (H.o rfl) (wp_skip (thn (wp_seq ?_)))
  obtain ⟨k, hc2⟩ := hR.c2
  refine wp_region_lit (l := [_, _, _, _]) (wl H (Ez.mv H rfl) rfl (kN rfl rfl (kL (fun a H => Ez.fa152_2 H rfl) rfl ?_))); clear H a; intro a H
  refine wls H (Ez.st3 H rfl rfl rfl hc2 (hR.fz _)) ?_; clear H; intro H
  refine kP [(0, _), (2, _)] rfl (kW ?_) a H; clear H a; intro a H
  have hR1 := hR.set2 (-1)
  have hF1 : Fr (Bl b) w (w.setCell ⟨b, 0 + 2, none⟩ (.int .i64 (-1))) := Fr.bl _
  generalize hw2 : w.setCell ⟨b, 0 + 2, none⟩ (.int .i64 (-1)) = w2 at hF1
  rw [show w.setCell ⟨b, 2, none⟩ (.int .i64 (-1)) = w2 from hw2] at hR1
  refine wp_seq (wp_region_lit (l := [_, _, _, _, _, _, _, _]) (wl H (Ez.mv H rfl) rfl (kN rfl rfl (kL (fun a H => Ez.fa152_1 H rfl) rfl (kL (fun a H => Ez.ld2 H rfl (hR1.c1)) rfl (kL (fun a H => Ez.subI (r := (i : Int)) H rfl rfl (by omega) (by omega)) rfl (kN rfl rfl (kL (fun a H => Ez.fa152_1 H rfl) rfl ?_)))))))); clear H a; intro a H
  refine wls H (Ez.st2 H rfl rfl rfl hR1.c1 (hR1.fz _)) ?_; clear H; intro H
  refine kP [(2, _)] rfl (kW (kS (kR [_] (kA rfl rfl (kW ?_))))) a H; clear H a; intro a H
  refine wp_ret ?_
  refine rt1 H rfl rfl ?_
  exact ⟨rfl, hR1.set1 i rfl, hF1.trans (Fr.bl _)⟩
theorem scanSign (b : Nat) (s : ByteArray) (w : World) (hR : Rd w b s 0) (h0 : 0 < s.size) (hs : s.size < 1000000) (hch : (getElem s 0 h0).toNat ≠ 45 ∧ (getElem s 0 h0).toNat ≠ 43) :
    Calls Tryz.prog 143 #[.iface 131 (.pointer (some ⟨b, 0, none⟩))] w fun e w' => e = .returned (.tuple #[.bool false, .nilIface]) ∧ Rd w' b s 0 ∧ Fr (Bl b) w w' := by
  refine enterE (vs := [.iface 131 (.pointer (some ⟨b, 0, none⟩))]) Tryz.func143 rfl rfl ?_
  intro a H
  replace H : Hd a 20 [] [(0, .iface 131 (.pointer (some ⟨b, 0, none⟩)))] := H
  refine wp_seq (wp_region_lit (l := [_, _]) (wl H (Ez.asn H rfl) rfl (kA rfl rfl (kW (kS (kR [_] (kA rfl rfl (kW (kS (kS (kR [_, _, _, _, _, _, _] (kM rfl rfl ?_)))))))))))); clear H a; intro a H
  refine wlc H (Ez.inv131R H rfl _) (readByte b 0 s w hR h0 hs) rfl ?_
  rintro _ w1 ⟨rfl, k1, k2⟩
  refine ⟨_, rfl, ?_⟩; clear H a; intro a H
  obtain ⟨wX, rfl⟩ : ∃ wX, wX = w1 := ⟨w1, rfl⟩
  refine wl H (Ez.mv H rfl) rfl (kL (fun a H => Ez.ext0 H rfl) rfl (kL (fun a H => Ez.ext1 H rfl) rfl (kA rfl rfl (kA rfl rfl (kP [(0, _), (2, _), (3, _), (4, _)] rfl (kW (kS (kR [_, _] (kM rfl rfl (kL (fun a H => Ez.neNI H rfl) rfl (kP [(0, _), (2, _), (3, _), (4, _), (11, _)] rfl (kW ?_)))))))))))); clear H a; intro a H
  refine wp_cond_false (H.o rfl) (wp_skip (thn (wp_seq (wp_seq (wp_region_lit (l := [_]) (wl H (Ez.mv H rfl) rfl (kP [(0, _), (2, _), (3, _), (13, _)] rfl (kW ?_)))))))); clear H a; intro a H
  refine wp_block (wp_seq (wp_region_lit (l := [_, _]) (wl H (Ez.eql (r := false) H rfl rfl (by (simp; omega))) rfl (kA rfl rfl (kP [(0, _), (2, _), (3, _), (13, _), (16, _)] rfl (kW ?_)))))); clear H a; intro a H
  refine wp_cond_false (H.o rfl) (wp_seq (wp_region_lit (l := [_, _]) (wl H (Ez.eql (r := false) H rfl rfl (by (simp; omega))) rfl (kA rfl rfl (kP [(0, _), (2, _), (3, _), (18, _)] rfl (kW ?_)))))); clear H a; intro a H
  refine wp_cond_false (H.o rfl) (wp_region_lit (l := [_, _]) (wl H (Ez.mv H rfl) rfl ?_)); clear H a; intro a H
  refine wlc H (Ez.inv131U H rfl _) (unreadByte b 0 s wX k1 (by omega)) rfl ?_
  rintro _ w1 ⟨rfl, k3, k4⟩
  refine ⟨_, rfl, ?_⟩; clear H a; intro a H
  replace H : Hd a 20 [] [(2, _), (3, _)] := H.pick [2, 3]
  refine wpList_nil ?_
  refine bn (thn (wp_ret ?_))
  refine rt2 H rfl rfl rfl ?_
  exact ⟨rfl, k3, k2.trans k4⟩
end
section
set_option maxRecDepth 8000
theorem add_lit0 (b o j : Nat) : (⟨b, o, none⟩ : Addr).add j = ⟨b, o + j, none⟩ := by unfold Addr.add; split <;> simp_all
theorem Wk.app (w : World) (n g : Nat) (X : Nat → Int) (v : Int) (hg : n + 1 ≤ g) (hm : g ≤ 9223372036854775807) (hX : ∀ j, j < n → U64 (X j)) (hv : U64 v) :
    Wk (w.drew.alloc (.cells (((List.range n).map fun j => Value.int .u64 (X j)).toArray ++ [Value.int .u64 v].toArray ++ Builtin.zeroCells (Value.int .u64 0).cells (g - (n + 1))) 103)) w.heap.size g (fun j => if j < n then X j else if j = n then v else 0) := by
  have e : (((List.range n).map fun j => Value.int .u64 (X j)).toArray ++ [Value.int .u64 v].toArray ++ Builtin.zeroCells (Value.int .u64 0).cells (g - (n + 1))) = Array.ofFn fun j : Fin g => Value.int .u64 ((fun j => if j < n then X j else if j = n then v else 0 : Nat → Int) j) := by
    apply Array.ext
    · simp [size_zeroCells, Value.cells]; omega
    intro i h1 h2
    simp only [Array.size_ofFn] at h2
    simp only [Array.getElem_append, Array.getElem_ofFn]
    by_cases c1 : i < n
    · rw [dif_pos (by simp; omega), dif_pos (by simpa using c1)]
      simp [c1]
    by_cases c2 : i = n
    · subst c2
      rw [dif_pos (by simp), dif_neg (by simp)]
      simp
    rw [dif_neg (by simp; omega)]
    simp only [c1, c2, if_false]
    simp only [Builtin.zeroCells, Array.getElem_map, Array.getElem_range, Value.cells]
    show #[Value.int .u64 0][_ % 1]! = _
    rw [Nat.mod_one]; rfl
  rw [e]
  refine ⟨heap_alloc_new w.drew _, fun j hj => ?_, hm⟩
  show U64 (if j < n then X j else if j = n then v else 0)
  split
  · exact hX j (by assumption)
  split
  · exact hv
  exact ⟨by decide, by decide⟩
theorem run_apW {w : World} {q : Option Addr} {n c ba : Nat} {X : Nat → Int} {v : Int} {ty : TypeId} (hs : Sl w q n c X) (hn : n < 100000) (hW : Wk w ba 1 (fun _ => v)) :
    ∃ w' q' c' X', (Builtin.append_ #[80, 80] ty #[.slice q n c, .slice (some ⟨ba, 0, none⟩) 1 1]).run Tryz.prog w = .ok (.slice q' (n + 1) c') w' ∧ Sl w' q' (n + 1) c' X' ∧ (∀ j, j < n → X' j = X j) ∧ X' n = v ∧ Own w q q' ∧ Fr (TQ q) w w' := by
  have hu : Tryz.prog.underlying 80 = some (.slice 103) := by kernel_rfl
  obtain ⟨ti, h1, h2, h3, h4⟩ := word_info
  have hv : U64 v := hW.u 0 (by decide)
  have hnews : ∀ j u, [Value.int .u64 v][j]? = some u → w.cell? ((⟨ba, 0, none⟩ : Addr).add j) = some u := by
    intro j u hj
    cases j with
    | zero => rw [add_lit0]; simp at hj; rw [← hj]; exact hW.cell (by decide)
    | succ j => simp at hj
  rcases hs with ⟨rfl, rfl, rfl⟩ | ⟨b, rfl, hnc, hc, hB⟩
  · have r := run_append_nil (P := Tryz.prog) w 80 ty 103 ti (.int .u64 0) hu h1 h2 ⟨ba, 0, none⟩ 1 1 [.int .u64 v] (by simp [h4]) hnews (by decide) (by decide) (by rw [h3]; decide)
    have hcapge : 0 + 1 ≤ grownCap w 1 0 103 := grownCap_ge w _ 0 103
    have hcaple : grownCap w 1 0 103 ≤ maxLen := grownCap_le_maxLen w _ 0 103 (by unfold maxLen; omega)
    have hk := Wk.app w 0 (grownCap w 1 0 103) X v hcapge (by unfold maxLen at hcaple; omega) (fun j hj => by omega) hv
    simp only [List.range_zero, List.map_nil, List.append_toArray, List.nil_append, Nat.zero_add] at hk
    exact ⟨_, _, _, _, r, Sl.of hk (by omega) (by omega), fun j hj => by omega, by simp, Own.new _ _ (Nat.le_refl _), ((Fr.refl _ w).drew).alloc _⟩
  have holds : ∀ j u, ((List.range n).map fun j => Value.int .u64 (X j))[j]? = some u → w.cell? ((⟨b, 0, none⟩ : Addr).add j) = some u := by
    intro j u hj
    have hjn : j < n := by
      rcases Nat.lt_or_ge j n with h | h
      · exact h
      rw [List.getElem?_eq_none (by simpa using h)] at hj; cases hj
    rw [add_lit0, Nat.zero_add, hB.cell (by omega)]
    simpa [hjn] using hj
  by_cases hroom : n + 1 ≤ c
  · have r := run_append_room_cells (P := Tryz.prog) w 80 ty 103 ti hu h1 b 0 n c ⟨ba, 0, none⟩ 1 1 [.int .u64 v] (by simp [h4]) hnews (by simp [Value.oneCell']) hroom
      (fun j hj => by simp at hj; subst hj; rw [h4]; simp only [Nat.mul_one, Nat.add_zero, Nat.zero_add]; rw [hB.cell (by omega)]; rfl) (fun j hj => by simp at hj; subst hj; exact hB.fz _)
    rw [h4, Nat.mul_one, Nat.zero_add] at r
    exact ⟨_, _, _, _, r, Sl.of (hB.set (j := n) (by omega) hv) hroom hc, fun j hj => up_ne (by omega), up_eq _ _ _, Own.refl _ _, (Fr.bl (b := b) (j := n) (.int .u64 v)).blq⟩
  have r := run_append_grow (P := Tryz.prog) w 80 ty 103 ti (.int .u64 0) hu h1 h2 ⟨b, 0, none⟩ n c ((List.range n).map fun j => Value.int .u64 (X j)) (by simp [h4]) holds ⟨ba, 0, none⟩ 1 1 [.int .u64 v] (by simp [h4]) hnews (by omega) (by omega)
    (growslice_fits (by omega) (by rw [h3]; omega))
  have hcapge : n + 1 ≤ grownCap w (n + 1) c 103 := grownCap_ge w _ c 103
  have hcaple : grownCap w (n + 1) c 103 ≤ maxLen := grownCap_le_maxLen w _ c 103 (by unfold maxLen; omega)
  have hk := Wk.app w n (grownCap w (n + 1) c 103) X v hcapge (by unfold maxLen at hcaple; omega) (fun j hj => hB.u j (by omega)) hv
  exact ⟨_, _, _, _, r, Sl.of hk hcapge (by omega), fun j hj => by simp [hj], by simp, Own.new _ _ (Nat.le_refl _), ((Fr.refl _ w).drew).alloc _⟩
theorem Ez.apW {a : Act} {N : Nat} {ds : List Deferred} {l : Env} {w : World} {d : Option Nat} {ty : TypeId} {pos : String} {after : Array Edge} {g : Option (Nat × Bool)} (H : Hd a N ds l) {x y : Operand} {q : Option Addr} {n c ba : Nat} {X : Nat → Int} {v : Int}
    (h : ov l x = some (.slice q n c)) (h' : ov l y = some (.slice (some ⟨ba, 0, none⟩) 1 1)) (hs : Sl w q n c X) (hn : n < 100000) (hW : Wk w ba 1 (fun _ => v)) :
    ∃ w' q' c' X', (execOp a.eval ⟨d, .call { callee := .builtin .append, args := #[x, y], argTypes := #[80, 80] }, ty, pos, after, g⟩).run Tryz.prog w = .ok (.value (.slice q' (n + 1) c')) w' ∧ Sl w' q' (n + 1) c' X' ∧ (∀ j, j < n → X' j = X j) ∧ X' n = v ∧ Own w q q' ∧ Fr (TQ q) w w' := by
  obtain ⟨w', q', c', X', r, k1, k2, k3, k4, k5⟩ := run_apW (ty := ty) hs hn hW
  refine ⟨w', q', c', X', ?_, k1, k2, k3, k4, k5⟩
  have e := H.o h
  have e' := H.o h'
  revert e e'; generalize a.eval = ρ; intro e e'
  have hm : (#[x, y] : Array Operand).map ρ = #[.slice q n c, .slice (some ⟨ba, 0, none⟩) 1 1] := by simp [e, e']
  simp only [execOp, resolve, invoke, hm, Sem.run_bind, Sem.run_pure, Result.andThen, builtin, r]
end
section
set_option maxRecDepth 8000
theorem reverse (b n c : Nat) (X : Nat → Int) (w : World) (hW : Wk w b c X) (hn : n ≤ c) (hn1 : 1 ≤ n) (hn2 : n < 1000) :
    Calls Tryz.prog 166 #[.slice (some ⟨b, 0, none⟩) n c] w fun e w' => ∃ X', e = .returned (.tuple #[]) ∧ Wk w' b c X' ∧ (∀ j, j < n → X' j = X (n - 1 - j)) ∧ Fr (Bl b) w w' := by
  obtain ⟨w0, hw0⟩ : ∃ w0, w0 = w := ⟨w, rfl⟩
  rw [← hw0]
  rw [← hw0] at hW
  clear hw0 w
  have hW0 := hW
  refine enterE (vs := [.slice (some ⟨b, 0, none⟩) n c]) Tryz.func166 rfl rfl ?_
  intro a H
  replace H : Hd a 28 [] [(0, .slice (some ⟨b, 0, none⟩) n c)] := H
  refine wp_seq (wp_region_lit (l := [_, _, _, _, _]) (wl H (Ez.mv H rfl) rfl (kL (fun a H => Ez.len80 H rfl) rfl (kL (fun a H => Ez.subI (r := ((n - 1 : Nat) : Int)) H rfl rfl (by omega) (by omega)) rfl (kA rfl rfl (kA rfl rfl (kP [(0, _), (2, _), (3, _)] rfl (kW ?_)))))))); clear H a; intro a H
  refine wp_block ?_
  refine wp_loopN (fun mm a w => ∃ (i : Nat) (X1 : Nat → Int), mm = n - i ∧ 2 * i ≤ n + 1 ∧ Hd a 28 [] [(0, .slice (some ⟨b, 0, none⟩) n c), (2, .int .i64 i), (3, .int .i64 ((n : Int) - 1 - i))] ∧ Wk w b c X1 ∧ (∀ j, j < n → (j < i ∨ n ≤ j + i) → X1 j = X (n - 1 - j)) ∧ (∀ j, i ≤ j → j + i < n → X1 j = X j) ∧ Fr (Bl b) w0 w) (n) ?_ ?_
  · replace H : Hd a 28 [] [(0, _), (2, _), (3, _)] := H.pick [0, 2, 3]
    refine ⟨0, X, rfl, by omega, ?_, hW, fun j h1 h2 => by omega, fun j _ _ => rfl, Fr.refl _ _⟩
    rw [show ((n - 1 : Nat) : Int) = (n : Int) - 1 - (0 : Nat) by omega] at H
    exact H
  clear H a
  intro mm a w hI
  clear hW
  obtain ⟨i, X1, hmm, hi, H, hW, h1, h2, hF⟩ := hI
  refine wp_seq (wp_seq (wp_region_lit (l := [_, _, _]) (wl H (Ez.mv H rfl) rfl (kM rfl rfl (kL (fun a H => Ez.lss H rfl rfl (rfl)) rfl (kP [(0, _), (2, _), (3, _), (9, _)] rfl (kW ?_))))))); clear H a; intro a H
  refine wp_cond_split (H.o rfl) (fun hb => ?_) (fun hb => ?_)
  · have hlt : 2 * i + 1 < n := by have := of_decide_eq_true hb; omega
    refine wp_skip (thn (wp_seq (wp_block ?_)))
    refine regionM [_, _, _, _, _, _, _, _, _, _, _, _, _, _, _, _] 13 [(.p, 2), (.p, 3), (.c, 0), (.c, 1), (.c, 4), (.c, 5), (.c, 6), (.c, 7), (.c, 8), (.c, 9), (.c, 10), (.c, 11), (.c, 12), (.f, 13), (.f, 14), (.f, 15)] follows_mixed (fun _ _ _ _ _ h => h) (by kernel_rfl) ?_
    intro w1 hw
    have hW := hW.heq hw.heap
    have hF := hF.trans (hw.fr _)
    clear hw
    obtain ⟨wX, hwX⟩ : ∃ wX, wX = w1 := ⟨w1, rfl⟩
    rw [← hwX]
    rw [← hwX] at hW hF
    clear hwX
    refine mxp rfl H (fun _ => Ez.mv H rfl) rfl ?_; clear H a; intro a H
    refine mxp rfl H (fun _ => Ez.mv H rfl) rfl ?_; clear H a; intro a H
    refine mxc rfl H (Ez.mv H rfl) rfl ?_; clear H a; intro a H
    refine mxc rfl H (Ez.mv H rfl) rfl ?_; clear H a; intro a H
    refine mxc rfl H (Ez.mv H rfl) rfl ?_; clear H a; intro a H
    refine mxc rfl H (Ez.mv H rfl) rfl ?_; clear H a; intro a H
    refine mxc rfl H (Ez.ix80 H rfl rfl (n - 1 - i) (by omega) (by omega)) rfl ?_; clear H a; intro a H
    refine mxc rfl H (Ez.ld103 H rfl ((by rw [Nat.zero_add]; exact hW.cell (by omega)))) rfl ?_; clear H a; intro a H
    refine mxc rfl H (Ez.mv H rfl) rfl ?_; clear H a; intro a H
    refine mxc rfl H (Ez.mv H rfl) rfl ?_; clear H a; intro a H
    refine mxc rfl H (Ez.ix80 H rfl rfl i rfl (by omega)) rfl ?_; clear H a; intro a H
    refine mxc rfl H (Ez.ld103 H rfl ((by rw [Nat.zero_add]; exact hW.cell (by omega)))) rfl ?_; clear H a; intro a H
    refine mxc rfl H (Ez.ix80 H rfl rfl i rfl (by omega)) rfl ?_; clear H a; intro a H
    refine mxs rfl H (Ez.st103 H rfl rfl rfl (hW.cell (by omega)) (hW.fz _)) ?_; clear H; intro H
    have hW := hW.set (j := 0 + i) (v := X1 (n - 1 - i)) (by omega) (hW.u _ (by omega))
    have hF := hF.trans (Fr.bl (b := b) (j := 0 + i) (.int .u64 (X1 (n - 1 - i))))
    refine mxf rfl H (Ez.ix80 H rfl rfl (n - 1 - i) (by omega) (by omega)) rfl ?_; clear H a; intro a H
    refine mxs rfl H (Ez.st103 H rfl rfl rfl (hW.cell (by omega)) (hW.fz _)) ?_; clear H; intro H
    replace H : Hd a 28 [] [(0, _), (2, _), (3, _)] := H.pick [0, 2, 3]
    refine mxe' ?_
    have hx := h2 i (by omega) (by omega)
    have hy := h2 (n - 1 - i) (by omega) (by omega)
    have hux : U64 (X1 i) := by have := hW.u i (by omega)
                                rw [hx]
                                have hh := hW0.u i (by omega)
                                exact hh
    have hW := hW.set (j := 0 + (n - 1 - i)) (v := X1 i) (by omega) hux
    have hF := hF.trans (Fr.bl (b := b) (j := 0 + (n - 1 - i)) (.int .u64 (X1 i)))
    have h1' : ∀ j, j < n → (j < i + 1 ∨ n ≤ j + (i + 1)) → up (up X1 (0 + i) (X1 (n - 1 - i))) (0 + (n - 1 - i)) (X1 i) j = X (n - 1 - j) := by
      intro j hj hjj
      rw [Nat.zero_add, Nat.zero_add]
      by_cases e1 : j = n - 1 - i
      · subst e1; rw [up_eq, hx]; congr 1; omega
      rw [up_ne e1]
      by_cases e2 : j = i
      · subst e2; rw [up_eq, hy]
      rw [up_ne e2]; exact h1 j hj (by omega)
    have h2' : ∀ j, i + 1 ≤ j → j + (i + 1) < n → up (up X1 (0 + i) (X1 (n - 1 - i))) (0 + (n - 1 - i)) (X1 i) j = X j := by
      intro j ha hb
      rw [Nat.zero_add, Nat.zero_add, up_ne (by omega), up_ne (by omega)]
      exact h2 j (by omega) (by omega)
    refine bn (thn (wp_region_lit (l := [_, _, _, _, _, _]) (wl H (Ez.mv H rfl) rfl (kL (fun a H => Ez.addI (r := ((i + 1 : Nat) : Int)) H rfl rfl (by omega) (by omega)) rfl (kM rfl rfl (kL (fun a H => Ez.subI H rfl rfl rfl (by omega)) rfl (kA rfl rfl (kA rfl rfl (kP [(0, _), (2, _), (3, _)] rfl (kW (kP [(0, _), (2, _), (3, _)] rfl ?_))))))))))); clear H a; intro a H
    refine ⟨n - (i + 1), by omega, i + 1, _, rfl, by omega, ?_, hW, h1', h2', hF⟩
    rw [show (n : Int) - 1 - i - 1 = (n : Int) - 1 - ((i + 1 : Nat) : Int) by omega] at H
    exact H
  have hge : n ≤ 2 * i + 1 := by have := of_decide_eq_false hb; omega
  refine wp_exit (thx (thx (bxe ?_)))
  refine rtn0 H rfl ?_
  refine ⟨X1, rfl, hW, fun j hj => ?_, hF⟩
  by_cases e : j < i ∨ n ≤ j + i
  · exact h1 j hj e
  rw [h2 j (by omega) (by omega)]; congr 1; omega
end
section
set_option maxRecDepth 8000
theorem rt4 {P : Program} {fn : Func} {R : Ending → World → Prop} {a : Act} {w : World} {N : Nat} {l : Env} {t1 t2 t3 t4 : Tmp} {v1 v2 v3 v4 : Value} (H : Hd a N [] l) (h : fn.results = #[.tmp t1, .tmp t2, .tmp t3, .tmp t4])
    (h1 : lk l t1 = some v1) (h2 : lk l t2 = some v2) (h3 : lk l t3 = some v3) (h4 : lk l t4 = some v4) (hR : R (.returned (.tuple #[v1, v2, v3, v4])) w) : bodyPost P fn R .ret a w := by
  refine ⟨H.df, _, ?_, hR⟩
  rw [← H.g _ _ h1, ← H.g _ _ h2, ← H.g _ _ h3, ← H.g _ _ h4]
  simp [Go.results, h, Act.eval]
def hxv (D : Nat → Int) : Nat → Int
  | 0 => 0
  | n + 1 => hxv D n * 16 + D n
theorem hxv_add (D : Nat → Int) (m : Nat) : ∀ n, hxv D (m + n) = hxv D m * 16 ^ n + hxv (fun i => D (m + i)) n
  | 0 => by simp [hxv]
  | n + 1 => by
    rw [← Nat.add_assoc]
    simp only [hxv]
    rw [hxv_add D m n, Int.pow_succ]
    grind
theorem hxv_bound {D : Nat → Int} : ∀ n, (∀ j, j < n → 0 ≤ D j ∧ D j < 16) → 0 ≤ hxv D n ∧ hxv D n < 16 ^ n
  | 0, _ => by simp [hxv]
  | n + 1, h => by
    have h1 := hxv_bound n (fun j hj => h j (by omega))
    have h2 := h n (by omega)
    simp only [hxv]
    rw [Int.pow_succ]
    omega
def Hx (ch : Int) (d : Int) : Prop := (48 ≤ ch ∧ ch ≤ 57 ∧ d = ch - 48) ∨ (97 ≤ ch ∧ ch ≤ 102 ∧ d = ch - 87)
def chr (s : ByteArray) (j : Nat) : Int := if h : j < s.size then ((getElem s j h).toNat : Int) else 0
theorem chr_eq {s : ByteArray} {j : Nat} (h : j < s.size) : ((getElem s j h).toNat : Int) = chr s j := by simp [chr, h]
structure Eof (v : Value) : Prop where
  i : ∃ t u, v = .iface t u
  e : ∀ (a : Act) (N : Nat) (ds : List Deferred) (l : Env) (w : World) (d : Option Nat) (ty : TypeId) (pos : String) (after : Array Edge) (g : Option (Nat × Bool)) (x y : Operand) (u : TypeId), Hd a N ds l → ov l x = some v → ov l y = some v →
    (execOp a.eval ⟨d, .binOp .eql 146 x y u, ty, pos, after, g⟩).run Tryz.prog w = .ok (.value (.bool true)) w
  ne : ∀ (a : Act) (N : Nat) (ds : List Deferred) (l : Env) (w : World) (d : Option Nat) (ty : TypeId) (pos : String) (after : Array Edge) (g : Option (Nat × Bool)) (x y : Operand) (u : TypeId), Hd a N ds l → ov l x = some v → ov l y = some v →
    (execOp a.eval ⟨d, .binOp .neq 146 x y u, ty, pos, after, g⟩).run Tryz.prog w = .ok (.value (.bool false)) w
theorem four (X : Nat → Int) : nv X 4 = X 0 + X 1 * BB + X 2 * (BB * BB) + X 3 * (BB * BB * BB) := by
  simp only [nv]
  rw [Int.pow_zero, show BB ^ 1 = BB from rfl, show BB ^ 2 = BB * BB from rfl, show BB ^ 3 = BB * BB * BB from rfl]; omega
set_option maxHeartbeats 2000000 in
theorem natScan (b : Nat) (s : ByteArray) (v : Value) (D : Nat → Int) (w : World) (hsz : s.size = 64) (hD : ∀ j, j < 64 → Hx (chr s j) (D j) ∧ 0 ≤ D j ∧ D j < 16) (hR : Rd w b s 0) (he : w.cell? ⟨0, 0, none⟩ = some v) (hb : b ≠ 0) (hE : Eof v) :
    Calls Tryz.prog 144 #[.slice none 0 0, .iface 131 (.pointer (some ⟨b, 0, none⟩)), .int .i64 16, .bool false] w fun e w' => ∃ q' k c' X', e = .returned (.tuple #[.slice q' k c', .int .i64 16, .int .i64 64, .nilIface]) ∧ Sl w' q' k c' X' ∧ k ≤ 4 ∧ nv X' k = hxv D 64 ∧ Nm X' k ∧ (∀ x j, TQ q' x j → w.heap.size ≤ x) ∧ Rd w' b s 64 ∧ Fr (Bl b) w w' := by
  obtain ⟨w0, hw0⟩ : ∃ w0, w0 = w := ⟨w, rfl⟩
  rw [← hw0]
  rw [← hw0] at hR he
  clear hw0 w
  have hbl : b < w0.heap.size := World.block_lt_of_cell? w0 _ hR.c0
  refine enterE (vs := [.slice none 0 0, .iface 131 (.pointer (some ⟨b, 0, none⟩)), .int .i64 16, .bool false]) Tryz.func144 rfl rfl ?_
  intro a H
  replace H : Hd a 274 [] [(0, .slice none 0 0), (1, .iface 131 (.pointer (some ⟨b, 0, none⟩))), (2, .int .i64 16), (3, .bool false)] := H
  refine wp_seq (wp_region_lit (l := [_, _, _, _]) (wl H (Ez.asn H rfl) rfl (kA rfl rfl (kA rfl rfl (kA rfl rfl (kW (kS (kR [_, _, _, _, _, _, _, _, _, _, _, _, _, _, _, _, _, _, _, _, _, _, _, _, _, _, _, _, _, _, _, _, _, _] (kM rfl rfl (kL (fun a H => Ez.eql (r := false) H rfl rfl (by simp)) rfl (kM rfl rfl (kG (fun a H => Ez.mv H rfl) rfl rfl rfl rfl rfl (kG (fun a H => Ez.not H rfl rfl) rfl rfl rfl rfl rfl (kG (fun a H => Ez.mv H rfl) rfl rfl rfl rfl rfl (kG (fun a H => Ez.mv H rfl) rfl rfl rfl rfl rfl (kG (fun a H => Ez.leq (r := true) H rfl rfl (by simp)) rfl rfl rfl rfl rfl (kG (fun a H => Ez.pkT H rfl rfl) rfl rfl rfl rfl rfl (kG (fun a H => Ez.mv H rfl) rfl rfl rfl rfl rfl (kG (fun a H => Ez.mv H rfl) rfl rfl rfl rfl rfl (kG (fun a H => Ez.leq (r := true) H rfl rfl (by simp)) rfl rfl rfl rfl rfl (kG (fun a H => Ez.pkT H rfl rfl) rfl rfl rfl rfl rfl (kL (fun a H => Ez.pkF H rfl rfl) rfl (kM rfl rfl (kX rfl rfl rfl rfl rfl (kX rfl rfl rfl rfl rfl ?_))))))))))))))))))))))))); clear H a; intro a H
  refine wlu H rfl rfl rfl rfl (by intro b hb; cases hb) rfl ?_; clear H a; intro a H
  refine wlu H rfl rfl rfl rfl (by intro b hb; cases hb) rfl ?_; clear H a; intro a H
  refine wlu H rfl rfl rfl rfl (by intro b hb; cases hb) rfl ?_; clear H a; intro a H
  refine wlu H rfl rfl rfl rfl (by intro b hb; cases hb) rfl ?_; clear H a; intro a H
  refine wlu H rfl rfl rfl rfl (by intro b hb; cases hb) rfl ?_; clear H a; intro a H
  refine wlu H rfl rfl rfl rfl (by intro b hb; cases hb) rfl ?_; clear H a; intro a H
  refine wlu H rfl rfl rfl rfl (by intro b hb; cases hb) rfl ?_; clear H a; intro a H
  refine wlu H rfl rfl rfl rfl (by intro b hb; cases hb) rfl ?_; clear H a; intro a H
  refine wlu H rfl rfl rfl rfl (by intro b hb; cases hb) rfl ?_; clear H a; intro a H
  refine wlu H rfl rfl rfl rfl (by intro b hb; cases hb) rfl ?_; clear H a; intro a H
  refine wlu H rfl rfl rfl rfl (by intro b hb; cases hb) rfl ?_; clear H a; intro a H
  refine wlu H rfl rfl rfl rfl (by intro b hb; cases hb) rfl ?_; clear H a; intro a H
  refine wlu H rfl rfl rfl rfl (by intro b hb; cases hb) rfl ?_; clear H a; intro a H
  refine wlu H rfl rfl rfl rfl (by intro b hb; cases hb) rfl ?_; clear H a; intro a H
  refine wlx H rfl rfl rfl rfl rfl (kL (fun a H => Ez.pkT H rfl rfl) rfl (kA rfl rfl (kP [(0, _), (1, _), (2, _), (3, _), (8, _), (9, _), (10, _), (11, _), (12, _)] rfl (kW (kS (kS (kR [_, _] (kM rfl rfl (kL (fun a H => Ez.not H rfl rfl) rfl (kP [(0, _), (1, _), (2, _), (3, _), (8, _), (9, _), (10, _), (11, _), (58, _)] rfl (kW ?_))))))))))); clear H a; intro a H
  refine wp_cond_false (H.o rfl) (wp_skip (thn (wp_seq (wp_region_lit (l := [_]) (wl H (Ez.asn H rfl) rfl (kP [(0, _), (1, _), (2, _), (3, _), (8, _), (9, _), (10, _), (11, _), (13, _)] rfl (kW (kS (kR [_] (kA rfl rfl (kW (kS (kR [_, _, _, _, _, _, _] (kM rfl rfl ?_)))))))))))))); clear H a; intro a H
  refine wlc H (Ez.inv131R H rfl _) (readByte b 0 s w0 hR (by omega) (by omega)) rfl ?_
  rintro _ w1 ⟨rfl, hR1, hF1⟩
  refine ⟨_, rfl, ?_⟩; clear H a; intro a H
  rw [chr_eq (by omega)] at H
  obtain ⟨wX, rfl⟩ : ∃ wX, wX = w1 := ⟨w1, rfl⟩
  refine wl H (Ez.mv H rfl) rfl (kL (fun a H => Ez.ext0 H rfl) rfl (kL (fun a H => Ez.ext1 H rfl) rfl (kA rfl rfl (kA rfl rfl (kP [(0, _), (1, _), (2, _), (3, _), (8, _), (9, _), (10, _), (11, _), (13, _), (14, _), (15, _)] rfl (kW (kS (kR [_, _, _] (kM rfl rfl (kA rfl rfl (kA rfl rfl (kP [(0, _), (1, _), (2, _), (3, _), (8, _), (9, _), (10, _), (11, _), (13, _), (14, _), (15, _), (16, _)] rfl (kW (kS (kS (kR [_, _] (kM rfl rfl (kL (fun a H => Ez.eql (r := false) H rfl rfl (by simp)) rfl (kP [(0, _), (1, _), (2, _), (3, _), (8, _), (9, _), (10, _), (11, _), (13, _), (14, _), (15, _), (16, _), (67, _)] rfl (kW ?_)))))))))))))))))))); clear H a; intro a H
  refine wp_cond_false (H.o rfl) (wp_skip (thn (wp_seq (wp_region_lit (l := [_, _, _]) (wl H (Ez.mv H rfl) rfl (kL (fun a H => Ez.slH80 H rfl rfl 0 rfl (Nat.zero_le _)) rfl (kA rfl rfl (kP [(0, _), (1, _), (2, _), (3, _), (8, _), (9, _), (10, _), (11, _), (13, _), (14, _), (15, _), (16, _)] rfl (kW (kS (kR [_, _, _] (kM rfl rfl (kL (fun a H => Ez.cv (r := (16 : Int)) H rfl ty3 ty103 (by (decide))) rfl (kA rfl rfl (kP [(0, _), (1, _), (2, _), (3, _), (8, _), (9, _), (10, _), (11, _), (13, _), (14, _), (15, _), (16, _), (17, _)] rfl (kW (kS (kR [_] (kA rfl rfl (kW (kS (kR [_] (kA rfl rfl (kW (kS (kS (kR [_] ?_))))))))))))))))))))))))))); clear H a; intro a H
  refine wl H (Ez.mv H rfl) rfl (kW ?_); clear H a; intro a H
  refine wp_block (wp_seq (wp_region_lit (l := [_, _]) (wl H (Ez.eql (r := false) H rfl rfl (by simp)) rfl (kA rfl rfl (kP [(0, _), (1, _), (2, _), (3, _), (8, _), (9, _), (10, _), (11, _), (13, _), (14, _), (15, _), (16, _), (17, _), (18, _), (19, _), (106, _), (112, _)] rfl (kW ?_)))))); clear H a; intro a H
  refine wp_cond_false (H.o rfl) (wp_seq (wp_region_lit (l := [_, _]) (wl H (Ez.eql (r := false) H rfl rfl (by simp)) rfl (kA rfl rfl (kP [(0, _), (1, _), (2, _), (3, _), (8, _), (9, _), (10, _), (11, _), (13, _), (14, _), (15, _), (16, _), (17, _), (18, _), (19, _), (106, _), (114, _)] rfl (kW ?_)))))); clear H a; intro a H
  refine wp_cond_false (H.o rfl) (wp_seq (wp_region_lit (l := [_, _]) (wl H (Ez.eql (r := true) H rfl rfl (by simp)) rfl (kA rfl rfl (kP [(0, _), (1, _), (2, _), (3, _), (8, _), (9, _), (10, _), (11, _), (13, _), (14, _), (15, _), (16, _), (17, _), (18, _), (19, _), (116, _)] rfl (kW ?_)))))); clear H a; intro a H
  refine wp_cond_true (H.o rfl) (wp_region_lit (l := [_]) (wl H (Ez.asn H rfl) rfl (kP [(0, _), (1, _), (2, _), (3, _), (8, _), (9, _), (10, _), (11, _), (13, _), (14, _), (15, _), (16, _), (17, _), (18, _), (19, _)] rfl ?_))); clear H a; intro a H
  refine wpList_nil ?_
  refine bn (thn (wp_seq (wp_region_lit (l := [_]) (wl H (Ez.asn H rfl) rfl (kW (kS (kR [_] (kA rfl rfl (kW (kS (kR [_] (kA rfl rfl (kW (kS ?_)))))))))))))); clear H a; intro a H
  refine wp_block ?_
  refine wp_loopN (fun mm a w => ∃ (k i : Nat) (ch wd pv : Int) (E : Value) (q : Option Addr) (c : Nat) (X : Nat → Int), mm = 64 - (16 * k + i) ∧ k ≤ 4 ∧ i < 16 ∧ 16 * k + i ≤ 64 ∧ Hd a 274 [] [(0, .slice q k c), (1, .iface 131 (.pointer (some ⟨b, 0, none⟩))), (2, .int .i64 16), (3, .bool false), (9, .int .i64 16), (10, .int .i64 ((16 * k + i : Nat) : Int)), (11, E), (13, .int .i32 pv), (14, .bool false), (15, .int .u8 ch), (16, .int .i64 0), (17, .int .u64 16), (18, .int .u64 0), (19, .int .i64 16), (20, .int .u64 wd), (21, .int .i64 i), (22, .int .i64 (-1))] ∧ Sl w q k c X ∧ (∀ j, j < k → X j = hxv (fun x => D (16 * j + x)) 16) ∧ wd = hxv (fun x => D (16 * k + x)) i ∧ (16 * k + i < 64 → E = .nilIface ∧ ch = chr s (16 * k + i) ∧ Rd w b s (16 * k + i + 1)) ∧ (16 * k + i = 64 → E = v ∧ Rd w b s 64) ∧ pv ≠ 95 ∧ (∀ x j, TQ q x j → w0.heap.size ≤ x) ∧ Fr (Bl b) w0 w) (64) ?_ ?_
  · replace H : Hd a 274 [] [(0, _), (1, _), (2, _), (3, _), (9, _), (10, _), (11, _), (13, _), (14, _), (15, _), (16, _), (17, _), (18, _), (19, _), (20, _), (21, _), (22, _)] := H.pick [0, 1, 2, 3, 9, 10, 11, 13, 14, 15, 16, 17, 18, 19, 20, 21, 22]
    exact ⟨0, 0, _, 0, 46, _, none, 0, fun _ => 0, rfl, by omega, by omega, by omega, H, Sl.nil _ _, fun j hj => by omega, rfl, fun _ => ⟨rfl, rfl, hR1⟩, fun hh => by omega, by decide, fun x j hh => (TQ_none hh).elim, hF1⟩
  clear H a
  intro mm a w hI
  clear hR1 hF1
  obtain ⟨k, i, ch, wd, pv, E, q, c, X, hmm, hk, hi, hki, H, hS, hX, hwd, hlt, heq, hpv, hfr, hF⟩ := hI
  obtain ⟨wL, rfl⟩ : ∃ wL, wL = w := ⟨w, rfl⟩
  refine wp_seq (wp_seq ?_)
  rcases (show 16 * k + i < 64 ∨ 16 * k + i = 64 by omega) with hm | hm
  · obtain ⟨rfl, rfl, hR2⟩ := hlt hm
    obtain ⟨hd0, hd1, hd2⟩ := hD (16 * k + i) hm
    refine wp_region_lit (l := [_, _]) (wl H (Ez.mv H rfl) rfl (kL (fun a H => Ez.eqNI H rfl) rfl (kP [(0, _), (1, _), (2, _), (3, _), (9, _), (10, _), (11, _), (13, _), (14, _), (15, _), (16, _), (17, _), (18, _), (19, _), (20, _), (21, _), (22, _), (119, _)] rfl (kW ?_)))); clear H a; intro a H
    refine wp_cond_true (H.o rfl) (wp_skip (thn (wp_block (wp_seq (wp_seq (wp_region_lit (l := [_, _, _, _, _]) (wl H (Ez.mv H rfl) rfl (kL (fun a H => Ez.eql (r := false) H rfl rfl (by (simp; unfold Hx at hd0; omega))) rfl (kM rfl rfl (kX rfl rfl rfl rfl rfl (kL (fun a H => Ez.pkF H rfl rfl) rfl (kP [(0, _), (1, _), (2, _), (3, _), (9, _), (10, _), (11, _), (13, _), (14, _), (15, _), (16, _), (17, _), (18, _), (19, _), (20, _), (21, _), (22, _), (124, _)] rfl (kW ?_))))))))))))); clear H a; intro a H
    refine wp_cond_false (H.o rfl) (wp_seq (wp_region_lit (l := [_, _, _, _, _, _]) (wl H (Ez.mv H rfl) rfl (kL (fun a H => Ez.eql (r := false) H rfl rfl (by (simp; unfold Hx at hd0; omega))) rfl (kM rfl rfl (kX rfl rfl rfl rfl rfl (kX rfl rfl rfl rfl rfl (kL (fun a H => Ez.pkF H rfl rfl) rfl (kP [(0, _), (1, _), (2, _), (3, _), (9, _), (10, _), (11, _), (13, _), (14, _), (15, _), (16, _), (17, _), (18, _), (19, _), (20, _), (21, _), (22, _), (133, _)] rfl (kW ?_)))))))))); clear H a; intro a H
    refine wp_cond_false (H.o rfl) (wp_seq (wp_region_lit (l := [_]) (wl H (Ez.asn H rfl) rfl (kP [(0, _), (1, _), (2, _), (3, _), (9, _), (10, _), (11, _), (13, _), (14, _), (15, _), (16, _), (17, _), (18, _), (19, _), (20, _), (21, _), (22, _), (23, _)] rfl (kW ?_))))); clear H a; intro a H
    refine wp_cut (fun a w => Hd a 274 [] [(0, .slice q k c), (1, .iface 131 (.pointer (some ⟨b, 0, none⟩))), (2, .int .i64 16), (3, .bool false), (9, .int .i64 16), (10, .int .i64 ((16 * k + i : Nat) : Int)), (11, .nilIface), (14, .bool false), (16, .int .i64 0), (17, .int .u64 16), (18, .int .u64 0), (19, .int .i64 16), (20, .int .u64 wd), (21, .int .i64 i), (22, .int .i64 (-1)), (23, .int .u64 (D (16 * k + i)))] ∧ wL = w) ?_ ?_
    · refine wp_block (wp_seq ?_)
      rcases hd0 with ⟨c1, c2, c3⟩ | ⟨c1, c2, c3⟩
      · refine wp_region_lit (l := [_, _, _, _, _, _, _]) (wl H (Ez.mv H rfl) rfl (kL (fun a H => Ez.leq (r := true) H rfl rfl (by (simp; omega))) rfl (kM rfl rfl (kG (fun a H => Ez.mv H rfl) rfl rfl rfl rfl rfl (kG (fun a H => Ez.leq (r := true) H rfl rfl (by (simp; omega))) rfl rfl rfl rfl rfl (kL (fun a H => Ez.pkT H rfl rfl) rfl (kA rfl rfl (kP [(0, _), (1, _), (2, _), (3, _), (9, _), (10, _), (11, _), (13, _), (14, _), (15, _), (16, _), (17, _), (18, _), (19, _), (20, _), (21, _), (22, _), (23, _), (136, _)] rfl (kW ?_))))))))); clear H a; intro a H
        refine wp_cond_true (H.o rfl) (wp_region_lit (l := [_, _, _, _]) (wl H (Ez.mv H rfl) rfl (kL (fun a H => Ez.subU8 (r := (D (16 * k + i))) H rfl rfl (by (omega))) rfl (kL (fun a H => Ez.cv (r := (D (16 * k + i))) H rfl ty5 ty103 (by (rw [IntKind.wrap_u64]; omega))) rfl (kA rfl rfl (kP [(0, _), (1, _), (2, _), (3, _), (9, _), (10, _), (11, _), (13, _), (14, _), (15, _), (16, _), (17, _), (18, _), (19, _), (20, _), (21, _), (22, _), (23, _)] rfl ?_)))))); clear H a; intro a H
        refine wpList_nil ?_
        refine bn (thn ?_)
        replace H : Hd a 274 [] [(0, _), (1, _), (2, _), (3, _), (9, _), (10, _), (11, _), (14, _), (16, _), (17, _), (18, _), (19, _), (20, _), (21, _), (22, _), (23, _)] := H.pick [0, 1, 2, 3, 9, 10, 11, 14, 16, 17, 18, 19, 20, 21, 22, 23]
        exact ⟨H, rfl⟩
      refine wp_region_lit (l := [_, _, _, _, _, _, _]) (wl H (Ez.mv H rfl) rfl (kL (fun a H => Ez.leq (r := true) H rfl rfl (by (simp; omega))) rfl (kM rfl rfl (kG (fun a H => Ez.mv H rfl) rfl rfl rfl rfl rfl (kG (fun a H => Ez.leq (r := false) H rfl rfl (by (simp; omega))) rfl rfl rfl rfl rfl (kL (fun a H => Ez.pkT H rfl rfl) rfl (kA rfl rfl (kP [(0, _), (1, _), (2, _), (3, _), (9, _), (10, _), (11, _), (13, _), (14, _), (15, _), (16, _), (17, _), (18, _), (19, _), (20, _), (21, _), (22, _), (23, _), (136, _)] rfl (kW ?_))))))))); clear H a; intro a H
      refine wp_cond_false (H.o rfl) (wp_seq (wp_region_lit (l := [_, _, _, _, _, _, _]) (wl H (Ez.mv H rfl) rfl (kL (fun a H => Ez.leq (r := true) H rfl rfl (by (simp; omega))) rfl (kM rfl rfl (kG (fun a H => Ez.mv H rfl) rfl rfl rfl rfl rfl (kG (fun a H => Ez.leq (r := true) H rfl rfl (by (simp; omega))) rfl rfl rfl rfl rfl (kL (fun a H => Ez.pkT H rfl rfl) rfl (kA rfl rfl (kP [(0, _), (1, _), (2, _), (3, _), (9, _), (10, _), (11, _), (13, _), (14, _), (15, _), (16, _), (17, _), (18, _), (19, _), (20, _), (21, _), (22, _), (23, _), (146, _)] rfl (kW ?_))))))))))); clear H a; intro a H
      refine wp_cond_true (H.o rfl) (wp_region_lit (l := [_, _, _, _, _]) (wl H (Ez.mv H rfl) rfl (kL (fun a H => Ez.subU8 (r := (chr s (16 * k + i) - 97)) H rfl rfl (by (omega))) rfl (kL (fun a H => Ez.addU8 (r := (D (16 * k + i))) H rfl rfl (by (omega))) rfl (kL (fun a H => Ez.cv (r := (D (16 * k + i))) H rfl ty5 ty103 (by (rw [IntKind.wrap_u64]; omega))) rfl (kA rfl rfl (kP [(0, _), (1, _), (2, _), (3, _), (9, _), (10, _), (11, _), (13, _), (14, _), (15, _), (16, _), (17, _), (18, _), (19, _), (20, _), (21, _), (22, _), (23, _)] rfl ?_))))))); clear H a; intro a H
      refine wpList_nil ?_
      refine bn (thn ?_)
      replace H : Hd a 274 [] [(0, _), (1, _), (2, _), (3, _), (9, _), (10, _), (11, _), (14, _), (16, _), (17, _), (18, _), (19, _), (20, _), (21, _), (22, _), (23, _)] := H.pick [0, 1, 2, 3, 9, 10, 11, 14, 16, 17, 18, 19, 20, 21, 22, 23]
      exact ⟨H, rfl⟩
    clear H a
    intro a w hJ
    obtain ⟨H, rfl⟩ := hJ
    refine wp_seq (wp_seq (wp_region_lit (l := [_, _, _]) (wl H (Ez.mv H rfl) rfl (kM rfl rfl (kL (fun a H => Ez.geq (r := false) H rfl rfl (by (simp; omega))) rfl (kP [(0, _), (1, _), (2, _), (3, _), (9, _), (10, _), (11, _), (14, _), (16, _), (17, _), (18, _), (19, _), (20, _), (21, _), (22, _), (23, _), (176, _)] rfl (kW ?_))))))); clear H a; intro a H
    refine wp_cond_false (H.o rfl) (wp_skip (thn (wp_seq (wp_region_lit (l := [_]) (wl H (Ez.asn H rfl) rfl (kP [(0, _), (1, _), (2, _), (3, _), (9, _), (10, _), (11, _), (13, _), (14, _), (16, _), (17, _), (18, _), (19, _), (20, _), (21, _), (22, _), (23, _)] rfl (kW (kS (kR [_, _, _] (kM rfl rfl (kL (fun a H => Ez.addI (r := ((16 * k + i + 1 : Nat) : Int)) H rfl rfl (by omega) (by omega)) rfl (kA rfl rfl (kP [(0, _), (1, _), (2, _), (3, _), (9, _), (10, _), (11, _), (13, _), (14, _), (16, _), (17, _), (18, _), (19, _), (20, _), (21, _), (22, _), (23, _)] rfl (kW (kS ?_))))))))))))))); clear H a; intro a H
    have hb1 := hxv_bound (D := fun x => D (16 * k + x)) i (fun j hj => ⟨(hD (16 * k + j) (by omega)).2.1, (hD (16 * k + j) (by omega)).2.2⟩)
    rw [← hwd] at hb1
    have hp16' : ∀ i, i < 16 → (16 : Int) ^ i ≤ 1152921504606846976 := by decide
    have hp16 := hp16' i hi
    have hwd2 : wd * 16 + D (16 * k + i) = hxv (fun x => D (16 * k + x)) (i + 1) := by rw [hwd]; rfl
    refine wp_region_lit (l := [_, _, _, _, _, _]) (wl H (Ez.mv H rfl) rfl (kM rfl rfl (kL (fun a H => Ez.mulU (r := (wd * 16)) H rfl rfl (by (omega))) rfl (kM rfl rfl (kL (fun a H => Ez.addU (r := (wd * 16 + D (16 * k + i))) H rfl rfl (by (omega))) rfl (kA rfl rfl (kP [(0, _), (1, _), (2, _), (3, _), (9, _), (10, _), (11, _), (13, _), (14, _), (16, _), (17, _), (18, _), (19, _), (20, _), (21, _), (22, _)] rfl (kW (kS (kR [_, _, _] (kM rfl rfl (kL (fun a H => Ez.addI (r := ((i + 1 : Nat) : Int)) H rfl rfl (by omega) (by omega)) rfl (kA rfl rfl (kP [(0, _), (1, _), (2, _), (3, _), (9, _), (10, _), (11, _), (13, _), (14, _), (16, _), (17, _), (18, _), (19, _), (20, _), (21, _), (22, _)] rfl (kW (kS (kR [_, _, _] (kM rfl rfl (kM rfl rfl (kL (fun a H => Ez.eql H rfl rfl (rfl)) rfl (kP [(0, _), (1, _), (2, _), (3, _), (9, _), (10, _), (11, _), (13, _), (14, _), (16, _), (17, _), (18, _), (19, _), (20, _), (21, _), (22, _), (190, _)] rfl (kW ?_)))))))))))))))))))))); clear H a; intro a H
    refine wp_cond_split (H.o rfl) (fun hb26 => ?_) (fun hb26 => ?_)
    · have hi16 : i = 15 := by have := of_decide_eq_true hb26; omega
      refine wp_seq (wp_seq (wp_region_lit (l := [_, _]) (wl H (Ez.mv H rfl) rfl (kL (fun a H => Ez.eql (r := true) H rfl rfl (by simp)) rfl (kP [(0, _), (1, _), (2, _), (3, _), (9, _), (10, _), (11, _), (13, _), (14, _), (16, _), (17, _), (18, _), (19, _), (20, _), (21, _), (22, _), (192, _)] rfl (kW ?_)))))); clear H a; intro a H
      refine wp_cond_true (H.o rfl) (wp_region_lit (l := [_, _, _, _, _]) (wl H (Ez.mv H rfl) rfl (kM rfl rfl (kL (fun a H => Ez.bs80 H rfl) rfl ?_)))); clear H a; intro a H
      have hW1 := Wk.one wL (v := wd * 16 + D (16 * k + i)) ⟨by omega, by omega⟩
      have hFa : Fr NoT wL (wL.alloc (.cells #[.int .u64 (wd * 16 + D (16 * k + i))] 103)) := (Fr.refl NoT wL).alloc _
      have hsz1 : wL.heap.size ≤ (wL.alloc (.cells #[.int .u64 (wd * 16 + D (16 * k + i))] 103)).heap.size := hFa.size
      obtain ⟨ba, hba⟩ : ∃ ba, ba = wL.heap.size := ⟨_, rfl⟩
      rw [← hba] at H hW1
      have hS1 := hS.frN hFa
      generalize wL.alloc (.cells #[.int .u64 (wd * 16 + D (16 * k + i))] 103) = wA at hW1 hFa hS1
      obtain ⟨wB, q2, c2, X2, eA, hS2, hXl, hXn, hO2, hFb⟩ := Ez.apW (x := .tmp 193) (y := .tmp 195) (d := some 196) (ty := 80) (pos := _) (after := _) (g := none) H rfl rfl hS1 (by omega) hW1
      refine wl H (eA) rfl ?_; clear eA H a; intro a H
      refine wl H (Ez.asn H rfl) rfl (kP [(0, _), (1, _), (2, _), (3, _), (9, _), (10, _), (11, _), (13, _), (14, _), (16, _), (17, _), (18, _), (19, _), (20, _), (21, _), (22, _)] rfl (kW ?_)); clear H a; intro a H
      have hfr2 : ∀ x j, TQ q2 x j → w0.heap.size ≤ x := fun x j hh => by
        rcases hO2 x j hh with h' | h'
        · exact hfr x j h'
        exact Nat.le_trans hF.size (Nat.le_trans hFa.size h')
      have hFc : Fr (Bl b) w0 wB := (hF.trans hFa.noT).hi (hFb.mono fun x j hx hh => hfr x j hh)
      have hRB := (hR2.fr hFa (fun _ f => f)).fr hFb (fun o hh => by have h1 := hfr b o hh; exact absurd hbl (Nat.not_lt.2 h1))
      have hX2 : ∀ j, j < k + 1 → X2 j = hxv (fun x => D (16 * j + x)) 16 := fun j hj => by
        by_cases e : j = k
        · subst e; rw [hXn, hwd2, hi16]
        rw [hXl j (by omega)]; exact hX j (by omega)
      refine wp_seq (wp_region_lit (l := [_]) (wl H (Ez.asn H rfl) rfl (kW (kR [_] (kA rfl rfl (kW ?_)))))); clear H a; intro a H
      rcases (show 16 * k + i + 1 < 64 ∨ 16 * k + i + 1 = 64 by omega) with hm2 | hm2
      · refine wp_region_lit (l := [_, _, _, _, _, _, _]) (wl H (Ez.mv H rfl) rfl ?_); clear H a; intro a H
        refine wlc H (Ez.inv131R H rfl _) (readByte b (16 * k + i + 1) s _ (by first | exact hRB | exact hR2) (by omega) (by omega)) rfl ?_
        rintro _ w1 ⟨rfl, hR3, hFd⟩
        refine ⟨_, rfl, ?_⟩; clear H a; intro a H
        rw [chr_eq (by omega)] at H
        refine wl H (Ez.mv H rfl) rfl (kL (fun a H => Ez.ext0 H rfl) rfl (kL (fun a H => Ez.ext1 H rfl) rfl (kA rfl rfl (kA rfl rfl (kP [(0, _), (1, _), (2, _), (3, _), (9, _), (10, _), (11, _), (13, _), (14, _), (15, _), (16, _), (17, _), (18, _), (19, _), (20, _), (21, _), (22, _)] rfl ?_))))); clear H a; intro a H
        refine wpList_nil ?_
        first
          | (have hF3 := hFc.trans hFd
             have hS3 := hS2.fr hFd (fun x j o hh e => by have h1 := hfr2 x j hh; have : x = b := e; rw [this] at h1; exact absurd hbl (Nat.not_lt.2 h1))
             have em : 16 * k + i + 1 = 16 * (k + 1) + 0 := by omega
             rw [em] at H hR3)
          | (have hF3 := hF.trans hFd
             have hS3 := hS.fr hFd (fun x j o hh e => by have h1 := hfr x j hh; have : x = b := e; rw [this] at h1; exact absurd hbl (Nat.not_lt.2 h1))
             have em : 16 * k + i + 1 = 16 * k + (i + 1) := by omega
             rw [em] at H hR3)
        refine bn (thn ?_)
        replace H : Hd a 274 [] [(0, _), (1, _), (2, _), (3, _), (9, _), (10, _), (11, _), (13, _), (14, _), (15, _), (16, _), (17, _), (18, _), (19, _), (20, _), (21, _), (22, _)] := H.pick [0, 1, 2, 3, 9, 10, 11, 13, 14, 15, 16, 17, 18, 19, 20, 21, 22]
        first
          | exact ⟨64 - (16 * (k + 1) + 0), by omega, k + 1, 0, _, 0, 48, _, q2, c2, X2, rfl, by omega, by omega, by omega, H, hS3, hX2, rfl, fun hh => ⟨rfl, rfl, hR3⟩, fun hh => by omega, by decide, hfr2, hF3⟩
          | exact ⟨64 - (16 * (k + 1) + 0), by omega, k + 1, 0, _, 0, 48, _, q2, c2, X2, rfl, by omega, by omega, by omega, H, hS3, hX2, rfl, fun hh => by omega, fun hh => ⟨rfl, by rw [← hh]; exact hR3⟩, by decide, hfr2, hF3⟩
          | exact ⟨64 - (16 * k + (i + 1)), by omega, k, i + 1, _, _, 48, _, q, c, X, rfl, by omega, by omega, by omega, H, hS3, hX, hwd2, fun hh => ⟨rfl, rfl, hR3⟩, fun hh => by omega, by decide, hfr, hF3⟩
          | exact ⟨64 - (16 * k + (i + 1)), by omega, k, i + 1, _, _, 48, _, q, c, X, rfl, by omega, by omega, by omega, H, hS3, hX, hwd2, fun hh => by omega, fun hh => ⟨rfl, by rw [← hh]; exact hR3⟩, by decide, hfr, hF3⟩
      refine wp_region_lit (l := [_, _, _, _, _, _, _]) (wl H (Ez.mv H rfl) rfl ?_); clear H a; intro a H
      refine wlc H (Ez.inv131R H rfl _) (readEOF b (16 * k + i + 1) s v _ (by first | exact hRB | exact hR2) (by omega) (by omega) (by first | exact (hFc.someCell he (fun e => hb (Eq.symm e))) | exact (hF.someCell he (fun e => hb (Eq.symm e)))) hb) rfl ?_
      rintro _ w1 ⟨rfl, hR3, hFd⟩
      refine ⟨_, rfl, ?_⟩; clear H a; intro a H
      refine wl H (Ez.mv H rfl) rfl (kL (fun a H => Ez.ext0 H rfl) rfl (kL (fun a H => Ez.ext1 H rfl) rfl (kA rfl rfl (kA rfl rfl (kP [(0, _), (1, _), (2, _), (3, _), (9, _), (10, _), (11, _), (13, _), (14, _), (15, _), (16, _), (17, _), (18, _), (19, _), (20, _), (21, _), (22, _)] rfl ?_))))); clear H a; intro a H
      refine wpList_nil ?_
      first
        | (have hF3 := hFc.trans hFd
           have hS3 := hS2.fr hFd (fun x j o hh e => by have h1 := hfr2 x j hh; have : x = b := e; rw [this] at h1; exact absurd hbl (Nat.not_lt.2 h1))
           have em : 16 * k + i + 1 = 16 * (k + 1) + 0 := by omega
           rw [em] at H hR3)
        | (have hF3 := hF.trans hFd
           have hS3 := hS.fr hFd (fun x j o hh e => by have h1 := hfr x j hh; have : x = b := e; rw [this] at h1; exact absurd hbl (Nat.not_lt.2 h1))
           have em : 16 * k + i + 1 = 16 * k + (i + 1) := by omega
           rw [em] at H hR3)
      refine bn (thn ?_)
      replace H : Hd a 274 [] [(0, _), (1, _), (2, _), (3, _), (9, _), (10, _), (11, _), (13, _), (14, _), (15, _), (16, _), (17, _), (18, _), (19, _), (20, _), (21, _), (22, _)] := H.pick [0, 1, 2, 3, 9, 10, 11, 13, 14, 15, 16, 17, 18, 19, 20, 21, 22]
      first
        | exact ⟨64 - (16 * (k + 1) + 0), by omega, k + 1, 0, _, 0, 48, _, q2, c2, X2, rfl, by omega, by omega, by omega, H, hS3, hX2, rfl, fun hh => ⟨rfl, rfl, hR3⟩, fun hh => by omega, by decide, hfr2, hF3⟩
        | exact ⟨64 - (16 * (k + 1) + 0), by omega, k + 1, 0, _, 0, 48, _, q2, c2, X2, rfl, by omega, by omega, by omega, H, hS3, hX2, rfl, fun hh => by omega, fun hh => ⟨rfl, by rw [← hh]; exact hR3⟩, by decide, hfr2, hF3⟩
        | exact ⟨64 - (16 * k + (i + 1)), by omega, k, i + 1, _, _, 48, _, q, c, X, rfl, by omega, by omega, by omega, H, hS3, hX, hwd2, fun hh => ⟨rfl, rfl, hR3⟩, fun hh => by omega, by decide, hfr, hF3⟩
        | exact ⟨64 - (16 * k + (i + 1)), by omega, k, i + 1, _, _, 48, _, q, c, X, rfl, by omega, by omega, by omega, H, hS3, hX, hwd2, fun hh => by omega, fun hh => ⟨rfl, by rw [← hh]; exact hR3⟩, by decide, hfr, hF3⟩
    have hi16 : i + 1 < 16 := by have := of_decide_eq_false hb26; omega
    refine wp_skip (thn ?_)
    rcases (show 16 * k + i + 1 < 64 ∨ 16 * k + i + 1 = 64 by omega) with hm2 | hm2
    · refine wp_region_lit (l := [_, _, _, _, _, _, _]) (wl H (Ez.mv H rfl) rfl ?_); clear H a; intro a H
      refine wlc H (Ez.inv131R H rfl _) (readByte b (16 * k + i + 1) s _ (by first | exact hRB | exact hR2) (by omega) (by omega)) rfl ?_
      rintro _ w1 ⟨rfl, hR3, hFd⟩
      refine ⟨_, rfl, ?_⟩; clear H a; intro a H
      rw [chr_eq (by omega)] at H
      refine wl H (Ez.mv H rfl) rfl (kL (fun a H => Ez.ext0 H rfl) rfl (kL (fun a H => Ez.ext1 H rfl) rfl (kA rfl rfl (kA rfl rfl (kP [(0, _), (1, _), (2, _), (3, _), (9, _), (10, _), (11, _), (13, _), (14, _), (15, _), (16, _), (17, _), (18, _), (19, _), (20, _), (21, _), (22, _)] rfl ?_))))); clear H a; intro a H
      refine wpList_nil ?_
      first
        | (have hF3 := hFc.trans hFd
           have hS3 := hS2.fr hFd (fun x j o hh e => by have h1 := hfr2 x j hh; have : x = b := e; rw [this] at h1; exact absurd hbl (Nat.not_lt.2 h1))
           have em : 16 * k + i + 1 = 16 * (k + 1) + 0 := by omega
           rw [em] at H hR3)
        | (have hF3 := hF.trans hFd
           have hS3 := hS.fr hFd (fun x j o hh e => by have h1 := hfr x j hh; have : x = b := e; rw [this] at h1; exact absurd hbl (Nat.not_lt.2 h1))
           have em : 16 * k + i + 1 = 16 * k + (i + 1) := by omega
           rw [em] at H hR3)
      refine bn (thn ?_)
      replace H : Hd a 274 [] [(0, _), (1, _), (2, _), (3, _), (9, _), (10, _), (11, _), (13, _), (14, _), (15, _), (16, _), (17, _), (18, _), (19, _), (20, _), (21, _), (22, _)] := H.pick [0, 1, 2, 3, 9, 10, 11, 13, 14, 15, 16, 17, 18, 19, 20, 21, 22]
      first
        | exact ⟨64 - (16 * (k + 1) + 0), by omega, k + 1, 0, _, 0, 48, _, q2, c2, X2, rfl, by omega, by omega, by omega, H, hS3, hX2, rfl, fun hh => ⟨rfl, rfl, hR3⟩, fun hh => by omega, by decide, hfr2, hF3⟩
        | exact ⟨64 - (16 * (k + 1) + 0), by omega, k + 1, 0, _, 0, 48, _, q2, c2, X2, rfl, by omega, by omega, by omega, H, hS3, hX2, rfl, fun hh => by omega, fun hh => ⟨rfl, by rw [← hh]; exact hR3⟩, by decide, hfr2, hF3⟩
        | exact ⟨64 - (16 * k + (i + 1)), by omega, k, i + 1, _, _, 48, _, q, c, X, rfl, by omega, by omega, by omega, H, hS3, hX, hwd2, fun hh => ⟨rfl, rfl, hR3⟩, fun hh => by omega, by decide, hfr, hF3⟩
        | exact ⟨64 - (16 * k + (i + 1)), by omega, k, i + 1, _, _, 48, _, q, c, X, rfl, by omega, by omega, by omega, H, hS3, hX, hwd2, fun hh => by omega, fun hh => ⟨rfl, by rw [← hh]; exact hR3⟩, by decide, hfr, hF3⟩
    refine wp_region_lit (l := [_, _, _, _, _, _, _]) (wl H (Ez.mv H rfl) rfl ?_); clear H a; intro a H
    refine wlc H (Ez.inv131R H rfl _) (readEOF b (16 * k + i + 1) s v _ (by first | exact hRB | exact hR2) (by omega) (by omega) (by first | exact (hFc.someCell he (fun e => hb (Eq.symm e))) | exact (hF.someCell he (fun e => hb (Eq.symm e)))) hb) rfl ?_
    rintro _ w1 ⟨rfl, hR3, hFd⟩
    refine ⟨_, rfl, ?_⟩; clear H a; intro a H
    refine wl H (Ez.mv H rfl) rfl (kL (fun a H => Ez.ext0 H rfl) rfl (kL (fun a H => Ez.ext1 H rfl) rfl (kA rfl rfl (kA rfl rfl (kP [(0, _), (1, _), (2, _), (3, _), (9, _), (10, _), (11, _), (13, _), (14, _), (15, _), (16, _), (17, _), (18, _), (19, _), (20, _), (21, _), (22, _)] rfl ?_))))); clear H a; intro a H
    refine wpList_nil ?_
    first
      | (have hF3 := hFc.trans hFd
         have hS3 := hS2.fr hFd (fun x j o hh e => by have h1 := hfr2 x j hh; have : x = b := e; rw [this] at h1; exact absurd hbl (Nat.not_lt.2 h1))
         have em : 16 * k + i + 1 = 16 * (k + 1) + 0 := by omega
         rw [em] at H hR3)
      | (have hF3 := hF.trans hFd
         have hS3 := hS.fr hFd (fun x j o hh e => by have h1 := hfr x j hh; have : x = b := e; rw [this] at h1; exact absurd hbl (Nat.not_lt.2 h1))
         have em : 16 * k + i + 1 = 16 * k + (i + 1) := by omega
         rw [em] at H hR3)
    refine bn (thn ?_)
    replace H : Hd a 274 [] [(0, _), (1, _), (2, _), (3, _), (9, _), (10, _), (11, _), (13, _), (14, _), (15, _), (16, _), (17, _), (18, _), (19, _), (20, _), (21, _), (22, _)] := H.pick [0, 1, 2, 3, 9, 10, 11, 13, 14, 15, 16, 17, 18, 19, 20, 21, 22]
    first
      | exact ⟨64 - (16 * (k + 1) + 0), by omega, k + 1, 0, _, 0, 48, _, q2, c2, X2, rfl, by omega, by omega, by omega, H, hS3, hX2, rfl, fun hh => ⟨rfl, rfl, hR3⟩, fun hh => by omega, by decide, hfr2, hF3⟩
      | exact ⟨64 - (16 * (k + 1) + 0), by omega, k + 1, 0, _, 0, 48, _, q2, c2, X2, rfl, by omega, by omega, by omega, H, hS3, hX2, rfl, fun hh => by omega, fun hh => ⟨rfl, by rw [← hh]; exact hR3⟩, by decide, hfr2, hF3⟩
      | exact ⟨64 - (16 * k + (i + 1)), by omega, k, i + 1, _, _, 48, _, q, c, X, rfl, by omega, by omega, by omega, H, hS3, hX, hwd2, fun hh => ⟨rfl, rfl, hR3⟩, fun hh => by omega, by decide, hfr, hF3⟩
      | exact ⟨64 - (16 * k + (i + 1)), by omega, k, i + 1, _, _, 48, _, q, c, X, rfl, by omega, by omega, by omega, H, hS3, hX, hwd2, fun hh => by omega, fun hh => ⟨rfl, by rw [← hh]; exact hR3⟩, by decide, hfr, hF3⟩
  obtain ⟨rfl, hRe⟩ := heq hm
  have hk4 : k = 4 := by omega
  have hi0 : i = 0 := by omega
  subst hk4
  subst hi0
  obtain ⟨et, eu, hev⟩ := hE.i
  refine wp_region_lit (l := [_, _]) (wl H (Ez.mv H rfl) rfl (kL (fun a H => Ez.eqSI H (by rw [← hev]; rfl) rfl) rfl (kP [(0, _), (1, _), (2, _), (3, _), (9, _), (10, _), (11, _), (13, _), (14, _), (15, _), (16, _), (17, _), (18, _), (19, _), (20, _), (21, _), (22, _), (119, _)] rfl (kW ?_)))); clear H a; intro a H
  refine wp_cond_false (H.o rfl) (wp_exit (thx (thx (bxe (thn (wp_seq (wp_seq (wp_region_lit (l := [_, _, _]) (wl H (Ez.mv H rfl) rfl (kL (fun a H => Ez.ld146 H rfl (hF.someCell he (fun e => hb (Eq.symm e)))) rfl (kL (fun a H => hE.e _ _ _ _ _ _ _ _ _ _ _ _ _ H rfl rfl) rfl (kP [(0, _), (9, _), (10, _), (11, _), (13, _), (14, _), (16, _), (17, _), (18, _), (19, _), (20, _), (21, _), (22, _), (209, _)] rfl (kW ?_))))))))))))); clear H a; intro a H
  refine wp_cond_true (H.o rfl) (wp_region_lit (l := [_]) (wl H (Ez.asn H rfl) rfl (kP [(0, _), (9, _), (10, _), (11, _), (13, _), (14, _), (16, _), (17, _), (18, _), (19, _), (20, _), (21, _), (22, _)] rfl (kW (kS (kS (kR [_, _, _, _, _, _, _, _, _] (kM rfl rfl (kL (fun a H => Ez.eqNI H rfl) rfl (kM rfl rfl (kG (fun a H => Ez.mv H rfl) rfl rfl rfl rfl rfl (kG (fun a H => Ez.mv H rfl) rfl rfl rfl rfl rfl (kG (fun a H => Ez.mv H rfl) rfl rfl rfl rfl rfl (kG (fun a H => Ez.eql (r := false) H rfl rfl (by (simp; exact hpv))) rfl rfl rfl rfl rfl (kG (fun a H => Ez.pkF H rfl rfl) rfl rfl rfl rfl rfl (kL (fun a H => Ez.pkT H rfl rfl) rfl (kP [(0, _), (9, _), (10, _), (11, _), (16, _), (17, _), (18, _), (19, _), (20, _), (21, _), (22, _), (218, _)] rfl (kW ?_)))))))))))))))))); clear H a; intro a H
  refine wp_cond_false (H.o rfl) (wp_skip (thn (wp_seq (wp_seq (wp_region_lit (l := [_, _]) (wl H (Ez.mv H rfl) rfl (kL (fun a H => Ez.eql (r := false) H rfl rfl (by simp)) rfl (kP [(0, _), (9, _), (10, _), (11, _), (16, _), (17, _), (18, _), (19, _), (20, _), (21, _), (22, _), (221, _)] rfl (kW ?_))))))))); clear H a; intro a H
  refine wp_cond_false (H.o rfl) (wp_skip (thn (wp_seq (wp_seq (wp_region_lit (l := [_, _]) (wl H (Ez.mv H rfl) rfl (kL (fun a H => Ez.eql (r := true) H rfl rfl (by simp)) rfl (kP [(0, _), (9, _), (10, _), (11, _), (17, _), (19, _), (20, _), (21, _), (22, _), (229, _)] rfl (kW ?_))))))))); clear H a; intro a H
  refine wp_cond_true (H.o rfl) (wp_seq (wp_seq (wp_region_lit (l := [_, _]) (wl H (Ez.mv H rfl) rfl (kL (fun a H => Ez.gtr (r := false) H rfl rfl (by (simp))) rfl (kP [(0, _), (9, _), (10, _), (11, _), (17, _), (19, _), (20, _), (21, _), (22, _), (231, _)] rfl (kW ?_))))))); clear H a; intro a H
  refine wp_cond_false (H.o rfl) (wp_skip (thn (wp_seq ?_)))
  obtain ⟨bz, rfl, _, hWz⟩ := hS.blk (by have := hS.le; omega)
  have hle := hS.le
  refine wp_region_lit (l := [_, _]) (wl H (Ez.mv H rfl) rfl ?_); clear H a; intro a H
  refine wk H cf166 (reverse bz 4 c X wL hWz hle (by omega) (by omega)) rfl rfl ?_
  rintro _ w1 ⟨X3, rfl, hW3, hX3, hF3⟩
  refine ⟨_, rfl, ?_⟩; clear H a; intro a H
  refine kP [(0, _), (9, _), (10, _), (11, _), (19, _), (21, _), (22, _)] rfl (kW (kS (kR [_, _, _] (kM rfl rfl ?_)))) a H; clear H a; intro a H
  refine wk H cf84 (natNorm _ 4 c X3 w1 (Sl.of hW3 hle (by omega)) (by omega)) rfl rfl ?_
  rintro _ w1 ⟨j, rfl, k1, k2, k3, k4, rfl⟩
  refine ⟨_, rfl, ?_⟩; clear H a; intro a H
  refine wl H (Ez.asn H rfl) rfl (kP [(0, _), (9, _), (10, _), (11, _), (19, _), (21, _), (22, _)] rfl (kW (kS (kR [_, _] (kM rfl rfl (kL (fun a H => Ez.gtr (r := false) H rfl rfl (by simp)) rfl (kP [(0, _), (9, _), (10, _), (11, _), (19, _), (21, _), (22, _), (247, _)] rfl (kW ?_)))))))); clear H a; intro a H
  refine wp_cond_false (H.o rfl) (wp_skip (thn (wp_seq (wp_region_lit (l := [_, _]) (wl H (Ez.mv H rfl) rfl (kA rfl rfl (kP [(8, _), (9, _), (10, _), (11, _), (22, _)] rfl (kW (kS (kS (kR [_, _] (kM rfl rfl (kL (fun a H => Ez.geq (r := false) H rfl rfl (by (simp))) rfl (kP [(8, _), (9, _), (10, _), (11, _), (22, _), (270, _)] rfl (kW ?_))))))))))))))); clear H a; intro a H
  refine wp_cond_false (H.o rfl) (wp_skip (thn (wp_ret ?_)))
  refine rt4 H rfl rfl rfl rfl rfl ?_
  refine ⟨_, j, c, X3, rfl, k2, k1, ?_, k4, hfr, hRe.fr hF3 (fun o e => by have h1 := hfr bz 0 (TQ_some.2 rfl); have e : b = bz := e; omega), hF.hi (hF3.mono fun x o _ e => hfr x 0 (TQ_some.2 e))⟩
  have g0 : X3 0 = X 3 := hX3 0 (by omega)
  have g1 : X3 1 = X 2 := hX3 1 (by omega)
  have g2 : X3 2 = X 1 := hX3 2 (by omega)
  have g3 : X3 3 = X 0 := hX3 3 (by omega)
  rw [k3, four, g0, g1, g2, g3, hX 0 (by omega), hX 1 (by omega), hX 2 (by omega), hX 3 (by omega)]
  have e1 : hxv D 64 = hxv D 48 * BB + hxv (fun x => D (16 * 3 + x)) 16 := hxv_add D 48 16
  have e2 : hxv D 48 = hxv D 32 * BB + hxv (fun x => D (16 * 2 + x)) 16 := hxv_add D 32 16
  have e3 : hxv D 32 = hxv D 16 * BB + hxv (fun x => D (16 * 1 + x)) 16 := hxv_add D 16 16
  have e0 : hxv (fun x => D (16 * 0 + x)) 16 = hxv D 16 := by congr 1; funext x; congr 1; omega
  rw [e1, e2, e3, e0]
  grind
end
section
set_option maxRecDepth 8000
theorem intScan (z b : Nat) (s : ByteArray) (v : Value) (D : Nat → Int) (w : World) (hsz : s.size = 64) (hD : ∀ j, j < 64 → Hx (chr s j) (D j) ∧ 0 ≤ D j ∧ D j < 16) (hz : Ib w z r0) (hR : Rd w b s 0) (he : w.cell? ⟨0, 0, none⟩ = some v) (hE : Eof v) (hb : b ≠ 0) (hz0 : z ≠ 0) (hzb : z ≠ b) :
    Calls Tryz.prog 127 #[.pointer (some ⟨z, 0, none⟩), .iface 131 (.pointer (some ⟨b, 0, none⟩)), .int .i64 16] w fun e w' => ∃ r, e = .returned (.tuple #[.pointer (some ⟨z, 0, none⟩), .int .i64 16, .nilIface]) ∧ Ib w' z r ∧ nv r.X r.n = hxv D 64 ∧ r.s = false ∧ r.n ≤ 4 ∧ (∀ x j, TQ r.q x j → w.heap.size ≤ x) ∧ Rd w' b s 64 ∧ Fr (D3 z b b) w w' := by
  refine enterE (vs := [.pointer (some ⟨z, 0, none⟩), .iface 131 (.pointer (some ⟨b, 0, none⟩)), .int .i64 16]) Tryz.func127 rfl rfl ?_
  intro a H
  replace H : Hd a 52 [] [(0, .pointer (some ⟨z, 0, none⟩)), (1, .iface 131 (.pointer (some ⟨b, 0, none⟩))), (2, .int .i64 16)] := H
  refine wp_seq (wp_region_lit (l := [_, _, _]) (wl H (Ez.asn H rfl) rfl (kA rfl rfl (kA rfl rfl (kW (kS (kR [_, _, _, _, _, _, _] (kM rfl rfl ?_)))))))); clear H a; intro a H
  refine wk H cf143 (scanSign b s w hR (by omega) (by omega) (by have h9 := (hD 0 (by omega)).1; rw [← chr_eq (by omega)] at h9; unfold Hx at h9; omega)) rfl rfl ?_
  rintro _ w1 ⟨rfl, hR1, hF1⟩
  refine ⟨_, rfl, ?_⟩; clear H a; intro a H
  obtain ⟨wA, rfl⟩ : ∃ wA, wA = w1 := ⟨w1, rfl⟩
  have hz1 := hz.fr hF1 (fun o e => hzb e) (fun k j o ht => (TQ_none ht).elim)
  refine wl H (Ez.mv H rfl) rfl (kL (fun a H => Ez.ext0 H rfl) rfl (kL (fun a H => Ez.ext1 H rfl) rfl (kA rfl rfl (kA rfl rfl (kP [(0, _), (1, _), (2, _), (6, _), (7, _), (8, _), (9, _), (10, _)] rfl (kW (kS (kS (kR [_, _] (kM rfl rfl (kL (fun a H => Ez.neNI H rfl) rfl (kP [(0, _), (1, _), (2, _), (6, _), (7, _), (8, _), (9, _), (10, _), (17, _)] rfl (kW ?_))))))))))))); clear H a; intro a H
  refine wp_cond_false (H.o rfl) (wp_skip (thn (wp_seq (wp_region_lit (l := [_, _, _, _, _, _, _, _, _, _, _, _, _, _, _, _, _, _]) (wl H (Ez.mv H rfl) rfl (kM rfl rfl (kN rfl rfl (kL (fun a H => Ez.fa82_1 H rfl) rfl (kL (fun a H => Ez.ld80 H rfl (hz1.c1)) rfl (kM rfl rfl (kM rfl rfl ?_))))))))))); clear H a; intro a H
  refine wk H cf144 (natScan b s v D wA hsz hD hR1 (hF1.someCell he (fun e => hb (Eq.symm e))) hb hE) rfl rfl ?_
  rintro _ w1 ⟨q', k, c', X', rfl, k1, k2, k3, k4, k5, k6, k7⟩
  refine ⟨_, rfl, ?_⟩; clear H a; intro a H
  obtain ⟨wB, rfl⟩ : ∃ wB, wB = w1 := ⟨w1, rfl⟩
  have hz2 := hz1.fr k7 (fun o e => hzb e) (fun k j o ht => (TQ_none ht).elim)
  have hA := hz2.abs (Fr.refl _ wB) k1 k4
  refine wl H (Ez.mv H rfl) rfl (kL (fun a H => Ez.extN (v := .slice q' k c') H rfl rfl) rfl (kL (fun a H => Ez.extN H rfl rfl) rfl (kL (fun a H => Ez.extN H rfl rfl) rfl (kL (fun a H => Ez.extN H rfl rfl) rfl (kN rfl rfl (kL (fun a H => Ez.fa82_1 H rfl) rfl ?_)))))); clear H a; intro a H
  refine wls H (Ez.st80 H rfl rfl rfl hA.1 hA.2.1) ?_; clear H; intro H
  refine wl H (Ez.asn H rfl) rfl (kA rfl rfl (kP [(0, _), (2, _), (6, _), (7, _), (8, _), (9, _), (10, _)] rfl (kW ?_))); clear H a; intro a H
  obtain ⟨_, _, hI, hFz⟩ := hA
  have hRz := k6.fr hFz (fun o e => by rcases e with e | e; exact hzb (Eq.symm e); exact TQ_none e)
  have hF : Fr (D3 z b b) w _ := (((hF1.trans k7).mono fun k o _ e => .inr (.inl e))).trans (hFz.mono fun k o _ e => by rcases e with e | e; exact .inl e; exact (TQ_none e).elim)
  generalize wB.setCell ⟨z, 1, none⟩ (.slice q' k c') = wC at hI hRz hF
  refine wp_seq (wp_seq (wp_region_lit (l := [_, _]) (wl H (Ez.mv H rfl) rfl (kL (fun a H => Ez.neNI H rfl) rfl (kP [(0, _), (2, _), (6, _), (7, _), (8, _), (9, _), (10, _), (35, _)] rfl (kW ?_)))))); clear H a; intro a H
  refine wp_cond_false (H.o rfl) (wp_skip (thn (wp_seq ?_)))
  rcases Nat.eq_zero_or_pos k with h0 | h0
  · refine wp_region_lit (l := [_, _, _, _, _, _, _, _, _, _, _, _, _]) (wl H (Ez.mv H rfl) rfl (kM rfl rfl (kN rfl rfl (kL (fun a H => Ez.fa82_1 H rfl) rfl (kL (fun a H => Ez.ld80 H rfl (hI.c1)) rfl (kL (fun a H => Ez.len80 H rfl) rfl (kL (fun a H => Ez.gtr (r := false) H rfl rfl (by (simp; omega))) rfl (kM rfl rfl (kX rfl rfl rfl rfl rfl (kL (fun a H => Ez.pkF H rfl rfl) rfl (kN rfl rfl (kL (fun a H => Ez.fa82_0 H rfl) rfl ?_)))))))))))); clear H a; intro a H
    refine wls H (Ez.st4 H rfl rfl rfl hI.c0 (hI.fz _)) ?_; clear H; intro H
    refine kP [(0, _), (2, _), (6, _), (7, _), (8, _)] rfl (kW (kS (kR [_, _, _, _, _] (kM rfl rfl (kM rfl rfl (kA rfl rfl (kA rfl rfl (kA rfl rfl (kP [(6, _), (7, _), (8, _)] rfl (kW ?_)))))))))) a H; clear H a; intro a H
    refine wp_ret ?_
    refine rt3 H rfl rfl rfl rfl ?_
    have hN := hI.neg false none
    exact ⟨_, rfl, hN.1, k3, rfl, k2, fun x j hh => Nat.le_trans hF1.size (k5 x j hh), hRz.fr hN.2 (fun o e => by rcases e with e | e; exact hzb (Eq.symm e); exact TQ_none e), hF.trans (hN.2.mono fun k o _ e => by rcases e with e | e; exact .inl e; exact (TQ_none e).elim)⟩
  refine wp_region_lit (l := [_, _, _, _, _, _, _, _, _, _, _, _, _]) (wl H (Ez.mv H rfl) rfl (kM rfl rfl (kN rfl rfl (kL (fun a H => Ez.fa82_1 H rfl) rfl (kL (fun a H => Ez.ld80 H rfl (hI.c1)) rfl (kL (fun a H => Ez.len80 H rfl) rfl (kL (fun a H => Ez.gtr (r := true) H rfl rfl (by (simp; omega))) rfl (kM rfl rfl (kG (fun a H => Ez.mv H rfl) rfl rfl rfl rfl rfl (kL (fun a H => Ez.pkT H rfl rfl) rfl (kN rfl rfl (kL (fun a H => Ez.fa82_0 H rfl) rfl ?_)))))))))))); clear H a; intro a H
  refine wls H (Ez.st4 H rfl rfl rfl hI.c0 (hI.fz _)) ?_; clear H; intro H
  refine kP [(0, _), (2, _), (6, _), (7, _), (8, _)] rfl (kW (kS (kR [_, _, _, _, _] (kM rfl rfl (kM rfl rfl (kA rfl rfl (kA rfl rfl (kA rfl rfl (kP [(6, _), (7, _), (8, _)] rfl (kW ?_)))))))))) a H; clear H a; intro a H
  refine wp_ret ?_
  refine rt3 H rfl rfl rfl rfl ?_
  have hN := hI.neg false none
  exact ⟨_, rfl, hN.1, k3, rfl, k2, fun x j hh => Nat.le_trans hF1.size (k5 x j hh), hRz.fr hN.2 (fun o e => by rcases e with e | e; exact hzb (Eq.symm e); exact TQ_none e), hF.trans (hN.2.mono fun k o _ e => by rcases e with e | e; exact .inl e; exact (TQ_none e).elim)⟩
theorem setFromScanner (z b : Nat) (s : ByteArray) (v : Value) (D : Nat → Int) (w : World) (hsz : s.size = 64) (hD : ∀ j, j < 64 → Hx (chr s j) (D j) ∧ 0 ≤ D j ∧ D j < 16) (hz : Ib w z r0) (hR : Rd w b s 0) (he : w.cell? ⟨0, 0, none⟩ = some v) (hE : Eof v) (hb : b ≠ 0) (hz0 : z ≠ 0) (hzb : z ≠ b) :
    Calls Tryz.prog 113 #[.pointer (some ⟨z, 0, none⟩), .iface 131 (.pointer (some ⟨b, 0, none⟩)), .int .i64 16] w fun e w' => ∃ r, e = .returned (.tuple #[.pointer (some ⟨z, 0, none⟩), .bool true]) ∧ Ib w' z r ∧ nv r.X r.n = hxv D 64 ∧ r.s = false ∧ r.n ≤ 4 ∧ (∀ x j, TQ r.q x j → w.heap.size ≤ x) ∧ Fr (D3 z b b) w w' := by
  refine enterE (vs := [.pointer (some ⟨z, 0, none⟩), .iface 131 (.pointer (some ⟨b, 0, none⟩)), .int .i64 16]) Tryz.func113 rfl rfl ?_
  intro a H
  replace H : Hd a 32 [] [(0, .pointer (some ⟨z, 0, none⟩)), (1, .iface 131 (.pointer (some ⟨b, 0, none⟩))), (2, .int .i64 16)] := H
  refine wp_seq (wp_region_lit (l := [_, _]) (wl H (Ez.asn H rfl) rfl (kA rfl rfl (kW (kS (kS (kR [_, _, _, _, _, _, _, _, _, _, _] (kM rfl rfl (kM rfl rfl (kM rfl rfl ?_)))))))))); clear H a; intro a H
  refine wk H cf127 (intScan z b s v D w hsz hD hz hR he hE hb hz0 hzb) rfl rfl ?_
  rintro _ w1 ⟨r, rfl, h1, h2, h3, h4, h5, h6, h7⟩
  refine ⟨_, rfl, ?_⟩; clear H a; intro a H
  obtain ⟨wA, rfl⟩ : ∃ wA, wA = w1 := ⟨w1, rfl⟩
  have he1 := h7.someCell he (fun e => by rcases e with e | e | e; exact hz0 (Eq.symm e); exact hb (Eq.symm e); exact hb (Eq.symm e))
  refine wl H (Ez.mv H rfl) rfl (kL (fun a H => Ez.extN H rfl rfl) rfl (kL (fun a H => Ez.extN H rfl rfl) rfl (kL (fun a H => Ez.extN H rfl rfl) rfl (kA rfl rfl (kA rfl rfl (kA rfl rfl (kP [(0, _), (1, _), (6, _), (7, _), (10, _)] rfl (kW (kS (kR [_, _] (kM rfl rfl (kL (fun a H => Ez.neNI H rfl) rfl (kP [(0, _), (1, _), (6, _), (7, _), (22, _)] rfl (kW ?_)))))))))))))); clear H a; intro a H
  refine wp_cond_false (H.o rfl) (wp_skip (thn (wp_seq (wp_seq (wp_region_lit (l := [_, _, _, _, _, _, _]) (wl H (Ez.mv H rfl) rfl ?_)))))); clear H a; intro a H
  refine wlc H (Ez.inv131R H rfl _) (readEOF b 64 s v wA h6 (by omega) (by omega) he1 hb) rfl ?_
  rintro _ w1 ⟨rfl, h8, h9⟩
  refine ⟨_, rfl, ?_⟩; clear H a; intro a H
  obtain ⟨wB, rfl⟩ : ∃ wB, wB = w1 := ⟨w1, rfl⟩
  refine wl H (Ez.mv H rfl) rfl (kL (fun a H => Ez.ext0 H rfl) rfl (kL (fun a H => Ez.ext1 H rfl) rfl (kA rfl rfl (kA rfl rfl (kP [(0, _), (6, _), (7, _), (12, _)] rfl (kW (kS (kR [_, _, _] (kM rfl rfl (kL (fun a H => Ez.ld146 H rfl (h9.someCell he1 (fun e => hb (Eq.symm e)))) rfl (kL (fun a H => hE.ne _ _ _ _ _ _ _ _ _ _ _ _ _ H rfl rfl) rfl (kP [(0, _), (6, _), (7, _), (30, _)] rfl (kW ?_))))))))))))); clear H a; intro a H
  refine wp_cond_false (H.o rfl) (wp_skip (thn (wp_seq (wp_region_lit (l := [_, _, _]) (wl H (Ez.mv H rfl) rfl (kA rfl rfl (kA rfl rfl (kP [(6, _), (7, _)] rfl (kW ?_))))))))); clear H a; intro a H
  refine wp_ret ?_
  refine rt2 H rfl rfl rfl ?_
  exact ⟨r, rfl, h1.fr h9 (fun o e => hzb e) (fun k j o ht e => by have e : k = b := e; have h10 := h5 k j ht; have := World.block_lt_of_cell? w _ hR.c0; rw [e] at h10; exact absurd this (Nat.not_lt.2 h10)), h2, h3, h4, h5, h7.trans (h9.mono fun k o _ e => .inr (.inl e))⟩
theorem setString (z : Nat) (s : ByteArray) (v : Value) (D : Nat → Int) (w : World) (hsz : s.size = 64) (hD : ∀ j, j < 64 → Hx (chr s j) (D j) ∧ 0 ≤ D j ∧ D j < 16) (hz : Ib w z r0) (he : w.cell? ⟨0, 0, none⟩ = some v) (hE : Eof v) (hz0 : z ≠ 0) :
    Calls Tryz.prog 96 #[.pointer (some ⟨z, 0, none⟩), .string s, .int .i64 16] w fun e w' => ∃ r, e = .returned (.tuple #[.pointer (some ⟨z, 0, none⟩), .bool true]) ∧ Ib w' z r ∧ nv r.X r.n = hxv D 64 ∧ r.s = false ∧ r.n ≤ 4 ∧ (∀ x j, TQ r.q x j → w.heap.size ≤ x) ∧ Fr (Bl z) w w' := by
  refine enterE (vs := [.pointer (some ⟨z, 0, none⟩), .string s, .int .i64 16]) Tryz.func96 rfl rfl ?_
  intro a H
  replace H : Hd a 16 [] [(0, .pointer (some ⟨z, 0, none⟩)), (1, .string s), (2, .int .i64 16)] := H
  refine wp_seq (wp_region_lit (l := [_, _]) (wl H (Ez.asn H rfl) rfl (kA rfl rfl (kW (kS (kR [_, _, _, _, _, _, _, _, _, _] (kM rfl rfl (kM rfl rfl ?_)))))))); clear H a; intro a H
  refine wk H cf114 (newReader s w) rfl rfl ?_
  rintro _ w1 ⟨b, rfl, h1, h2, h3⟩
  refine ⟨_, rfl, ?_⟩; clear H a; intro a H
  have hzl := hz.lt
  have h0l := World.block_lt_of_cell? w _ he
  have h0l : 0 < w.heap.size := h0l
  obtain ⟨wA, rfl⟩ : ∃ wA, wA = w1 := ⟨w1, rfl⟩
  refine wl H (Ez.mki131 H rfl) rfl (kM rfl rfl ?_); clear H a; intro a H
  refine wk H cf113 (setFromScanner z b s v D wA hsz hD (hz.fr h3 (fun _ f => f) (fun _ _ _ _ f => f)) h2 (h3.someCell he (fun f => f)) hE (by omega) hz0 (by omega)) rfl rfl ?_
  rintro _ w1 ⟨r, rfl, k1, k2, k3, k4, k5, k6⟩
  refine ⟨_, rfl, ?_⟩; clear H a; intro a H
  refine wl H (Ez.ext0 H rfl) rfl (kL (fun a H => Ez.ext1 H rfl) rfl (kA rfl rfl (kA rfl rfl (kP [(6, _), (7, _)] rfl (kW ?_))))); clear H a; intro a H
  refine wp_ret ?_
  refine rt2 H rfl rfl rfl ?_
  exact ⟨r, rfl, k1, k2, k3, k4, fun x j hh => Nat.le_trans h3.size (k5 x j hh), ((h3.noT (T := fun k j => Bl z k j ∨ w.heap.size ≤ k)).trans (k6.mono fun k o _ e => by rcases e with e | e | e; exact .inl e; exact .inr (by omega); exact .inr (by omega))).mono fun k o hk e => by rcases e with e | e; exact e; omega⟩
end
section
set_option maxRecDepth 8000
theorem Ez.eqS0 {a : Act} {N : Nat} {ds : List Deferred} {l : Env} {w : World} {d : Option Nat} {ty : TypeId} {pos : String} {after : Array Edge} {g : Option (Nat × Bool)} (H : Hd a N ds l) {x y : Operand} {s t : ByteArray} {u : TypeId} (h : ov l x = some (.string s)) (h' : ov l y = some (.string t)) (hs : s.size ≠ t.size) :
    (execOp a.eval ⟨d, .binOp .eql 9 x y u, ty, pos, after, g⟩).run Tryz.prog w = .ok (.value (.bool false)) w := by
  have e := H.o h
  have e' := H.o h'
  simp only [execOp, e, e']; go_simp
  intro e3
  apply hs
  rw [ByteArray.toList_eq, ByteArray.toList_eq] at e3
  have h9 := congrArg List.length e3
  rw [Array.length_toList, Array.length_toList] at h9
  exact h9
def hexD (s : ByteArray) (j : Nat) : Int := if chr s j ≤ 57 then chr s j - 48 else chr s j - 87
def hexOk (s : ByteArray) : Bool := s.size == 64 && (List.range 64).all fun j => (decide (48 ≤ chr s j) && decide (chr s j ≤ 57)) || (decide (97 ≤ chr s j) && decide (chr s j ≤ 102))
theorem hexOk_d {s : ByteArray} (h : hexOk s = true) : s.size = 64 ∧ ∀ j, j < 64 → Hx (chr s j) (hexD s j) ∧ 0 ≤ hexD s j ∧ hexD s j < 16 := by
  simp only [hexOk, Bool.and_eq_true, beq_iff_eq, List.all_eq_true, List.mem_range, Bool.or_eq_true, decide_eq_true_eq] at h
  refine ⟨h.1, fun j hj => ?_⟩
  have := h.2 j hj
  unfold hexD Hx
  split <;> omega
theorem fromHex (s : ByteArray) (v : Value) (w : World) (hs : hexOk s = true) (he : w.cell? ⟨0, 0, none⟩ = some v) (hE : Eof v) :
    Calls Tryz.prog 77 #[.string s] w fun e w' => ∃ p r, e = .returned (.pointer (some ⟨p, 0, none⟩)) ∧ w.heap.size ≤ p ∧ Ib w' p r ∧ nv r.X r.n = hxv (hexD s) 64 ∧ r.s = false ∧ r.n ≤ 4 ∧ (∀ x j, TQ r.q x j → w.heap.size ≤ x) ∧ Fr NoT w w' := by
  refine enterE (vs := [.string s]) Tryz.func77 rfl rfl ?_
  intro a H
  replace H : Hd a 20 [] [(0, .string s)] := H
  refine wp_seq (wp_region_lit (l := [_]) (wl H (Ez.asn H rfl) rfl (kW (kS (kS (kR [_, _] (kM rfl rfl (kL (fun a H => Ez.eqS0 H rfl rfl (by rw [(hexOk_d hs).1]; decide)) rfl (kP [(0, _), (2, _), (6, _)] rfl (kW ?_)))))))))); clear H a; intro a H
  refine wp_cond_false (H.o rfl) (wp_skip (thn (wp_seq (wp_region_lit (l := [_, _, _, _, _, _, _, _]) (wl H (Ez.al82) rfl ?_))))); clear H a; intro a H
  have hI := Ib.new w
  have hF := (Fr.refl NoT w).alloc (.cells #[.bool false, .slice none 0 0] 82)
  have h0l : 0 < w.heap.size := World.block_lt_of_cell? w _ he
  obtain ⟨p, hp⟩ : ∃ p, p = w.heap.size := ⟨_, rfl⟩
  rw [← hp] at H hI
  generalize w.alloc (.cells #[.bool false, .slice none 0 0] 82) = wA at hI hF
  obtain ⟨hsz, hD⟩ := hexOk_d hs
  refine wl H (Ez.mv H rfl) rfl ?_; clear H a; intro a H
  refine wk H cf96 (setString p s v (hexD s) wA hsz hD hI (hF.someCell he (fun f => f)) hE (by omega)) rfl rfl ?_
  rintro _ w1 ⟨r, rfl, k1, k2, k3, k4, k5, k6⟩
  refine ⟨_, rfl, ?_⟩; clear H a; intro a H
  refine wl H (Ez.mv H rfl) rfl (kL (fun a H => Ez.ext0 H rfl) rfl (kL (fun a H => Ez.ext1 H rfl) rfl (kA rfl rfl (kA rfl rfl (kP [(0, _), (2, _), (3, _), (4, _)] rfl (kW (kS (kS (kR [_, _] (kM rfl rfl (kL (fun a H => Ez.not H rfl (rfl)) rfl (kP [(0, _), (2, _), (3, _), (15, _)] rfl (kW ?_))))))))))))); clear H a; intro a H
  refine wp_cond_false (H.o rfl) (wp_skip (thn (wp_seq (wp_region_lit (l := [_, _]) (wl H (Ez.mv H rfl) rfl (kA rfl rfl (kP [(2, _)] rfl (kW ?_)))))))); clear H a; intro a H
  refine wp_ret ?_
  refine rt1 H rfl rfl ?_
  exact ⟨p, r, rfl, by omega, k1, k2, k3, k4, fun x j hh => Nat.le_trans hF.size (k5 x j hh), hF.plus k6 (by omega)⟩
end
section
set_option maxRecDepth 8000
theorem rowStep {w : World} {b j : Nat} {cs : Array Value} {t : TypeId} (hb : w.heap[b]? = some (.cells cs t (0, 0))) (hj : j < cs.size) (v : Value) :
    (∃ u, w.cell? ⟨b, j, none⟩ = some u) ∧ w.frozen? ⟨b, j, none⟩ = false ∧ (w.setCell ⟨b, j, none⟩ v).heap[b]? = some (.cells (cs.setIfInBounds j v) t (0, 0)) :=
  ⟨⟨cs[j], by simp [World.cell?, hb, hj]⟩, by simp [World.frozen?, hb], heap_set_in hb v⟩
namespace Ez
section
variable {a : Act} {N : Nat} {ds : List Deferred} {l : Env} {w : World} {d : Option Nat} {ty : TypeId} {pos : String} {after : Array Edge} {g : Option (Nat × Bool)}
theorem al86 : (execOp a.eval ⟨d, .alloc 86, ty, pos, after, g⟩).run Tryz.prog w = .ok (.value (.pointer (some ⟨w.heap.size, 0, none⟩))) (w.alloc (.cells #[.pointer none, .pointer none, .pointer none, .pointer none, .int .i64 0, .int .i64 0, .int .i64 0] 86)) := by
  simp only [execOp]; go_simp
theorem bld86 (H : Hd a N ds l) {x0 x1 x2 x3 : Operand} {q0 q1 q2 q3 : Option Addr} (h0 : ov l x0 = some (.pointer q0)) (h1 : ov l x1 = some (.pointer q1)) (h2 : ov l x2 = some (.pointer q2)) (h3 : ov l x3 = some (.pointer q3)) :
    (execOp a.eval ⟨d, .build 86 #[(0, x0), (1, x1), (2, x2), (3, x3), (4, .const (.int .i64 256)), (5, .const (.int .i64 1)), (6, .const (.int .i64 32))], ty, pos, after, g⟩).run Tryz.prog w = .ok (.value (.agg #[.pointer q0, .pointer q1, .pointer q2, .pointer q3, .int .i64 256, .int .i64 1, .int .i64 32])) w := by
  have e0 := H.o h0
  have e1 := H.o h1
  have e2 := H.o h2
  have e3 := H.o h3
  have c4 : a.eval (.const (.int .i64 256)) = .int .i64 256 := rfl
  have c5 : a.eval (.const (.int .i64 1)) = .int .i64 1 := rfl
  have c6 : a.eval (.const (.int .i64 32)) = .int .i64 32 := rfl
  revert e0 e1 e2 e3 c4 c5 c6; generalize a.eval = ρ; intro e0 e1 e2 e3 c4 c5 c6
  simp only [execOp]; go_simp
theorem fld86 (H : Hd a N ds l) {x : Operand} {q0 q1 q2 q3 : Option Addr} {v4 v5 v6 : Value} (h : ov l x = some (.agg #[.pointer q0, .pointer q1, .pointer q2, .pointer q3, v4, v5, v6])) :
    (execOp a.eval ⟨d, .field 86 x 1, ty, pos, after, g⟩).run Tryz.prog w = .ok (.value (.pointer q1)) w := by
  have e := H.o h
  simp only [execOp, e, Instr.field]; go_simp
  simp [asAgg]
theorem st86 (H : Hd a N ds l) {x y : Operand} {b : Nat} {q0 q1 q2 q3 : Option Addr} (hb : w.heap[b]? = some (.cells #[.pointer none, .pointer none, .pointer none, .pointer none, .int .i64 0, .int .i64 0, .int .i64 0] 86 (0, 0))) (h : ov l x = some (.pointer (some ⟨b, 0, none⟩))) (h' : ov l y = some (.agg #[.pointer q0, .pointer q1, .pointer q2, .pointer q3, .int .i64 256, .int .i64 1, .int .i64 32])) :
    ∃ w', (execOp a.eval ⟨none, .store 86 x y, ty, pos, after, g⟩).run Tryz.prog w = .ok .skip w' ∧ w'.heap[b]? = some (.cells #[.pointer q0, .pointer q1, .pointer q2, .pointer q3, .int .i64 256, .int .i64 1, .int .i64 32] 86 (0, 0)) ∧ Fr (Bl b) w w' := by
  have e := H.o h
  have e' := H.o h'
  obtain ⟨⟨u0, a0⟩, f0, b1⟩ := rowStep (j := 0) hb (by decide) (.pointer q0)
  obtain ⟨⟨u1, a1⟩, f1, b2⟩ := rowStep (j := 1) b1 (by simp) (.pointer q1)
  obtain ⟨⟨u2, a2⟩, f2, b3⟩ := rowStep (j := 2) b2 (by simp) (.pointer q2)
  obtain ⟨⟨u3, a3⟩, f3, b4⟩ := rowStep (j := 3) b3 (by simp) (.pointer q3)
  obtain ⟨⟨u4, a4⟩, f4, b5⟩ := rowStep (j := 4) b4 (by simp) (.int .i64 256)
  obtain ⟨⟨u5, a5⟩, f5, b6⟩ := rowStep (j := 5) b5 (by simp) (.int .i64 1)
  obtain ⟨⟨u6, a6⟩, f6, b7⟩ := rowStep (j := 6) b6 (by simp) (.int .i64 32)
  refine ⟨_, ?_, b7, ((((((Fr.bl (j := 0) _).trans (Fr.bl (j := 1) _)).trans (Fr.bl (j := 2) _)).trans (Fr.bl (j := 3) _)).trans (Fr.bl (j := 4) _)).trans (Fr.bl (j := 5) _)).trans (Fr.bl (j := 6) _)⟩
  simp only [execOp, e, e']
  go_simp
end
end Ez
theorem rtc86 {fn : Func} {R : Ending → World → Prop} {a : Act} {w : World} {N : Nat} {l : Env} {b : Nat} {q0 q1 q2 q3 : Option Addr} (H : Hd a N [] l) (h : fn.results = #[.cell 0 86]) (ht : lk l 0 = some (.pointer (some ⟨b, 0, none⟩)))
    (hb : w.heap[b]? = some (.cells #[.pointer q0, .pointer q1, .pointer q2, .pointer q3, .int .i64 256, .int .i64 1, .int .i64 32] 86 (0, 0))) (hR : R (.returned (.agg #[.pointer q0, .pointer q1, .pointer q2, .pointer q3, .int .i64 256, .int .i64 1, .int .i64 32])) w) : bodyPost Tryz.prog fn R .ret a w := by
  have e : a.tmps.getD 0 undef = .pointer (some ⟨b, 0, none⟩) := H.g 0 _ ht
  have c0 : w.cell? ⟨b, 0, none⟩ = some (.pointer q0) := by simp [World.cell?, hb]
  have c1 : w.cell? ⟨b, 1, none⟩ = some (.pointer q1) := by simp [World.cell?, hb]
  have c2 : w.cell? ⟨b, 2, none⟩ = some (.pointer q2) := by simp [World.cell?, hb]
  have c3 : w.cell? ⟨b, 3, none⟩ = some (.pointer q3) := by simp [World.cell?, hb]
  have c4 : w.cell? ⟨b, 4, none⟩ = some (.int .i64 256) := by simp [World.cell?, hb]
  have c5 : w.cell? ⟨b, 5, none⟩ = some (.int .i64 1) := by simp [World.cell?, hb]
  have c6 : w.cell? ⟨b, 6, none⟩ = some (.int .i64 32) := by simp [World.cell?, hb]
  refine ⟨H.df, _, ?_, hR⟩
  unfold Go.results
  rw [h]
  generalize a.tmps = T at e
  simp only [Array.getD_eq_getD_getElem?] at e
  go_simp
end
section
set_option maxRecDepth 8000
theorem curveParams (v : Value) (w : World) (he : w.cell? ⟨0, 0, none⟩ = some v) (hE : Eof v) :
    Calls Tryz.prog 61 #[] w fun e w' => ∃ q0 p q2 q3 r, e = .returned (.agg #[.pointer q0, .pointer (some ⟨p, 0, none⟩), .pointer q2, .pointer q3, .int .i64 256, .int .i64 1, .int .i64 32]) ∧ Ib w' p r ∧ nv r.X r.n = 115792089237316195423570985008687907852837564279074904382605163141518161494337 ∧ r.s = false ∧ r.n ≤ 4 ∧ w.heap.size ≤ p ∧ Fr NoT w w' := by
  refine enterE (vs := []) Tryz.func61 rfl rfl ?_
  intro a H
  replace H : Hd a 6 [] [] := H
  refine wp_seq (wp_region_lit (l := [_]) (wl H (Ez.al86) rfl (kW ?_))); clear H a; intro a H
  have hb := heap_alloc_new w (.cells #[.pointer none, .pointer none, .pointer none, .pointer none, .int .i64 0, .int .i64 0, .int .i64 0] 86)
  have hF := (Fr.refl NoT w).alloc (.cells #[.pointer none, .pointer none, .pointer none, .pointer none, .int .i64 0, .int .i64 0, .int .i64 0] 86)
  have hbl : w.heap.size < (w.alloc (.cells #[.pointer none, .pointer none, .pointer none, .pointer none, .int .i64 0, .int .i64 0, .int .i64 0] 86)).heap.size := by
    rcases Nat.lt_or_ge w.heap.size (w.alloc (.cells #[.pointer none, .pointer none, .pointer none, .pointer none, .int .i64 0, .int .i64 0, .int .i64 0] 86)).heap.size with h | h
    · exact h
    rw [Array.getElem?_eq_none h] at hb; cases hb
  obtain ⟨b, hbb⟩ : ∃ b, b = w.heap.size := ⟨_, rfl⟩
  rw [← hbb] at H hb hbl
  generalize w.alloc (.cells #[.pointer none, .pointer none, .pointer none, .pointer none, .int .i64 0, .int .i64 0, .int .i64 0] 86) = wA at hb hF hbl
  have hbl : b < wA.heap.size := hbl
  refine wp_seq (wp_region_lit (l := [_, _, _, _, _, _]) ?_)
  refine wk H cf77 (fromHex _ v wA (by kernel_rfl) (hF.someCell he (fun f => f)) hE) rfl rfl ?_
  rintro _ w1 ⟨p0, r0', rfl, a1, a2, a3, a4, a5, a6, a7⟩
  refine ⟨_, rfl, ?_⟩; clear H a; intro a H
  have hb1 := (a7.block b hbl (fun _ f => f)).trans hb
  have hF1 := hF.trans a7
  obtain ⟨wB, rfl⟩ : ∃ wB, wB = w1 := ⟨w1, rfl⟩
  refine wk H cf77 (fromHex _ v wB (by kernel_rfl) (hF1.someCell he (fun f => f)) hE) rfl rfl ?_
  rintro _ w1 ⟨p1, r1, rfl, b1, b2, b3, b4, b5, b6, b7⟩
  refine ⟨_, rfl, ?_⟩; clear H a; intro a H
  have hb2 := (b7.block b (Nat.lt_of_lt_of_le hbl a7.size) (fun _ f => f)).trans hb1
  have hF2 := hF1.trans b7
  obtain ⟨wC, rfl⟩ : ∃ wC, wC = w1 := ⟨w1, rfl⟩
  refine wk H cf77 (fromHex _ v wC (by kernel_rfl) (hF2.someCell he (fun f => f)) hE) rfl rfl ?_
  rintro _ w1 ⟨p2, r2, rfl, c1, c2, c3, c4, c5, c6, c7⟩
  refine ⟨_, rfl, ?_⟩; clear H a; intro a H
  have hb3 := (c7.block b (Nat.lt_of_lt_of_le hbl (Nat.le_trans a7.size b7.size)) (fun _ f => f)).trans hb2
  have hF3 := hF2.trans c7
  have hI3 := b2.fr c7 (fun _ f => f) (fun _ _ _ _ f => f)
  obtain ⟨wD, rfl⟩ : ∃ wD, wD = w1 := ⟨w1, rfl⟩
  refine wk H cf77 (fromHex _ v wD (by kernel_rfl) (hF3.someCell he (fun f => f)) hE) rfl rfl ?_
  rintro _ w1 ⟨p3, r3, rfl, d1, d2, d3, d4, d5, d6, d7⟩
  refine ⟨_, rfl, ?_⟩; clear H a; intro a H
  have hb4 := (d7.block b (Nat.lt_of_lt_of_le hbl (Nat.le_trans (Nat.le_trans a7.size b7.size) c7.size)) (fun _ f => f)).trans hb3
  have hF4 := hF3.trans d7
  have hI4 := hI3.fr d7 (fun _ f => f) (fun _ _ _ _ f => f)
  obtain ⟨wE, rfl⟩ : ∃ wE, wE = w1 := ⟨w1, rfl⟩
  refine wl H (Ez.bld86 H rfl rfl rfl rfl) rfl ?_; clear H a; intro a H
  obtain ⟨wG, eS, hb5, hF5⟩ := Ez.st86 (x := .tmp 0) (y := .tmp 5) (ty := 0) (pos := _) (after := _) (g := none) H hb4 rfl rfl
  refine wls H (eS) ?_; clear eS H; intro H
  refine kP [(0, _)] rfl (kW ?_) a H; clear H a; intro a H
  refine wp_ret ?_
  refine rtc86 H rfl rfl hb5 ?_
  have hpb : p1 ≠ b := by have := Nat.le_trans a7.size b1; omega
  refine ⟨_, p1, _, _, r1, rfl, hI4.fr hF5 (fun o e => hpb e) (fun k j o ht e => ?_), by rw [b3]; kernel_rfl, b4, b5, by have := Nat.le_trans hF1.size b1; omega, hF4.plus hF5 (by omega)⟩
  have h1 := b6 k j ht
  have e : k = b := e
  have := a7.size
  omega
end
theorem evPutNe {a : Act} {d k : Nat} {v : Value} (h : k ≠ d) : (a.put (some d) v).eval (.tmp k) = a.eval (.tmp k) := by
  simp [Act.put, Act.eval, Array.getD_eq_getD_getElem?, Ne.symm h]
theorem evPutEq {a : Act} {d : Nat} {v : Value} (h : d < a.tmps.size) : (a.put (some d) v).eval (.tmp d) = v := by
  simp [Act.put, Act.eval, Array.getD_eq_getD_getElem?, h]
theorem szPut {a : Act} {d : Nat} {v : Value} : (a.put (some d) v).tmps.size = a.tmps.size := by simp [Act.put]
theorem stVal {P : Program} {ops : Array Oper} {w : World} {Q : Act → Prop} {rest : List Oper} {a : Act} {o : Oper} {v : Value} (hg : o.guard = none)
    (hr : (execOp a.eval o).run P w = .ok (.value v) w) (h : wpStill P ops w Q rest (a.put o.dst v)) : wpStill P ops w Q (o :: rest) a := by
  refine wpStill_step (fun K hK => ?_)
  have hw : Region.wanted o (yielded ops a.tmps) = true := by simp [Region.wanted, hg]
  rw [if_pos hw]
  unfold Oper.still
  rw [hr, Oper.stillUpon_value]
  exact hK _ h
section
variable {ρ : Operand → Value} {w : World} {d : Option Nat} {ty : TypeId} {pos : String} {after : Array Edge} {g : Option (Nat × Bool)}
theorem exMove {x : Operand} {v : Value} (h : ρ x = v) : (execOp ρ ⟨d, .move x, ty, pos, after, g⟩).run Tryz.prog w = .ok (.value v) w := by subst h; rfl
theorem exNil {x : Operand} {A : Addr} (h : ρ x = .pointer (some A)) : (execOp ρ ⟨d, .nilCheck x, ty, pos, after, g⟩).run Tryz.prog w = .ok (.value (.pointer (some A))) w := by
  simp only [execOp, h]; go_simp
theorem exField44 {x : Operand} {b o : Nat} (h : ρ x = .pointer (some ⟨b, o, none⟩)) : (execOp ρ ⟨d, .fieldAddr 44 x 0, ty, pos, after, g⟩).run Tryz.prog w = .ok (.value (.pointer (some ⟨b, o, none⟩))) w := by
  simp only [execOp, h]; go_simp
theorem exField75 {x : Operand} {b o : Nat} (h : ρ x = .pointer (some ⟨b, o, none⟩)) : (execOp ρ ⟨d, .fieldAddr 75 x 0, ty, pos, after, g⟩).run Tryz.prog w = .ok (.value (.pointer (some ⟨b, o, none⟩))) w := by
  simp only [execOp, h]; go_simp
theorem exIndex42 {x : Operand} {b o i : Nat} (h : ρ x = .pointer (some ⟨b, o, none⟩)) (hc : ρ (.const (.int .i64 i)) = .int .i64 i) (hi : i < 8) : (execOp ρ ⟨d, .indexAddr 42 x (.const (.int .i64 i)), ty, pos, after, g⟩).run Tryz.prog w = .ok (.value (.pointer (some ⟨b, o + i, none⟩))) w := by
  simp only [execOp, h, hc]
  rcases i with _ | _ | _ | _ | _ | _ | _ | _ | i
  all_goals first | (go_simp; done) | omega
theorem exLoad33 {x : Operand} {A : Addr} {n : Int} (h : ρ x = .pointer (some A)) (hc : w.cell? A = some (.int .u32 n)) : (execOp ρ ⟨d, .load 33 x, ty, pos, after, g⟩).run Tryz.prog w = .ok (.value (.int .u32 n)) w := by
  simp only [execOp, h]; go_simp
theorem exConv {x : Operand} {n : Int} (h : ρ x = .int .u32 n) (hn : U32 n) : (execOp ρ ⟨d, .convert 33 28 x, ty, pos, after, g⟩).run Tryz.prog w = .ok (.value (.int .u64 n)) w := by
  obtain ⟨h0, h1⟩ := hn
  have e : IntKind.u64.wrap n = n := by rw [wrapU64]; omega
  simp only [execOp, h]; go_simp
theorem exMul {x y : Operand} {n m : Int} (h : ρ x = .int .u64 n) (h' : ρ y = .int .u64 m) (h0 : 0 ≤ n * m) (h1 : n * m < 18446744073709551616) : (execOp ρ ⟨d, .binOp .mul 28 x y 28, ty, pos, after, g⟩).run Tryz.prog w = .ok (.value (.int .u64 (n * m))) w := by
  have e : IntKind.u64.wrap (n * m) = n * m := by rw [wrapU64]; exact Int.emod_eq_of_lt h0 h1
  simp only [execOp, h, h']; go_simp
theorem exCall1 {f : FuncId} {x : Operand} {v : Value} {ts : Array TypeId} (h : ρ x = v) (hf : ρ (.func f) = .func (.func f) #[] #[]) (hF : (callFunc f #[v]).run Tryz.prog w = .ok (.enter f #[v]) w) :
    (execOp ρ ⟨d, .call { callee := .value (.func f), args := #[x], argTypes := ts }, ty, pos, after, g⟩).run Tryz.prog w = .ok (.enter f #[v]) w := by
  simp only [execOp]; go_simp
theorem exCall2 {f : FuncId} {x y : Operand} {v u : Value} {ts : Array TypeId} (h : ρ x = v) (h' : ρ y = u) (hf : ρ (.func f) = .func (.func f) #[] #[]) (hF : (callFunc f #[v, u]).run Tryz.prog w = .ok (.enter f #[v, u]) w) :
    (execOp ρ ⟨d, .call { callee := .value (.func f), args := #[x, y], argTypes := ts }, ty, pos, after, g⟩).run Tryz.prog w = .ok (.enter f #[v, u]) w := by
  simp only [execOp]; go_simp
end
structure Puts (a a' : Act) (d : Nat) (v : Value) : Prop where
  z : a'.tmps.size = a.tmps.size
  f : a'.defers = a.defers
  v : a'.eval (.tmp d) = v
  n : ∀ k, k ≠ d → a'.eval (.tmp k) = a.eval (.tmp k)
theorem puts {a : Act} {d : Nat} {v : Value} (h : d < a.tmps.size) : Puts a (a.put (some d) v) d v := ⟨szPut, rfl, evPutEq h, fun _ hk => evPutNe hk⟩
def PL (a a' : Act) (ds : List Nat) : Prop := ∀ k, k ∉ ds → a'.eval (.tmp k) = a.eval (.tmp k)
theorem PL.nil (a : Act) : PL a a [] := fun _ _ => rfl
theorem Puts.l {a a' a'' : Act} {d : Nat} {v : Value} {ds : List Nat} (q : Puts a' a'' d v) (p : PL a a' ds) : PL a a'' (d :: ds) := fun k h => (q.n k (fun e => h (e ▸ List.mem_cons_self))).trans (p k (fun e => h (List.mem_cons_of_mem _ e)))
theorem stPut {P : Program} {ops : Array Oper} {w : World} {Q : Act → Prop} {rest : List Oper} {a : Act} {op : Op} {d : Nat} {ty : TypeId} {pos : String} {after : Array Edge} {v : Value}
    (hr : (execOp a.eval ⟨some d, op, ty, pos, after, none⟩).run P w = .ok (.value v) w) (hd : d < a.tmps.size) (h : ∀ a', Puts a a' d v → wpStill P ops w Q rest a') : wpStill P ops w Q (⟨some d, op, ty, pos, after, none⟩ :: rest) a :=
  stVal rfl hr (h _ (puts hd))
section
variable {P : Program} {ops : Array Oper} {Q : Exit → Act → World → Prop} {a : Act} {w : World} {rest : List Oper} {op : Op} {d : Nat} {ty : TypeId} {pos : String} {after : Array Edge}
theorem wlPut {v : Value} {w' : World} (hr : (execOp a.eval ⟨some d, op, ty, pos, after, none⟩).run P w = .ok (.value v) w') (hd : d < a.tmps.size) (h : ∀ a', Puts a a' d v → wpList P ops Q rest a' w') : wpList P ops Q (⟨some d, op, ty, pos, after, none⟩ :: rest) a w :=
  wpList_plain rfl fun K hK => by unfold Oper.wp; rw [hr]; exact hK _ _ (h _ (puts hd))
theorem wlSkip {w' : World} (hr : (execOp a.eval ⟨none, op, ty, pos, after, none⟩).run P w = .ok .skip w') (h : wpList P ops Q rest a w') : wpList P ops Q (⟨none, op, ty, pos, after, none⟩ :: rest) a w :=
  wpList_plain rfl fun K hK => by unfold Oper.wp; rw [hr]; exact hK _ _ h
theorem wlCall {f : FuncId} {args : Array Value} {R : Ending → World → Prop} (hr : (execOp a.eval ⟨some d, op, ty, pos, after, none⟩).run P w = .ok (.enter f args) w)
    (hc : Calls P f args w R) (hd : d < a.tmps.size) (h : ∀ e w', R e w' → ∃ v, e = .returned v ∧ ∀ a', Puts a a' d v → wpList P ops Q rest a' w') : wpList P ops Q (⟨some d, op, ty, pos, after, none⟩ :: rest) a w :=
  wpList_plain rfl fun K hK => by
    unfold Oper.wp; rw [hr]
    exact hc.mono fun e w' hR => by obtain ⟨v, rfl, h'⟩ := h e w' hR; exact hK _ _ (h' _ (puts hd))
end
section
variable {ρ : Operand → Value} {w : World} {d : Option Nat} {ty : TypeId} {pos : String} {after : Array Edge} {g : Option (Nat × Bool)}
theorem exAssign {x : Operand} {v : Value} (h : ρ x = v) : (execOp ρ ⟨d, .assign x, ty, pos, after, g⟩).run Tryz.prog w = .ok (.value v) w := by subst h; rfl
theorem exIndex73 {x : Operand} {b o i : Nat} (h : ρ x = .pointer (some ⟨b, o, none⟩)) (hc : ρ (.const (.int .i64 i)) = .int .i64 i) (hi : i < 3) : (execOp ρ ⟨d, .indexAddr 73 x (.const (.int .i64 i)), ty, pos, after, g⟩).run Tryz.prog w = .ok (.value (.pointer (some ⟨b, o + i, none⟩))) w := by
  simp only [execOp, h, hc]
  rcases i with _ | _ | _ | i
  all_goals first | (go_simp; done) | omega
theorem exMulC {x : Operand} {n K : Int} (h : ρ x = .int .u64 n) (hc : ρ (.const (.int .u64 K)) = .int .u64 K) (h0 : 0 ≤ n * K) (h1 : n * K < 18446744073709551616) : (execOp ρ ⟨d, .binOp .mul 28 x (.const (.int .u64 K)) 28, ty, pos, after, g⟩).run Tryz.prog w = .ok (.value (.int .u64 (n * K))) w :=
  exMul h hc h0 h1
theorem exConvDown {x : Operand} {n : Int} (h : ρ x = .int .u64 n) (hn : U32 n) : (execOp ρ ⟨d, .convert 28 33 x, ty, pos, after, g⟩).run Tryz.prog w = .ok (.value (.int .u32 n)) w := by
  obtain ⟨h0, h1⟩ := hn
  have e : IntKind.u32.wrap n = n := by rw [wrapU32]; omega
  simp only [execOp, h]; go_simp
theorem exStore33 {x y : Operand} {A : Addr} {n m : Int} (h : ρ x = .pointer (some A)) (h' : ρ y = .int .u32 n) (hc : w.cell? A = some (.int .u32 m)) (hf : w.frozen? A = false) : (execOp ρ ⟨d, .store 33 x y, ty, pos, after, g⟩).run Tryz.prog w = .ok .skip (w.setCell A (.int .u32 n)) := by
  simp only [execOp, h, h']; go_simp
end
structure Past (a a' : Act) (s : Nat) : Prop where
  z : a'.tmps.size = a.tmps.size
  f : a'.defers = a.defers
  n : ∀ k, k < s → a'.eval (.tmp k) = a.eval (.tmp k)
theorem Past.refl (a : Act) (s : Nat) : Past a a s := ⟨rfl, rfl, fun _ _ => rfl⟩
theorem Past.put {a a' a'' : Act} {s d : Nat} {v : Value} (h : Past a a' s) (k : Puts a' a'' d v) (hd : s ≤ d) : Past a a'' s := ⟨k.z.trans h.z, k.f.trans h.f, fun i hi => (k.n i (by omega)).trans (h.n i hi)⟩
def upd (V : Nat → Int) (d : Nat) (x : Int) : Nat → Int := fun k => if k = d then x else V k
structure AM (lo hi gs g : Nat) (a0 : Act) (w0 : World) (V : Nat → Int) (A : Int) (n : Nat) (a : Act) (w : World) : Prop where
  past : Past a0 a lo
  gp : a.eval (.tmp gs) = .pointer (some ⟨g, 0, none⟩)
  v : ∀ k, lo ≤ k → k < hi → a.eval (.tmp k) = .int .u64 (V k) ∧ U32 (V k)
  acc : Ac w g 0 A
  fz : Af3 w g 0
  b0 : 0 ≤ A
  b1 : A ≤ n * 18446744073709551616
  fr : Fr (Rng g 0 3) w0 w
theorem AM.next {lo hi gs g : Nat} {a0 : Act} {w0 : World} {V : Nat → Int} {A A' : Int} {n n' s : Nat} {a a' : Act} {w w' : World} (h : AM lo hi gs g a0 w0 V A n a w) (q : Past a a' s)
    (hs : lo ≤ s ∧ hi ≤ s ∧ gs < s) (hA : Ac w' g 0 A') (hF : Fr (Rng g 0 3) w w') (h0 : 0 ≤ A') (h1 : A' ≤ n' * 18446744073709551616) : AM lo hi gs g a0 w0 V A' n' a' w' :=
  ⟨⟨q.z.trans h.past.z, q.f.trans h.past.f, fun k hk => (q.n k (by omega)).trans (h.past.n k hk)⟩, (q.n gs hs.2.2).trans h.gp, fun k h1 h2 => ⟨(q.n k (by omega)).trans (h.v k h1 h2).1, (h.v k h1 h2).2⟩, hA, Af3.fr hF h.acc.lt h.fz, h0, h1, h.fr.trans hF⟩
theorem U32.mul {x y : Int} (ux : U32 x) (uy : U32 y) : 0 ≤ x * y ∧ x * y ≤ 18446744065119617025 := by
  refine ⟨Int.mul_nonneg ux.1 uy.1, ?_⟩
  have := Int.mul_le_mul (a := x) (c := 4294967295) (b := y) (d := 4294967295) (by have := ux.2; omega) (by have := uy.2; omega) uy.1 (by decide)
  omega
theorem accLim {A x : Int} {n : Nat} (hn : n < 1000) (hA : A ≤ n * 18446744073709551616) (hx : x ≤ 18446744065119617025) : A + x < 79228162514264337593543950336 ∧ A + x ≤ (n + 1 : Nat) * 18446744073709551616 := by omega
def mulOps (s i j : Nat) (pos : String) : List Oper :=
  [⟨some s, .move (.tmp 1), 51, pos, #[], none⟩,
   ⟨some (s + 1), .nilCheck (.tmp s), 0, pos, #[⟨0, .data⟩], none⟩,
   ⟨some (s + 2), .fieldAddr 44 (.tmp (s + 1)) 0, 0, pos, #[⟨1, .data⟩], none⟩,
   ⟨some (s + 3), .indexAddr 42 (.tmp (s + 2)) (.const (.int .i64 i)), 0, pos, #[⟨2, .data⟩], none⟩,
   ⟨some (s + 4), .load 33 (.tmp (s + 3)), 33, pos, #[⟨3, .data⟩], none⟩,
   ⟨some (s + 5), .convert 33 28 (.tmp (s + 4)), 28, pos, #[⟨4, .data⟩], none⟩,
   ⟨some (s + 6), .move (.tmp 2), 51, pos, #[], none⟩,
   ⟨some (s + 7), .nilCheck (.tmp (s + 6)), 0, pos, #[⟨6, .data⟩], none⟩,
   ⟨some (s + 8), .fieldAddr 44 (.tmp (s + 7)) 0, 0, pos, #[⟨7, .data⟩], none⟩,
   ⟨some (s + 9), .indexAddr 42 (.tmp (s + 8)) (.const (.int .i64 j)), 0, pos, #[⟨8, .data⟩], none⟩,
   ⟨some (s + 10), .load 33 (.tmp (s + 9)), 33, pos, #[⟨9, .data⟩], none⟩,
   ⟨some (s + 11), .convert 33 28 (.tmp (s + 10)), 28, pos, #[⟨10, .data⟩], none⟩,
   ⟨some (s + 12), .binOp .mul 28 (.tmp (s + 5)) (.tmp (s + 11)) 28, 28, pos, #[⟨5, .data⟩, ⟨11, .data⟩], none⟩,
   ⟨some (s + 13), .call { callee := .value (.func 55), args := #[.tmp 7, .tmp (s + 12)], argTypes := #[75, 28] }, 0, pos, #[⟨12, .data⟩], none⟩]
set_option maxRecDepth 10000 in
theorem mul_region {id s i j : Nat} {pos : String} {Q : Exit → Act → World → Prop} {a : Act} {w : World} {b o c p g : Nat} {x y A : Int}
    (hs : 24 ≤ s) (hz : s + 14 ≤ a.tmps.size) (hi : i < 8) (hj : j < 8) (e1 : a.eval (.tmp 1) = .pointer (some ⟨b, o, none⟩)) (e2 : a.eval (.tmp 2) = .pointer (some ⟨c, p, none⟩))
    (e7 : a.eval (.tmp 7) = .pointer (some ⟨g, 0, none⟩)) (hx : w.cell? ⟨b, o + i, none⟩ = some (.int .u32 x)) (hy : w.cell? ⟨c, p + j, none⟩ = some (.int .u32 y)) (ux : U32 x) (uy : U32 y)
    (hA : Ac w g 0 A) (hf : Af3 w g 0) (hl : A + x * y < 79228162514264337593543950336) (hB : Region.lexTailB .any (mulOps s i j pos).toArray 13 = true)
    (h : ∀ a' w', Past a a' s → Ac w' g 0 (A + x * y) → Fr (Rng g 0 3) w w' → Q .normal a' w') :
    Code.wp Tryz.prog (.region id (mulOps s i j pos).toArray true) Q a w := by
  obtain ⟨m0, m1⟩ := U32.mul ux uy
  have hl' := Lib.hid hl; clear hl
  refine wp_region_still_tail (l := mulOps s i j pos) 13 (by kernel_rfl) hB ?_
  change wpStill _ _ _ _ [_, _, _, _, _, _, _, _, _, _, _, _, _] _
  have q := Past.refl a s
  refine stPut (exMove e1) (by have := q.z; omega) ?_
  intro a0 p0
  replace q := q.put p0 (by omega)
  refine stPut (exNil p0.v) (by have := q.z; omega) ?_
  intro a1 p1
  replace q := q.put p1 (by omega)
  refine stPut (exField44 p1.v) (by have := q.z; omega) ?_
  intro a2 p2
  replace q := q.put p2 (by omega)
  refine stPut (exIndex42 p2.v rfl hi) (by have := q.z; omega) ?_
  intro a3 p3
  replace q := q.put p3 (by omega)
  refine stPut (exLoad33 p3.v hx) (by have := q.z; omega) ?_
  intro a4 p4
  replace q := q.put p4 (by omega)
  refine stPut (exConv p4.v ux) (by have := q.z; omega) ?_
  intro a5 p5
  replace q := q.put p5 (by omega)
  have L2 := q.n 2 (by omega)
  refine stPut (exMove (L2.trans e2)) (by have := q.z; omega) ?_
  intro a6 p6
  replace q := q.put p6 (by omega)
  refine stPut (exNil p6.v) (by have := q.z; omega) ?_
  intro a7 p7
  replace q := q.put p7 (by omega)
  refine stPut (exField44 p7.v) (by have := q.z; omega) ?_
  intro a8 p8
  replace q := q.put p8 (by omega)
  refine stPut (exIndex42 p8.v rfl hj) (by have := q.z; omega) ?_
  intro a9 p9
  replace q := q.put p9 (by omega)
  refine stPut (exLoad33 p9.v hy) (by have := q.z; omega) ?_
  intro a10 p10
  replace q := q.put p10 (by omega)
  refine stPut (exConv p10.v uy) (by have := q.z; omega) ?_
  intro a11 p11
  replace q := q.put p11 (by omega)
  have L5 := (p11.n _ (by omega)).trans ((p10.n _ (by omega)).trans ((p9.n _ (by omega)).trans ((p8.n _ (by omega)).trans ((p7.n _ (by omega)).trans ((p6.n _ (by omega)).trans (p5.v))))))
  refine stPut (exMul L5 p11.v m0 (by omega)) (by have := q.z; omega) ?_
  intro a12 p12
  replace q := q.put p12 (by omega)
  refine wpStill_nil ?_
  change wpList _ _ _ [_] _ _
  refine wlCall (exCall2 ((q.n 7 (by omega)).trans e7) p12.v rfl (by go_simp)) (accAdd g 0 A (x * y) _ hA hf m0 m1 hl'.out) (by have := q.z; omega) ?_
  rintro e w' ⟨rfl, hA', hF⟩
  refine ⟨_, rfl, fun a' pa => wpList_nil (h _ _ (q.put pa (by omega)) hA' ?_)⟩
  exact (Fr.refl _ _).drew.trans hF
section
variable {lo hi gs g : Nat} {a0 : Act} {w0 : World} {V : Nat → Int} {A : Int} {n s id src : Nat} {a : Act} {w : World} {Q : Exit → Act → World → Prop} {pos : String}
def addOps (s gs src : Nat) (pos : String) : List Oper :=
  [⟨some s, .move (.tmp src), 28, pos, #[], none⟩,
   ⟨some (s + 1), .call { callee := .value (.func 55), args := #[.tmp gs, .tmp s], argTypes := #[75, 28] }, 0, pos, #[⟨0, .data⟩], none⟩]
theorem add_region (h : AM lo hi gs g a0 w0 V A n a w) (hs : lo ≤ s ∧ hi ≤ s ∧ gs < s) (hz : s + 2 ≤ a.tmps.size) (hk : lo ≤ src ∧ src < hi) (hn : n < 1000)
    (k : ∀ a' w', AM lo hi gs g a0 w0 V (A + V src) (n + 1) a' w' → a'.tmps.size = a.tmps.size → Q .normal a' w') : Code.wp Tryz.prog (.region id (addOps s gs src pos).toArray false) Q a w := by
  obtain ⟨e, u⟩ := h.v src hk.1 hk.2
  obtain ⟨l1, l2⟩ := accLim (x := V src) hn h.b1 (by have := u.2; omega)
  have q := Past.refl a s
  refine wp_region_lit (l := addOps s gs src pos) ?_
  change wpList _ _ _ [_, _] _ _
  refine wlPut (exMove e) (by omega) ?_
  intro a1 p1
  replace q := q.put p1 (by omega)
  refine wlCall (exCall2 ((q.n gs (by omega)).trans h.gp) p1.v rfl (by go_simp)) (accAdd g 0 A (V src) _ h.acc h.fz u.1 (by have := u.2; omega) l1) (by have := q.z; omega) ?_
  rintro e' w' ⟨rfl, hA', hF⟩
  refine ⟨_, rfl, fun a' pa => wpList_nil (k _ _ (h.next (q.put pa (by omega)) hs hA' hF (by have := h.b0; have := u.1; omega) l2) (q.put pa (by omega)).z)⟩
def mulcOps (s gs src : Nat) (K : Int) (pos : String) : List Oper :=
  [⟨some s, .move (.tmp src), 28, pos, #[], none⟩,
   ⟨some (s + 1), .binOp .mul 28 (.tmp s) (.const (.int .u64 K)) 28, 28, pos, #[⟨0, .data⟩], none⟩,
   ⟨some (s + 2), .call { callee := .value (.func 55), args := #[.tmp gs, .tmp (s + 1)], argTypes := #[75, 28] }, 0, pos, #[⟨1, .data⟩], none⟩]
theorem mulc_region {K : Int} (h : AM lo hi gs g a0 w0 V A n a w) (hs : lo ≤ s ∧ hi ≤ s ∧ gs < s) (hz : s + 3 ≤ a.tmps.size) (hk : lo ≤ src ∧ src < hi) (hn : n < 1000) (uK : U32 K)
    (k : ∀ a' w', AM lo hi gs g a0 w0 V (A + V src * K) (n + 1) a' w' → a'.tmps.size = a.tmps.size → Q .normal a' w') : Code.wp Tryz.prog (.region id (mulcOps s gs src K pos).toArray false) Q a w := by
  obtain ⟨e, u⟩ := h.v src hk.1 hk.2
  obtain ⟨m0, m1⟩ := U32.mul u uK
  obtain ⟨l1, l2⟩ := accLim (x := V src * K) hn h.b1 m1
  have q := Past.refl a s
  refine wp_region_lit (l := mulcOps s gs src K pos) ?_
  change wpList _ _ _ [_, _, _] _ _
  refine wlPut (exMove e) (by omega) ?_
  intro a1 p1
  replace q := q.put p1 (by omega)
  refine wlPut (exMulC p1.v rfl m0 (by omega)) (by have := q.z; omega) ?_
  intro a2 p2
  replace q := q.put p2 (by omega)
  refine wlCall (exCall2 ((q.n gs (by omega)).trans h.gp) p2.v rfl (by go_simp)) (accAdd g 0 A (V src * K) _ h.acc h.fz m0 m1 l1) (by have := q.z; omega) ?_
  rintro e' w' ⟨rfl, hA', hF⟩
  refine ⟨_, rfl, fun a' pa => wpList_nil (k _ _ (h.next (q.put pa (by omega)) hs hA' hF (by have := h.b0; omega) l2) (q.put pa (by omega)).z)⟩
def rshOps (s gs : Nat) (pos : String) : List Oper :=
  [⟨some s, .call { callee := .value (.func 56), args := #[.tmp gs], argTypes := #[75] }, 0, pos, #[], none⟩]
theorem rsh_region (h : AM lo hi gs g a0 w0 V A n a w) (hs : lo ≤ s ∧ hi ≤ s ∧ gs < s) (hz : s + 1 ≤ a.tmps.size) (hn : n < 1000)
    (k : ∀ a' w', AM lo hi gs g a0 w0 V (A / 4294967296) 1 a' w' → a'.tmps.size = a.tmps.size → Q .normal a' w') : Code.wp Tryz.prog (.region id (rshOps s gs pos).toArray false) Q a w := by
  have q := Past.refl a s
  refine wp_region_lit (l := rshOps s gs pos) ?_
  change wpList _ _ _ [_] _ _
  refine wlCall (exCall1 h.gp rfl (by go_simp)) (accRsh g 0 A _ h.acc h.fz) (by have := q.z; omega) ?_
  rintro e' w' ⟨rfl, hA', hF⟩
  refine ⟨_, rfl, fun a' pa => wpList_nil (k _ _ (h.next (q.put pa (by omega)) hs hA' hF (by have := h.b0; omega) (by have := h.b0; have := h.b1; omega)) (q.put pa (by omega)).z)⟩
def getOps (s gs d : Nat) (pos : String) : List Oper :=
  [⟨some s, .fieldAddr 75 (.tmp gs) 0, 0, pos, #[], none⟩,
   ⟨some (s + 1), .indexAddr 73 (.tmp s) (.const (.int .i64 (0 : Nat))), 0, pos, #[⟨0, .data⟩], none⟩,
   ⟨some (s + 2), .load 33 (.tmp (s + 1)), 33, pos, #[⟨1, .data⟩], none⟩,
   ⟨some (s + 3), .convert 33 28 (.tmp (s + 2)), 28, pos, #[⟨2, .data⟩], none⟩,
   ⟨some d, .assign (.tmp (s + 3)), 28, pos, #[⟨3, .data⟩, ⟨0, .phase⟩, ⟨1, .phase⟩, ⟨2, .phase⟩, ⟨3, .phase⟩], none⟩]
theorem get_region {d top : Nat} (h : AM lo hi gs g a0 w0 V A n a w) (hs : lo ≤ s ∧ top ≤ s ∧ gs < s) (hz : s + 4 ≤ a.tmps.size) (hd : lo ≤ d ∧ d < top ∧ d ≠ gs) (hh : hi ≤ top) (ht : ∀ k, lo ≤ k → k < top → k < hi ∨ k = d)
    (k : ∀ a' w', AM lo top gs g a0 w0 (upd V d (A % 4294967296)) A n a' w' → a'.tmps.size = a.tmps.size → Q .normal a' w') : Code.wp Tryz.prog (.region id (getOps s gs d pos).toArray false) Q a w := by
  obtain ⟨n0, n1, n2, hA, HX⟩ := h.acc
  have hu := hA.2.2.2.1
  have e0 : A % 4294967296 = n0 := by have := hu.1; have := hu.2; omega
  have q := Past.refl a s
  refine wp_region_lit (l := getOps s gs d pos) ?_
  change wpList _ _ _ [_, _, _, _, _] _ _
  refine wlPut (exField75 h.gp) (by omega) ?_
  intro a1 p1
  replace q := q.put p1 (by omega)
  refine wlPut (exIndex73 p1.v rfl (by decide)) (by have := q.z; omega) ?_
  intro a2 p2
  replace q := q.put p2 (by omega)
  refine wlPut (exLoad33 p2.v hA.1) (by have := q.z; omega) ?_
  intro a3 p3
  replace q := q.put p3 (by omega)
  refine wlPut (exConv p3.v hu) (by have := q.z; omega) ?_
  intro a4 p4
  replace q := q.put p4 (by omega)
  refine wlPut (exAssign p4.v) (by have := q.z; omega) ?_
  intro a5 p5
  refine wpList_nil (k _ _ ⟨⟨p5.z.trans (q.z.trans h.past.z), p5.f.trans (q.f.trans h.past.f), fun k hk => (p5.n k (by omega)).trans ((q.n k (by omega)).trans (h.past.n k hk))⟩, (p5.n gs (by omega)).trans ((q.n gs (by omega)).trans h.gp), fun k h1 h2 => ?_, h.acc, h.fz, h.b0, h.b1, h.fr⟩ (p5.z.trans q.z))
  unfold upd
  split
  · subst k; rw [e0]; exact ⟨p5.v, hu⟩
  rename_i hne
  have hk : k < hi := (ht k h1 h2).resolve_right hne
  exact ⟨(p5.n k hne).trans ((q.n k (by omega)).trans (h.v k h1 hk).1), (h.v k h1 hk).2⟩
end
section
variable {ρ : Operand → Value} {w : World} {d : Option Nat} {ty : TypeId} {pos : String} {after : Array Edge} {g : Option (Nat × Bool)}
theorem exAlloc75 : (execOp ρ ⟨d, .alloc 75, ty, pos, after, g⟩).run Tryz.prog w = .ok (.value (.pointer (some ⟨w.heap.size, 0, none⟩))) (w.alloc (.cells #[.int .u32 0, .int .u32 0, .int .u32 0] 75)) := by
  simp only [execOp]; go_simp
end
theorem enterA {f : FuncId} {fn : Func} {c : Code} {args : Array Value} {w : World} {R : Ending → World → Prop} (hf : Tryz.prog.funcs[f]? = some fn) (hb : fn.body = some c)
    (h : ∀ a : Act, a.tmps.size = args.size + (fn.ntmps - args.size) → a.defers = [] → (∀ k v, args[k]? = some v → a.eval (.tmp k) = v) → c.wp Tryz.prog (bodyPost Tryz.prog fn R) a w) : Calls Tryz.prog f args w R := by
  refine calls_of_wp hf hb (h _ (by simp) rfl fun k v hk => ?_)
  simp only [Act.eval]
  have hlt : k < args.size := by
    rcases Nat.lt_or_ge k args.size with h1 | h1
    · exact h1
    rw [Array.getElem?_eq_none h1] at hk; cases hk
  rw [Array.getD_eq_getD_getElem?, Array.getElem?_append_left hlt, hk]; rfl
theorem retA {fn : Func} {R : Ending → World → Prop} {a : Act} {w : World} {t : Tmp} {v : Value} (h : fn.results = #[.tmp t]) (hd : a.defers = []) (hv : a.eval (.tmp t) = v) (hR : R (.returned v) w) :
    Code.ret.wp Tryz.prog (bodyPost Tryz.prog fn R) a w := by
  refine wp_ret ⟨hd, v, ?_, hR⟩
  subst hv
  exact results_tmp h _ _ _
theorem endA {fn : Func} {R : Ending → World → Prop} {a : Act} {w : World} (h : fn.results = #[]) (hd : a.defers = []) (hR : R (.returned (.tuple #[])) w) :
    bodyPost Tryz.prog fn R .normal a w := ⟨hd, .tuple #[], results_none h _ _ _, hR⟩
theorem ltz {a : Act} {n d : Nat} (z : a.tmps.size = n) (h : Nat.blt d n = true) : d < a.tmps.size := by rw [z]; simpa using h
theorem Exit.at_normal {K : Act → World → Prop} {Q : Exit → Act → World → Prop} {a : Act} {w : World} (h : K a w) : Exit.then K Q .normal a w := h
theorem wp_region1 {P : Program} {id : Nat} {o : Oper} {Q : Exit → Act → World → Prop} {a : Act} {w : World} (h : wpList P #[o] Q [o] a w) : (Code.region id #[o] false).wp P Q a w := wp_region_lit (l := [o]) h
theorem F8.of {w : World} {b o : Nat} (h : ∀ j, w.frozen? ⟨b, o + j, none⟩ = false) : F8 w b o := ⟨h 0, h 1, h 2, h 3, h 4, h 5, h 6, h 7⟩
theorem allocAcc (w : World) : Ac (w.alloc (.cells #[.int .u32 0, .int .u32 0, .int .u32 0] 75)) w.heap.size 0 0 ∧ Af3 (w.alloc (.cells #[.int .u32 0, .int .u32 0, .int .u32 0] 75)) w.heap.size 0 := by
  refine ⟨⟨0, 0, 0, ⟨?_, ?_, ?_, ⟨by decide, by decide⟩, ⟨by decide, by decide⟩, ⟨by decide, by decide⟩⟩, by decide⟩, ?_, ?_, ?_⟩
  all_goals first | (simp [World.cell?_alloc_new]; done) | (simp [World.frozen?, World.alloc]; done)
def W8 (w : World) (b o : Nat) (X : Nat → Int) : Prop := ∀ i, i < 8 → w.cell? ⟨b, o + i, none⟩ = some (.int .u32 (X i)) ∧ U32 (X i)
theorem mul_am {hi g s id i j n b o c p : Nat} {a0 a : Act} {w0 w : World} {V X Y : Nat → Int} {A : Int} {Q : Exit → Act → World → Prop} {pos : String}
    (h : AM 8 hi 7 g a0 w0 V A n a w) (e1 : a0.eval (.tmp 1) = .pointer (some ⟨b, o, none⟩)) (e2 : a0.eval (.tmp 2) = .pointer (some ⟨c, p, none⟩)) (hx : W8 w0 b o X) (hy : W8 w0 c p Y) (hb : b ≠ g) (hc : c ≠ g)
    (hij : i < 8 ∧ j < 8) (hs : 24 ≤ s ∧ hi ≤ 24) (hz : s + 14 ≤ a.tmps.size) (hn : n < 1000) (hB : Region.lexTailB .any (mulOps s i j pos).toArray 13 = true)
    (k : ∀ a' w', AM 8 hi 7 g a0 w0 V (A + X i * Y j) (n + 1) a' w' → a'.tmps.size = a.tmps.size → Q .normal a' w') : Code.wp Tryz.prog (.region id (mulOps s i j pos).toArray true) Q a w := by
  have hx' := hx i hij.1
  have hy' := hy j hij.2
  obtain ⟨m0, m1⟩ := U32.mul hx'.2 hy'.2
  obtain ⟨l1, l2⟩ := accLim (x := X i * Y j) hn h.b1 m1
  refine mul_region hs.1 hz hij.1 hij.2 ((h.past.n 1 (by decide)).trans e1) ((h.past.n 2 (by decide)).trans e2) h.gp (h.fr.someCell hx'.1 (fun f => hb f.1)) (h.fr.someCell hy'.1 (fun f => hc f.1)) hx'.2 hy'.2 h.acc h.fz l1 hB (fun a' w' q hA hF => ?_)
  exact k _ _ (h.next q ⟨by omega, by omega, by omega⟩ hA hF (by have := h.b0; omega) l2) q.z
theorem am_name {lo hi gs g : Nat} {a0 : Act} {w0 : World} {V : Nat → Int} {A : Int} {n : Nat} {a : Act} {w : World} (h : AM lo hi gs g a0 w0 V A n a w) : ∃ B, B = A ∧ AM lo hi gs g a0 w0 V B n a w := ⟨A, rfl, h⟩
end Go.Proofs.YtijgloklmiokhaaGreatDoor
