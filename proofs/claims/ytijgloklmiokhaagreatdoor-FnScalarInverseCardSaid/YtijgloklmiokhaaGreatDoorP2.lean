/-
Part 2 of 6 of the proof; what is proved stands in the last part.
-/
import Derived.Test.YtijgloklmiokhaaGreatDoorP1
set_option linter.unusedSimpArgs false
set_option linter.unusedVariables false
namespace Go.Proofs.YtijgloklmiokhaaGreatDoor
open Go.RowKit
section
set_option maxRecDepth 8000
theorem Lz.uniq {x s t : Nat} (h : Lz x s) (h' : Lz x t) : s = t := by
  have key : ∀ {a b : Nat}, Lz x a → Lz x b → a < b → False := by
    intro a b ha hb hlt
    have e : x * 2 ^ b = x * 2 ^ a * 2 ^ (b - a) := by rw [Nat.mul_assoc, ← Nat.pow_add, show a + (b - a) = b by omega]
    have h2 : 2 ≤ 2 ^ (b - a) := by have := Nat.pow_le_pow_right (show 0 < 2 by decide) (show 1 ≤ b - a by omega); simpa using this
    have h3 := Nat.mul_le_mul_left (x * 2 ^ a) h2
    have := ha.2.1; have := hb.2.2
    omega
  rcases Nat.lt_trichotomy s t with h1 | h1 | h1
  · exact (key h h' h1).elim
  · exact h1
  exact (key h' h h1).elim
def RP (y : Nat) (m : Int) : Prop := U64 m ∧ ∀ s, Lz y s → (m + 18446744073709551616) * (y * 2 ^ s : Nat) ≤ 340282366920938463463374607431768211455 ∧ 340282366920938463463374607431768211455 < (m + 18446744073709551616 + 1) * (y * 2 ^ s : Nat)
theorem Ez.not64 {a : Act} {N : Nat} {ds : List Deferred} {l : Env} {w : World} {d : Option Nat} {ty : TypeId} {pos : String} {after : Array Edge} {g : Option (Nat × Bool)} (H : Hd a N ds l) {x : Operand} {n : Int} (h : ov l x = some (.int .u64 n)) (hn : U64 n) :
    (execOp a.eval ⟨d, .unOp .xor 54 x, ty, pos, after, g⟩).run Tryz.prog w = .ok (.value (.int .u64 (18446744073709551615 - n))) w := by
  have e := H.o h
  have h2 := hn.2
  obtain ⟨n, rfl⟩ := Int.eq_ofNat_of_zero_le hn.1
  have e3 : (BitVec.ofInt 64 18446744073709551615 ^^^ BitVec.ofInt 64 (n : Int)).toNat = 18446744073709551615 - n := by
    rw [show BitVec.ofInt 64 18446744073709551615 = BitVec.allOnes 64 by decide, BitVec.allOnes_xor, BitVec.toNat_not, ofInt_u64 n (by omega)]
  have e2 : IntKind.u64.wrap ((18446744073709551615 - n : Nat) : Int) = 18446744073709551615 - n := by rw [IntKind.wrap_u64]; omega
  have e1 : (Op.unary .xor (.int .u64 n)).run Tryz.prog w = .ok (.int .u64 (18446744073709551615 - n)) w := by
    have e4 : (Op.unary .xor (.int .u64 n)).run Tryz.prog w = .ok (.int .u64 (IntKind.u64.wrap ((BitVec.ofInt 64 18446744073709551615 ^^^ BitVec.ofInt 64 (n : Int)).toNat : Int))) w := rfl
    rw [e4, e3, e2]
  simp only [execOp, e, Sem.run_bind, e1, Result.andThen]; rfl
theorem reciprocalWord (y : Nat) (hy : y < 18446744073709551616) (hy0 : 0 < y) (w : World) :
    Calls Tryz.prog 146 #[.int .u64 y] w fun e w' => ∃ m : Int, e = .returned (.int .u64 m) ∧ RP y m ∧ Cd w w' := by
  refine enterE (vs := [.int .u64 y]) Tryz.func146 rfl rfl ?_
  intro a H
  replace H : Hd a 22 [] [(0, .int .u64 y)] := H
  refine wp_seq (wp_region_lit (l := [_]) (wl H (Ez.asn H rfl) rfl (kW (kS (kR [_, _, _, _, _] (kM rfl rfl (kM rfl rfl ?_))))))); clear H a; intro a H
  refine wk H cf120 (nlz y hy hy0 w) rfl rfl ?_
  rintro _ w1 ⟨s, rfl, hs, rfl⟩
  refine ⟨_, rfl, ?_⟩; clear H a; intro a H
  obtain ⟨hs1, hs2, hs3⟩ := id hs
  obtain ⟨D, hD⟩ : ∃ D : Nat, D = y * 2 ^ s := ⟨_, rfl⟩
  have b64 : IntKind.u64.bits = 64 := rfl
  have eD : (y : Int) * 2 ^ s = (D : Int) := by rw [hD]; simp
  refine wl H (Ez.shlU H rfl rfl s rfl (by omega) (show (y : Int) * 2 ^ s % 18446744073709551616 = (D : Int) by rw [eD]; omega)) rfl (kA rfl rfl (kP [(2, _), (3, _)] rfl (kW (kS (kR [_, _, _] (kM rfl rfl (kL (fun a H => Ez.not64 H rfl (by unfold U64; omega)) rfl (kA rfl rfl (kP [(2, _), (3, _), (4, _)] rfl (kW (kS (kR [_] (kA rfl rfl (kW (kS (kR [_, _, _, _, _, _, _, _, _] (kM rfl rfl (kM rfl rfl (kM rfl rfl ?_))))))))))))))))))); clear H a; intro a H
  refine wk H cf145 (bitsDiv (18446744073709551615 - D) 18446744073709551615 D (by unfold U64; omega) (by unfold U64; omega) (by unfold U64; omega) (by omega) w) rfl rfl ?_
  rintro _ w1 ⟨rfl, hw⟩
  refine ⟨_, rfl, ?_⟩; clear H a; intro a H
  refine wl H (Ez.mv H rfl) rfl (kL (fun a H => Ez.ext0 H rfl) rfl (kL (fun a H => Ez.ext1 H rfl) rfl (kA rfl rfl (kA rfl rfl (kP [(2, _), (6, _)] rfl (kW (kS (kR [_, _] (kM rfl rfl (kA rfl rfl (kP [(2, _)] rfl (kW ?_)))))))))))); clear H a; intro a H
  refine wp_ret ?_
  refine rt1 H rfl rfl ?_
  refine ⟨_, rfl, ⟨?_, fun t ht => ?_⟩, hw⟩
  · have e1 := Int.ediv_nonneg (show (0 : Int) ≤ (18446744073709551615 - D) * 18446744073709551616 + 18446744073709551615 by omega) (show (0 : Int) ≤ D by omega)
    have e2 : ((18446744073709551615 - D) * 18446744073709551616 + 18446744073709551615 : Int) / D < 18446744073709551616 := Int.ediv_lt_of_lt_mul (by omega) (by omega)
    exact ⟨e1, e2⟩
  have := ht.uniq hs
  subst this
  rw [← hD]
  have e1 := Int.ediv_mul_le ((18446744073709551615 - D) * 18446744073709551616 + 18446744073709551615 : Int) (show (D : Int) ≠ 0 by omega)
  have e2 := Int.lt_ediv_add_one_mul_self ((18446744073709551615 - D) * 18446744073709551616 + 18446744073709551615 : Int) (show (0 : Int) < D by omega)
  generalize ((18446744073709551615 - D) * 18446744073709551616 + 18446744073709551615 : Int) / D = m at e1 e2 ⊢
  simp only [Int.add_mul, Int.one_mul] at e2 ⊢
  omega
theorem div_scale {N y P q r : Int} (hP : 0 < P) (hy : 0 < y) (h : N * P = q * (y * P) + r) (hr : 0 ≤ r ∧ r < y * P) : q = N / y ∧ r / P = N % y := by
  have e2 : r = (N - q * y) * P := by rw [Int.sub_mul, h, ← Int.mul_assoc]; omega
  have e3 : 0 ≤ N - q * y := by
    rcases Int.lt_or_le (N - q * y) 0 with h' | h'
    · have := Int.mul_neg_of_neg_of_pos h' hP; omega
    exact h'
  have e4 : N - q * y < y := by
    have : (N - q * y) * P < y * P := by rw [← e2]; exact hr.2
    exact Int.lt_of_mul_lt_mul_right this (by omega)
  have e5 : N = y * q + (N - q * y) := by rw [Int.mul_comm y]; omega
  have hq : N / y = q := by
    rw [e5, Int.mul_comm y, Int.add_comm, Int.add_mul_ediv_right _ _ (by omega), Int.ediv_eq_zero_of_lt (by omega) (by omega)]; omega
  have := Int.mul_ediv_add_emod N y
  rw [hq, Int.mul_comm y] at this
  refine ⟨hq.symm, ?_⟩
  rw [e2, Int.mul_ediv_cancel _ (by omega)]; omega
theorem recip_guess {m X1 X0 d T : Int} (hd : 9223372036854775808 ≤ d ∧ d < 18446744073709551616) (hX1 : 0 ≤ X1 ∧ X1 < d) (hX0 : U64 X0) (hm : 0 ≤ m)
    (h1 : (m + 18446744073709551616) * d ≤ 340282366920938463463374607431768211455) (h2 : 340282366920938463463374607431768211455 < (m + 18446744073709551616 + 1) * d)
    (t1 : T * 18446744073709551616 ≤ m * X1 + X1 * 18446744073709551616 + X0) (t2 : m * X1 + X1 * 18446744073709551616 + X0 < (T + 1) * 18446744073709551616) :
    0 ≤ X1 * 18446744073709551616 + X0 - d * T ∧ X1 * 18446744073709551616 + X0 - d * T < 18446744073709551616 + d := by
  obtain ⟨x0, x1⟩ := hX0
  have a1 := Int.mul_le_mul_of_nonneg_right h1 hX1.1
  have a2 := Int.mul_le_mul_of_nonneg_right t1 (show 0 ≤ d by omega)
  have a3 := Int.mul_le_mul_of_nonneg_left (show d ≤ 18446744073709551616 by omega) x0
  have a4 := Int.mul_le_mul_of_nonneg_right (show 340282366920938463463374607431768211456 ≤ (m + 18446744073709551616 + 1) * d by omega) hX1.1
  have a5 := Int.mul_le_mul_of_nonneg_right (show m * X1 + X1 * 18446744073709551616 + X0 + 1 ≤ (T + 1) * 18446744073709551616 by omega) (show 0 ≤ d by omega)
  have a6 := Int.mul_le_mul_of_nonneg_left (show X1 ≤ 18446744073709551616 by omega) (show 0 ≤ d by omega)
  have a7 := Int.mul_le_mul_of_nonneg_right (show X0 ≤ 18446744073709551616 by omega) (show 0 ≤ 18446744073709551616 - d by omega)
  have s1 : (m + 18446744073709551616) * d * X1 = m * X1 * d + 18446744073709551616 * (d * X1) := by rw [Int.add_mul, Int.add_mul, show m * d * X1 = m * X1 * d by ac_rfl, Int.mul_assoc 18446744073709551616]
  have s2 : T * 18446744073709551616 * d = 18446744073709551616 * (d * T) := by ac_rfl
  have s3 : (m * X1 + X1 * 18446744073709551616 + X0) * d = m * X1 * d + 18446744073709551616 * (d * X1) + X0 * d := by
    rw [Int.add_mul, Int.add_mul, show X1 * 18446744073709551616 * d = 18446744073709551616 * (d * X1) by ac_rfl]
  have s4 : (m + 18446744073709551616 + 1) * d * X1 = m * X1 * d + 18446744073709551616 * (d * X1) + d * X1 := by
    rw [Int.add_mul (m + 18446744073709551616), Int.add_mul, s1, Int.one_mul]
  have s5 : (m * X1 + X1 * 18446744073709551616 + X0 + 1) * d = m * X1 * d + 18446744073709551616 * (d * X1) + X0 * d + d := by rw [Int.add_mul _ 1, s3, Int.one_mul]
  have s6 : (T + 1) * 18446744073709551616 * d = 18446744073709551616 * (d * T) + 18446744073709551616 * d := by
    rw [Int.add_mul, Int.add_mul, s2]; omega
  have s7 : X0 * (18446744073709551616 - d) = 18446744073709551616 * X0 - X0 * d := by rw [Int.mul_sub, Int.mul_comm X0]
  have s8 : X0 * 18446744073709551616 = 18446744073709551616 * X0 := Int.mul_comm ..
  have s9 : d * 18446744073709551616 = 18446744073709551616 * d := Int.mul_comm ..
  constructor <;> omega
set_option maxHeartbeats 2000000 in
theorem divWW (x1 x0 m : Int) (y : Nat) (hx1 : U64 x1) (hx0 : U64 x0) (hy : y < 18446744073709551616) (hlt : x1 < y) (hm : RP y m) (w : World) :
    Calls Tryz.prog 147 #[.int .u64 x1, .int .u64 x0, .int .u64 y, .int .u64 m] w fun e w' => e = .returned (.tuple #[.int .u64 ((x1 * 18446744073709551616 + x0) / y), .int .u64 ((x1 * 18446744073709551616 + x0) % y)]) ∧ w = w' := by
  obtain ⟨w0, hw0⟩ : ∃ w0, w0 = w := ⟨w, rfl⟩
  rw [← hw0]
  clear hw0 w
  have b64 : IntKind.u64.bits = 64 := rfl
  have hx10 := hx1.1
  refine enterE (vs := [.int .u64 x1, .int .u64 x0, .int .u64 y, .int .u64 m]) Tryz.func147 rfl rfl ?_
  intro a H
  replace H : Hd a 100 [] [(0, .int .u64 x1), (1, .int .u64 x0), (2, .int .u64 y), (3, .int .u64 m)] := H
  refine wp_seq (wp_region_lit (l := [_, _]) (wl H (Ez.asn H rfl) rfl (kA rfl rfl (kW (kS (kR [_, _, _] (kM rfl rfl ?_))))))); clear H a; intro a H
  refine wk H cf120 (nlz y (by omega) (by omega) w0) rfl rfl ?_
  rintro _ w1 ⟨s, rfl, hs, rfl⟩
  refine ⟨_, rfl, ?_⟩; clear H a; intro a H
  obtain ⟨hs1, hs2, hs3⟩ := id hs
  obtain ⟨P, hP⟩ : ∃ P : Int, P = 2 ^ s := ⟨_, rfl⟩
  obtain ⟨R, hR⟩ : ∃ R : Int, R = 2 ^ (64 - s) := ⟨_, rfl⟩
  have hPp : 0 < P := by rw [hP]; exact two_pow_pos s
  have hRp : 0 < R := by rw [hR]; exact two_pow_pos _
  have hPR : P * R = 18446744073709551616 := by rw [hP, hR]; exact pow_split (by omega)
  obtain ⟨d, hd⟩ : ∃ d : Int, d = y * P := ⟨_, rfl⟩
  have hdn : d = ((y * 2 ^ s : Nat) : Int) := by rw [hd, hP]; simp
  have bd : 9223372036854775808 ≤ d ∧ d < 18446744073709551616 := by omega
  obtain ⟨um, hm2⟩ := hm
  obtain ⟨m1, m2⟩ := hm2 s hs
  rw [← hdn] at m1 m2
  have hl := lohi hx0 hPp hRp hPR
  have hhi2 : x1 * P + P ≤ d := by
    have := Int.mul_le_mul_of_nonneg_right (show x1 + 1 ≤ y by omega) (Int.le_of_lt hPp)
    rw [Int.add_mul, Int.one_mul] at this; omega
  have hhP : 0 ≤ x1 * P := Int.mul_nonneg hx1.1 (Int.le_of_lt hPp)
  obtain ⟨X1, hX1⟩ : ∃ X1, X1 = x1 * P + x0 / R := ⟨_, rfl⟩
  obtain ⟨X0, hX0⟩ : ∃ X0, X0 = x0 * P % 18446744073709551616 := ⟨_, rfl⟩
  have bX1 : 0 ≤ X1 ∧ X1 < d := by omega
  have bX0 : U64 X0 := by unfold U64; omega
  have hU : (x1 * 18446744073709551616 + x0) * P = X1 * 18446744073709551616 + X0 := by rw [Int.add_mul, show x1 * 18446744073709551616 * P = x1 * P * 18446744073709551616 by ac_rfl]; omega
  have hej : bits .or .u64 (x1 * P) (x0 / R) = X1 := by
    rw [hX1, hP]; refine orJ s (by omega) ?_ (by rw [← hP]; exact Int.mul_emod_left _ _) ?_
    · rw [← hP]; unfold U64; omega
    rw [← hP]; exact hl.2.1
  have bm := mul_lt64 um (show U64 X1 by unfold U64; omega)
  obtain ⟨p, hp⟩ : ∃ p, p = m * X1 := ⟨_, rfl⟩
  rw [← hp] at bm
  obtain ⟨T, hT⟩ : ∃ T, T = (p + X1 * 18446744073709551616 + X0) / 18446744073709551616 := ⟨_, rfl⟩
  have hg := recip_guess (T := T) bd bX1 bX0 um.1 m1 m2 (by rw [← hp]; omega) (by rw [← hp]; omega)
  have bTd : 0 ≤ T ∧ T < 18446744073709551616 := by
    refine ⟨by unfold U64 at bX0; omega, ?_⟩
    have : d * T < d * 18446744073709551616 := by unfold U64 at bX0; omega
    exact Int.lt_of_mul_lt_mul_left this (by omega)
  have bdT := mul_lt64 (show U64 d by unfold U64; omega) (show U64 T from bTd)
  obtain ⟨f, hf⟩ : ∃ f, f = d * T := ⟨_, rfl⟩
  rw [← hf] at hg bdT
  obtain ⟨r, hr⟩ : ∃ r, r = X1 * 18446744073709551616 + X0 - f := ⟨_, rfl⟩
  rw [← hr] at hg
  refine wl H (Ez.asn H rfl) rfl (kP [(0, _), (1, _), (2, _), (3, _), (8, _), (9, _), (10, _)] rfl (kW ?_)); clear H a; intro a H
  refine wp_cut (fun a w => Hd a 100 [] [(0, .int .u64 X1), (1, .int .u64 X0), (2, .int .u64 d), (3, .int .u64 m), (10, .int .u64 s)] ∧ w0 = w) ?_ ?_
  · refine wp_seq (wp_region_lit (l := [_, _]) (wl H (Ez.mv H rfl) rfl (kL (fun a H => Ez.neq H rfl rfl (rfl)) rfl (kP [(0, _), (1, _), (2, _), (3, _), (8, _), (9, _), (10, _), (26, _)] rfl (kW ?_))))); clear H a; intro a H
    refine wp_cond_split (H.o rfl) (fun hb => ?_) (fun hb => ?_)
    · have hs0 : s ≠ 0 := by simp at hb; omega
      refine wp_seq (wp_region_lit (l := [_, _, _, _, _, _, _, _, _]) (wl H (Ez.mv H rfl) rfl (kM rfl rfl (kL (fun a H => Ez.shlU H rfl rfl s rfl (by omega) (show x1 * 2 ^ s % 18446744073709551616 = x1 * P by rw [← hP]; omega)) rfl (kM rfl rfl (kM rfl rfl (kL (fun a H => Ez.subU (r := ((64 - s : Nat) : Int)) H rfl rfl (by omega)) rfl (kL (fun a H => Ez.shrU H rfl rfl (64 - s) rfl (by omega) (show x0 / 2 ^ (64 - s) = x0 / R by rw [hR])) rfl (kL (fun a H => Ez.or H rfl rfl (hej)) rfl (kA rfl rfl (kP [(0, _), (1, _), (2, _), (3, _), (8, _), (9, _), (10, _)] rfl (kW (kS (kR [_, _, _, _] (kM rfl rfl (kM rfl rfl (kL (fun a H => Ez.shlU H rfl rfl s rfl (by omega) (show x0 * 2 ^ s % 18446744073709551616 = X0 by rw [← hP, hX0])) rfl (kA rfl rfl (kP [(0, _), (1, _), (2, _), (3, _), (8, _), (9, _), (10, _)] rfl (kW (kR [_, _, _, _] (kM rfl rfl (kM rfl rfl (kL (fun a H => Ez.shlU H rfl rfl s rfl (by omega) (show (y : Int) * 2 ^ s % 18446744073709551616 = d by rw [← hP, ← hd]; omega)) rfl (kA rfl rfl (kP [(0, _), (1, _), (2, _), (3, _), (8, _), (9, _), (10, _)] rfl (kW ?_))))))))))))))))))))))))))); clear H a; intro a H
      replace H : Hd a 100 [] [(0, _), (1, _), (2, _), (3, _), (10, _)] := H.pick [0, 1, 2, 3, 10]
      first | exact ⟨H, rfl⟩ | (subst hs0; have eP : P = 1 := hP.trans rfl; have eR : R = 18446744073709551616 := hR.trans (by decide); have u0 := hx0.1; have u1 := hx0.2; have e1 : X1 = x1 := (by rw [hX1, eP, eR, Int.mul_one, Int.ediv_eq_zero_of_lt u0 u1, Int.add_zero]); have e0 : x0 * P = x0 := (by rw [eP, Int.mul_one]); have e2 : X0 = x0 := (by omega); have e3 : d = y := (by rw [hd, eP, Int.mul_one]); rw [e1, e2, e3]; exact ⟨H, rfl⟩)
    have hs0 : s = 0 := by simp at hb; omega
    refine wp_skip (thn ?_)
    replace H : Hd a 100 [] [(0, _), (1, _), (2, _), (3, _), (10, _)] := H.pick [0, 1, 2, 3, 10]
    first | exact ⟨H, rfl⟩ | (subst hs0; have eP : P = 1 := hP.trans rfl; have eR : R = 18446744073709551616 := hR.trans (by decide); have u0 := hx0.1; have u1 := hx0.2; have e1 : X1 = x1 := (by rw [hX1, eP, eR, Int.mul_one, Int.ediv_eq_zero_of_lt u0 u1, Int.add_zero]); have e0 : x0 * P = x0 := (by rw [eP, Int.mul_one]); have e2 : X0 = x0 := (by omega); have e3 : d = y := (by rw [hd, eP, Int.mul_one]); rw [e1, e2, e3]; exact ⟨H, rfl⟩)
  clear H a
  intro a w hJ
  obtain ⟨H, rfl⟩ := hJ
  refine wp_seq (wp_region_lit (l := [_, _]) (wl H (Ez.mv H rfl) rfl (kA rfl rfl (kP [(0, _), (1, _), (3, _), (10, _), (11, _)] rfl (kW (kS (kR [_, _, _, _, _, _, _, _] (kM rfl rfl (kM rfl rfl ?_))))))))); clear H a; intro a H
  refine wk H cf169 (bitsMul m X1 um (by unfold U64; omega) w0) rfl rfl ?_
  rintro _ w1 ⟨rfl, rfl⟩
  refine ⟨_, rfl, ?_⟩; clear H a; intro a H
  refine wl H (Ez.mv H rfl) rfl (kL (fun a H => Ez.ext0 H rfl) rfl (kL (fun a H => Ez.ext1 H rfl) rfl (kA rfl rfl (kA rfl rfl (kP [(0, _), (1, _), (10, _), (11, _), (12, _), (13, _)] rfl (kW ?_)))))); clear H a; intro a H
  rw [← hp] at H
  refine wp_seq (wp_region_lit (l := [_, _, _, _, _, _, _, _]) (wl H (Ez.mv H rfl) rfl (kM rfl rfl ?_))); clear H a; intro a H
  refine wk H cf124 (bitsAdd (p % 18446744073709551616) X0 0 (by unfold U64; omega) bX0 (by decide) w0) rfl rfl ?_
  rintro _ w1 ⟨rfl, rfl⟩
  refine ⟨_, rfl, ?_⟩; clear H a; intro a H
  refine wl H (Ez.mv H rfl) rfl (kL (fun a H => Ez.ext0 H rfl) rfl (kL (fun a H => Ez.ext1 H rfl) rfl (kA rfl rfl (kA rfl rfl (kP [(0, _), (1, _), (10, _), (11, _), (12, _), (15, _)] rfl (kW (kS (kR [_, _, _, _, _, _, _, _] (kM rfl rfl (kM rfl rfl (kM rfl rfl ?_))))))))))); clear H a; intro a H
  refine wk H cf124 (bitsAdd (p / 18446744073709551616) X1 ((p % 18446744073709551616 + X0 + 0) / 18446744073709551616) (by unfold U64; omega) (by unfold U64; omega) (by unfold U64 at bX0; omega) w0) rfl rfl ?_
  rintro _ w1 ⟨rfl, rfl⟩
  refine ⟨_, rfl, ?_⟩; clear H a; intro a H
  refine wl H (Ez.mv H rfl) rfl (kL (fun a H => Ez.ext0 H rfl) rfl (kL (fun a H => Ez.ext1 H rfl) rfl (kA rfl rfl (kP [(0, _), (1, _), (10, _), (11, _), (12, _)] rfl (kW ?_))))); clear H a; intro a H
  rw [show (p / 18446744073709551616 + X1 + (p % 18446744073709551616 + X0 + 0) / 18446744073709551616) % 18446744073709551616 = T by unfold U64 at bX0; omega] at H
  refine wp_seq (wp_region_lit (l := [_, _]) (wl H (Ez.mv H rfl) rfl (kA rfl rfl (kP [(0, _), (1, _), (10, _), (11, _), (16, _)] rfl (kW (kS (kR [_, _, _, _, _, _, _, _] (kM rfl rfl (kM rfl rfl ?_))))))))); clear H a; intro a H
  refine wk H cf169 (bitsMul d T (by unfold U64; omega) bTd w0) rfl rfl ?_
  rintro _ w1 ⟨rfl, rfl⟩
  refine ⟨_, rfl, ?_⟩; clear H a; intro a H
  refine wl H (Ez.mv H rfl) rfl (kL (fun a H => Ez.ext0 H rfl) rfl (kL (fun a H => Ez.ext1 H rfl) rfl (kA rfl rfl (kA rfl rfl (kP [(0, _), (1, _), (10, _), (11, _), (16, _), (17, _), (18, _)] rfl (kW ?_)))))); clear H a; intro a H
  rw [← hf] at H
  refine wp_seq (wp_region_lit (l := [_, _, _, _, _, _, _, _]) (wl H (Ez.mv H rfl) rfl (kM rfl rfl ?_))); clear H a; intro a H
  refine wk H cf126 (bitsSub X0 (f % 18446744073709551616) 0 bX0 (by unfold U64; omega) (by decide) w0) rfl rfl ?_
  rintro _ w1 ⟨rfl, rfl⟩
  refine ⟨_, rfl, ?_⟩; clear H a; intro a H
  refine wl H (Ez.mv H rfl) rfl (kL (fun a H => Ez.ext0 H rfl) rfl (kL (fun a H => Ez.ext1 H rfl) rfl (kA rfl rfl (kA rfl rfl (kP [(0, _), (10, _), (11, _), (16, _), (17, _), (19, _), (20, _)] rfl (kW (kS (kR [_, _, _, _, _, _, _, _, _] (kM rfl rfl (kM rfl rfl (kM rfl rfl ?_))))))))))); clear H a; intro a H
  refine wk H cf126 (bitsSub X1 (f / 18446744073709551616) (if X0 < f % 18446744073709551616 + 0 then 1 else 0) (by unfold U64; omega) (by unfold U64; omega) (by split <;> decide) w0) rfl rfl ?_
  rintro _ w1 ⟨rfl, rfl⟩
  refine ⟨_, rfl, ?_⟩; clear H a; intro a H
  refine wl H (Ez.mv H rfl) rfl (kL (fun a H => Ez.ext0 H rfl) rfl (kL (fun a H => Ez.ext1 H rfl) rfl (kA rfl rfl (kA rfl rfl (kP [(10, _), (11, _), (16, _), (19, _), (21, _)] rfl (kW ?_)))))); clear H a; intro a H
  rw [show (X1 - f / 18446744073709551616 - (if X0 < f % 18446744073709551616 + 0 then 1 else 0)) % 18446744073709551616 = r / 18446744073709551616 by unfold U64 at bX0; split <;> omega, show (X0 - f % 18446744073709551616 - 0) % 18446744073709551616 = r % 18446744073709551616 by unfold U64 at bX0; omega] at H
  refine wp_cut (fun a w => ∃ T' r', Hd a 100 [] [(10, .int .u64 s), (11, .int .u64 d), (16, .int .u64 T'), (19, .int .u64 r')] ∧ d * T' + r' = X1 * 18446744073709551616 + X0 ∧ 0 ≤ r' ∧ r' < d + d ∧ 0 ≤ T' ∧ r' < 18446744073709551616 ∧ w0 = w) ?_ ?_
  · refine wp_seq (wp_region_lit (l := [_, _]) (wl H (Ez.mv H rfl) rfl (kL (fun a H => Ez.neq H rfl rfl (rfl)) rfl (kP [(10, _), (11, _), (16, _), (19, _), (82, _)] rfl (kW ?_))))); clear H a; intro a H
    refine wp_cond_split (H.o rfl) (fun hb => ?_) (fun hb => ?_)
    · have hr1 : 18446744073709551616 ≤ r := by simp at hb; omega
      have bT1 : T + 1 < 18446744073709551616 := by
        have : d * (T + 1) < d * 18446744073709551616 := by rw [Int.mul_add, ← hf]; unfold U64 at bX0; omega
        exact Int.lt_of_mul_lt_mul_left this (by omega)
      refine wp_seq (wp_region_lit (l := [_, _, _]) (wl H (Ez.mv H rfl) rfl (kL (fun a H => Ez.addU (r := T + 1) H rfl rfl (by omega)) rfl (kA rfl rfl (kP [(10, _), (11, _), (16, _), (19, _)] rfl (kW (kR [_, _, _, _] (kM rfl rfl (kM rfl rfl (kL (fun a H => Ez.subU (r := r - d) H rfl rfl (by omega)) rfl (kA rfl rfl (kP [(10, _), (11, _), (16, _), (19, _)] rfl (kW (kP [(10, _), (11, _), (16, _), (19, _)] rfl ?_)))))))))))))); clear H a; intro a H
      first | exact ⟨T + 1, r - d, H, by rw [Int.mul_add, ← hf]; omega, by omega, by omega, by omega, by omega, rfl⟩ | (rw [show r % 18446744073709551616 = r by omega] at H; exact ⟨T, r, H, by rw [← hf]; omega, by omega, by omega, by omega, by omega, rfl⟩)
    have hr1 : r < 18446744073709551616 := by simp at hb; omega
    refine wp_skip (thn ?_)
    replace H : Hd a 100 [] [(10, _), (11, _), (16, _), (19, _)] := H.pick [10, 11, 16, 19]
    first | exact ⟨T + 1, r - d, H, by rw [Int.mul_add, ← hf]; omega, by omega, by omega, by omega, by omega, rfl⟩ | (rw [show r % 18446744073709551616 = r by omega] at H; exact ⟨T, r, H, by rw [← hf]; omega, by omega, by omega, by omega, by omega, rfl⟩)
  clear H a
  intro a w hJ
  obtain ⟨T', r', H, hT', hr0, hr2, hTn, hrB, rfl⟩ := hJ
  have bT2 : T' < 18446744073709551616 := by
    have : d * T' < d * 18446744073709551616 := by unfold U64 at bX0; omega
    exact Int.lt_of_mul_lt_mul_left this (by omega)
  refine wp_cut (fun a w => ∃ T' r', Hd a 100 [] [(10, .int .u64 s), (16, .int .u64 T'), (19, .int .u64 r')] ∧ T' * d + r' = X1 * 18446744073709551616 + X0 ∧ (0 ≤ r' ∧ r' < d) ∧ w0 = w) ?_ ?_
  · refine wp_seq (wp_region_lit (l := [_, _, _]) (wl H (Ez.mv H rfl) rfl (kM rfl rfl (kL (fun a H => Ez.geq H rfl rfl (rfl)) rfl (kP [(10, _), (11, _), (16, _), (19, _), (90, _)] rfl (kW ?_)))))); clear H a; intro a H
    refine wp_cond_split (H.o rfl) (fun hb => ?_) (fun hb => ?_)
    · have hr3 : d ≤ r' := by simpa using hb
      have bT3 : T' + 1 < 18446744073709551616 := by
        have : d * (T' + 1) < d * 18446744073709551616 := by rw [Int.mul_add]; unfold U64 at bX0; omega
        exact Int.lt_of_mul_lt_mul_left this (by omega)
      refine wp_seq (wp_region_lit (l := [_, _, _]) (wl H (Ez.mv H rfl) rfl (kL (fun a H => Ez.addU (r := T' + 1) H rfl rfl (by omega)) rfl (kA rfl rfl (kP [(10, _), (11, _), (16, _), (19, _)] rfl (kW (kR [_, _, _, _] (kM rfl rfl (kM rfl rfl (kL (fun a H => Ez.subU (r := r' - d) H rfl rfl (by omega)) rfl (kA rfl rfl (kP [(10, _), (16, _), (19, _)] rfl (kW (kP [(10, _), (16, _), (19, _)] rfl ?_)))))))))))))); clear H a; intro a H
      first | exact ⟨T' + 1, r' - d, H, by rw [Int.mul_comm, Int.mul_add]; omega, by omega, rfl⟩ | exact ⟨T', r', H, by rw [Int.mul_comm]; omega, by omega, rfl⟩
    have hr3 : r' < d := by have := of_decide_eq_false hb; omega
    refine wp_skip (thn ?_)
    replace H : Hd a 100 [] [(10, _), (16, _), (19, _)] := H.pick [10, 16, 19]
    first | exact ⟨T' + 1, r' - d, H, by rw [Int.mul_comm, Int.mul_add]; omega, by omega, rfl⟩ | exact ⟨T', r', H, by rw [Int.mul_comm]; omega, by omega, rfl⟩
  clear H a
  intro a w hJ
  obtain ⟨T', r', H, hT', hr0, rfl⟩ := hJ
  refine wp_seq (wp_region_lit (l := [_, _, _, _, _, _]) (wl H (Ez.mv H rfl) rfl (kM rfl rfl (kM rfl rfl (kL (fun a H => Ez.shrU H rfl rfl s rfl (by omega) (show r' / 2 ^ s = r' / P by rw [hP])) rfl (kA rfl rfl (kA rfl rfl (kP [(8, _), (9, _)] rfl (kW ?_))))))))); clear H a; intro a H
  refine wp_ret ?_
  refine rt2 H rfl rfl rfl ?_
  obtain ⟨e1, e2⟩ := div_scale (N := x1 * 18446744073709551616 + x0) (y := y) (P := P) (q := T') (r := r') hPp (by omega) (by rw [hU, ← hd]; omega) (by rw [← hd]; exact hr0)
  rw [e1, e2]
  exact ⟨rfl, rfl⟩
theorem nvo_cons (X : Nat → Int) (o m : Nat) : nvo X o (m + 1) = X o + BB * nvo X (o + 1) m := by
  have h : nvo X o 1 = X o := by simp [nvo, nv]
  rw [Nat.add_comm, nvo_add X o 1 m, h, show BB ^ 1 = BB by decide, Int.mul_comm]
theorem divq {r x y : Int} (hr : 0 ≤ r ∧ r < y) (hx : U64 x) : U64 ((r * 18446744073709551616 + x) / y) ∧ (0 ≤ (r * 18446744073709551616 + x) % y ∧ (r * 18446744073709551616 + x) % y < y) ∧ (r * 18446744073709551616 + x) / y * y + (r * 18446744073709551616 + x) % y = r * 18446744073709551616 + x := by
  obtain ⟨x0, x1⟩ := hx
  refine ⟨⟨Int.ediv_nonneg (by omega) (by omega), Int.ediv_lt_of_lt_mul (by omega) ?_⟩, ⟨Int.emod_nonneg _ (by omega), Int.emod_lt_of_pos _ (by omega)⟩, by rw [Int.mul_comm]; exact Int.mul_ediv_add_emod _ _⟩
  have := Int.mul_le_mul_of_nonneg_left (show r + 1 ≤ y by omega) (show (0 : Int) ≤ 18446744073709551616 by decide)
  omega
theorem divWVW (bz oz cz bx ox cx n mz mx y : Nat) (Z X : Nat → Int) (xn : Int) (w : World) (hz : Wk w bz cz Z) (hx : Wk w bx cx X)
    (halx : bx = bz → ox = oz) (lz : oz + n ≤ cz) (lx : ox + n ≤ cx) (hn : n < 1000000000) (hn1 : 1 ≤ n) (hy : y < 18446744073709551616) (hxn : 0 ≤ xn ∧ xn < y) :
    Calls Tryz.prog 128 #[.slice (some ⟨bz, oz, none⟩) n mz, .int .u64 xn, .slice (some ⟨bx, ox, none⟩) n mx, .int .u64 y] w fun e w' => ∃ (r : Int) (Z' : Nat → Int), e = .returned (.int .u64 r) ∧ Wk w' bz cz Z' ∧ (∀ k, (k < oz ∨ oz + n ≤ k) → Z' k = Z k) ∧ xn * BB ^ n + nvo X ox n = nvo Z' oz n * y + r ∧ (0 ≤ r ∧ r < y) ∧ Fr (Bl bz) w w' := by
  obtain ⟨w0, hw0⟩ : ∃ w0, w0 = w := ⟨w, rfl⟩
  rw [← hw0]
  rw [← hw0] at hz hx
  clear hw0 w
  refine enterE (vs := [.slice (some ⟨bz, oz, none⟩) n mz, .int .u64 xn, .slice (some ⟨bx, ox, none⟩) n mx, .int .u64 y]) Tryz.func128 rfl rfl ?_
  intro a H
  replace H : Hd a 54 [] [(0, .slice (some ⟨bz, oz, none⟩) n mz), (1, .int .u64 xn), (2, .slice (some ⟨bx, ox, none⟩) n mx), (3, .int .u64 y)] := H
  refine wp_seq (wp_region_lit (l := [_]) (wl H (Ez.asn H rfl) rfl (kW (kS (kR [_, _] (kM rfl rfl (kA rfl rfl (kP [(0, _), (2, _), (3, _), (8, _)] rfl (kW (kS (kS ?_))))))))))); clear H a; intro a H
  by_cases hn2 : n = 1
  · refine wp_region_lit (l := [_, _, _]) (wl H (Ez.mv H rfl) rfl (kL (fun a H => Ez.len79 H rfl) rfl (kL (fun a H => Ez.eql (r := true) H rfl rfl (by (simp; omega))) rfl (kP [(0, _), (2, _), (3, _), (8, _), (16, _)] rfl (kW ?_))))); clear H a; intro a H
    refine wp_cond_true (H.o rfl) (wp_seq ?_)
    subst hn2
    have hx0 := hx.cell (j := ox + 0) (by omega)
    have ux := hx.u (ox + 0) (by omega)
    have hq := divq hxn ux
    refine wp_region_lit (l := [_, _, _, _, _, _, _, _, _, _, _]) (wl H (Ez.mv H rfl) rfl (kM rfl rfl (kL (fun a H => Ez.ix79 H rfl rfl 0 rfl (by omega)) rfl (kL (fun a H => Ez.ld103 H rfl (hx0)) rfl (kM rfl rfl ?_))))); clear H a; intro a H
    refine wk H cf145 (bitsDiv xn (X (ox + 0)) y (by unfold U64; omega) ux (by unfold U64; omega) (by omega) w0) rfl rfl ?_
    rintro _ w1 ⟨rfl, hcd⟩
    refine ⟨_, rfl, ?_⟩; clear H a; intro a H
    have hz1 := hz.heq hcd.heap
    refine wl H (Ez.mv H rfl) rfl (kL (fun a H => Ez.ext0 H rfl) rfl (kL (fun a H => Ez.ext1 H rfl) rfl (kA rfl rfl (kA rfl rfl (kP [(0, _), (2, _), (3, _), (8, _), (9, _), (10, _)] rfl (kW (kS (kR [_, _, _, _] (kM rfl rfl (kM rfl rfl (kL (fun a H => Ez.ix79 H rfl rfl 0 rfl (by omega)) rfl ?_))))))))))); clear H a; intro a H
    refine wls H (Ez.st103 H rfl rfl rfl (hz1.cell (by omega)) (hz1.fz _)) ?_; clear H; intro H
    refine kP [(0, _), (2, _), (3, _), (8, _), (10, _)] rfl (kW (kS (kR [_, _] (kM rfl rfl (kA rfl rfl (kP [(0, _), (2, _), (3, _), (8, _)] rfl (kW ?_))))))) a H; clear H a; intro a H
    refine wp_ret (thr ?_)
    refine rt1 H rfl rfl ?_
    refine ⟨_, up Z (oz + 0) _, rfl, hz1.set (by omega) hq.1, fun k hk => up_ne (by omega), ?_, hq.2.1, (hcd.fr _).trans (Fr.bl _)⟩
    simp only [nvo, nv, up_eq, Int.zero_add, Int.pow_zero, Int.mul_one]
    rw [show BB ^ 1 = 18446744073709551616 by decide]
    omega
  refine wp_region_lit (l := [_, _, _]) (wl H (Ez.mv H rfl) rfl (kL (fun a H => Ez.len79 H rfl) rfl (kL (fun a H => Ez.eql (r := false) H rfl rfl (by (simp; omega))) rfl (kP [(0, _), (2, _), (3, _), (8, _), (16, _)] rfl (kW ?_))))); clear H a; intro a H
  refine wp_cond_false (H.o rfl) (wp_skip (thn (wp_seq (wp_region_lit (l := [_, _, _]) (wl H (Ez.mv H rfl) rfl ?_))))); clear H a; intro a H
  refine wk H cf146 (reciprocalWord y hy (by omega) w0) rfl rfl ?_
  rintro _ w1 ⟨m, rfl, hm, hcd⟩
  refine ⟨_, rfl, ?_⟩; clear H a; intro a H
  refine wl H (Ez.asn H rfl) rfl (kP [(0, _), (2, _), (3, _), (8, _), (11, _)] rfl (kW (kS (kS (kR [_, _, _, _] (kM rfl rfl (kL (fun a H => Ez.len79 H rfl) rfl (kL (fun a H => Ez.subI (r := ((n : Int) - 1)) H rfl rfl (by omega) (by omega)) rfl (kA rfl rfl (kP [(0, _), (2, _), (3, _), (8, _), (11, _), (12, _)] rfl (kW ?_))))))))))); clear H a; intro a H
  refine wp_block ?_
  refine wp_loopN (fun mm a w => ∃ (k : Nat) (r : Int) (Z' : Nat → Int), mm = k ∧ k ≤ n ∧ Hd a 54 [] [(0, .slice (some ⟨bz, oz, none⟩) n mz), (2, .slice (some ⟨bx, ox, none⟩) n mx), (3, .int .u64 y), (8, .int .u64 r), (11, .int .u64 m), (12, .int .i64 ((k : Int) - 1))] ∧ Wk w bz cz Z' ∧ (∀ j, (j < oz + k ∨ oz + n ≤ j) → Z' j = Z j) ∧ xn * BB ^ (n - k) + nvo X (ox + k) (n - k) = nvo Z' (oz + k) (n - k) * y + r ∧ (0 ≤ r ∧ r < y) ∧ Fr (Bl bz) w0 w) (n) ?_ ?_
  · replace H : Hd a 54 [] [(0, _), (2, _), (3, _), (8, _), (11, _), (12, _)] := H.pick [0, 2, 3, 8, 11, 12]
    exact ⟨n, xn, Z, rfl, Nat.le_refl _, H, hz.heq hcd.heap, fun _ _ => rfl, by simp [nvo, nv], hxn, hcd.fr _⟩
  clear H a
  intro mm a w hI
  clear hcd
  obtain ⟨k, r, Z', rfl, hk, H, hz1, hout, hsum, hr, hF⟩ := hI
  refine wp_seq (wp_seq (wp_region_lit (l := [_, _]) (wl H (Ez.mv H rfl) rfl (kL (fun a H => Ez.geq H rfl rfl (rfl)) rfl (kP [(0, _), (2, _), (3, _), (8, _), (11, _), (12, _), (36, _)] rfl (kW ?_)))))); clear H a; intro a H
  refine wp_cond_split (H.o rfl) (fun hb => ?_) (fun hb => ?_)
  · have hk1 : 1 ≤ mm := by simp at hb; omega
    refine wp_skip (thn (wp_seq (wp_block ?_)))
    have hx1 := Wk.read2 hx hz hz1 hF halx (k := mm - 1) (fun j hj => hout j (by omega)) (by omega)
    have ux := hx.u (ox + (mm - 1)) (by omega)
    have hq := divq hr ux
    refine wp_region_lit (l := [_, _, _, _, _, _, _, _, _, _, _, _, _, _, _, _]) (wl H (Ez.mv H rfl) rfl (kM rfl rfl (kM rfl rfl (kM rfl rfl (kM rfl rfl (kL (fun a H => Ez.ix79 H rfl rfl (mm - 1) (by omega) (by omega)) rfl (kL (fun a H => Ez.ld103 H rfl (hx1)) rfl (kM rfl rfl (kM rfl rfl ?_))))))))); clear H a; intro a H
    refine wk H cf147 (divWW r (X (ox + (mm - 1))) m y (by unfold U64; omega) ux hy hr.2 hm _) rfl rfl ?_
    rintro _ w1 ⟨rfl, rfl⟩
    refine ⟨_, rfl, ?_⟩; clear H a; intro a H
    refine wl H (Ez.mv H rfl) rfl (kL (fun a H => Ez.ext0 H rfl) rfl (kL (fun a H => Ez.ext1 H rfl) rfl (kL (fun a H => Ez.ix79 H rfl rfl (mm - 1) (by omega) (by omega)) rfl ?_))); clear H a; intro a H
    refine wls H (Ez.st103 H rfl rfl rfl (hz1.cell (by omega)) (hz1.fz _)) ?_; clear H; intro H
    refine wl H (Ez.asn H rfl) rfl (kP [(0, _), (2, _), (3, _), (8, _), (11, _), (12, _)] rfl ?_); clear H a; intro a H
    refine wpList_nil ?_
    refine bn (thn (wp_region_lit (l := [_, _, _]) (wl H (Ez.mv H rfl) rfl (kL (fun a H => Ez.subI (r := (mm : Int) - 1 - 1) H rfl rfl (by omega) (by omega)) rfl (kA rfl rfl (kP [(0, _), (2, _), (3, _), (8, _), (11, _), (12, _)] rfl (kW (kP [(0, _), (2, _), (3, _), (8, _), (11, _), (12, _)] rfl ?_)))))))); clear H a; intro a H
    refine ⟨mm - 1, by omega, mm - 1, _, up Z' (oz + (mm - 1)) _, rfl, by omega, by rw [show ((mm - 1 : Nat) : Int) - 1 = (mm : Int) - 1 - 1 by omega]; exact H, hz1.set (by omega) hq.1, fun j hj => (up_ne (by omega)).trans (hout j (by omega)), ?_, hq.2.1, hF.trans (Fr.bl _)⟩
    have em : n - (mm - 1) = n - mm + 1 := by omega
    have ez : nvo (up Z' (oz + (mm - 1)) ((r * 18446744073709551616 + X (ox + (mm - 1))) / y)) (oz + (mm - 1) + 1) (n - mm) = nvo Z' (oz + mm) (n - mm) := nvo_congr fun j hj => by rw [up_ne (by omega), show oz + (mm - 1) + 1 + j = oz + mm + j by omega]
    rw [em, nvo_cons, nvo_cons, up_eq, ez, Int.pow_succ, show ox + (mm - 1) + 1 = ox + mm by omega]
    rw [Int.add_mul, show xn * (BB ^ (n - mm) * BB) = BB * (xn * BB ^ (n - mm)) by ac_rfl, show BB * nvo Z' (oz + mm) (n - mm) * y = BB * (nvo Z' (oz + mm) (n - mm) * y) by ac_rfl]
    generalize xn * BB ^ (n - mm) = A at hsum ⊢
    unfold BB
    omega
  have hk1 : mm = 0 := by simp at hb; omega
  subst hk1
  refine wp_exit (thx (thx (bxe (thn (wp_seq (wp_region_lit (l := [_, _]) (wl H (Ez.mv H rfl) rfl (kA rfl rfl (kP [(8, _)] rfl (kW ?_)))))))))); clear H a; intro a H
  refine wp_ret ?_
  refine rt1 H rfl rfl ?_
  exact ⟨r, Z', rfl, hz1, fun k hk => hout k (by omega), by simpa using hsum, hr, hF⟩
end
section
set_option maxRecDepth 8000
def TQ (q : Option Addr) : Nat → Nat → Prop := fun k _ => ∃ o, q = some ⟨k, o, none⟩
theorem TQ_some {b o k j : Nat} : TQ (some ⟨b, o, none⟩) k j ↔ k = b := by
  constructor
  · rintro ⟨o', h⟩; injection h with h; injection h with h; exact h.symm
  rintro rfl; exact ⟨o, rfl⟩
theorem TQ_none {k j : Nat} : ¬ TQ none k j := by rintro ⟨o, h⟩; cases h
def Sl (w : World) (q : Option Addr) (n c : Nat) (X : Nat → Int) : Prop :=
  (q = none ∧ n = 0 ∧ c = 0) ∨ (∃ b, q = some ⟨b, 0, none⟩ ∧ n ≤ c ∧ 0 < c ∧ Wk w b c X)
def Own (w : World) (q q' : Option Addr) : Prop := ∀ k j, TQ q' k j → TQ q k j ∨ w.heap.size ≤ k
theorem Own.refl (w : World) (q : Option Addr) : Own w q q := fun _ _ h => .inl h
theorem Own.nilq (w : World) (q : Option Addr) : Own w q none := fun _ _ h => (TQ_none h).elim
theorem Own.trans {w w' : World} {q q' q'' : Option Addr} (h : Own w q q') (h' : Own w' q' q'') (hs : w.heap.size ≤ w'.heap.size) : Own w q q'' := fun k j hk => by
  rcases h' k j hk with h1 | h1
  · exact h k j h1
  exact .inr (Nat.le_trans hs h1)
theorem Own.new (w : World) (q : Option Addr) {b : Nat} (hb : w.heap.size ≤ b) : Own w q (some ⟨b, 0, none⟩) := fun k j hk => by
  rw [TQ_some] at hk; subst hk; exact .inr hb
theorem Sl.nil (w : World) (X : Nat → Int) : Sl w none 0 0 X := .inl ⟨rfl, rfl, rfl⟩
theorem Sl.le {w : World} {q : Option Addr} {n c : Nat} {X : Nat → Int} (h : Sl w q n c X) : n ≤ c := by
  rcases h with ⟨_, h1, h2⟩ | ⟨b, _, h1, _⟩ <;> omega
theorem Sl.blk {w : World} {q : Option Addr} {n c : Nat} {X : Nat → Int} (h : Sl w q n c X) (hn : 0 < c) : ∃ b, q = some ⟨b, 0, none⟩ ∧ n ≤ c ∧ Wk w b c X := by
  rcases h with ⟨_, h1, h2⟩ | ⟨b, h0, h1, _, h2⟩
  · omega
  exact ⟨b, h0, h1, h2⟩
theorem Sl.of {w : World} {b n c : Nat} {X : Nat → Int} (h : Wk w b c X) (hn : n ≤ c) (hc : 0 < c) : Sl w (some ⟨b, 0, none⟩) n c X := .inr ⟨b, rfl, hn, hc, h⟩
theorem Sl.cut {w : World} {q : Option Addr} {n c m : Nat} {X : Nat → Int} (h : Sl w q n c X) (hm : m ≤ c) : Sl w q m c X := by
  rcases h with ⟨h0, h1, h2⟩ | ⟨b, h0, h1, hc, h2⟩
  · exact .inl ⟨h0, by omega, h2⟩
  exact .inr ⟨b, h0, hm, hc, h2⟩
theorem Sl.fr {w w' : World} {q : Option Addr} {n c : Nat} {X : Nat → Int} {T : Nat → Nat → Prop} (h : Sl w q n c X) (hF : Fr T w w') (hT : ∀ k j o, TQ q k j → ¬ T k o) : Sl w' q n c X := by
  rcases h with h | ⟨b, h0, h1, hc, h2⟩
  · exact .inl h
  exact .inr ⟨b, h0, h1, hc, h2.fr hF fun o => hT b 0 o (by rw [h0]; exact TQ_some.2 rfl)⟩
theorem Sl.frN {w w' : World} {q : Option Addr} {n c : Nat} {X : Nat → Int} (h : Sl w q n c X) (hF : Fr NoT w w') : Sl w' q n c X := h.fr hF fun _ _ _ _ f => f
theorem Sl.u {w : World} {q : Option Addr} {n c : Nat} {X : Nat → Int} (h : Sl w q n c X) {j : Nat} (hj : j < c) : U64 (X j) := by
  obtain ⟨b, _, _, h1⟩ := h.blk (by omega)
  exact h1.u j hj
theorem Sl.lt {w : World} {q : Option Addr} {n c : Nat} {X : Nat → Int} (h : Sl w q n c X) {k j : Nat} (hk : TQ q k j) : k < w.heap.size := by
  rcases h with ⟨h0, _⟩ | ⟨b, h0, _, _, h2⟩
  · rw [h0] at hk; exact (TQ_none hk).elim
  rw [h0, TQ_some] at hk; subst hk; exact h2.lt
theorem Fr.noT {T : Nat → Nat → Prop} {w w' : World} (h : Fr NoT w w') : Fr T w w' := h.mono fun _ _ _ f => f.elim
theorem Fr.own {w w' : World} {q q' : Option Addr} (h : Fr (TQ q') w w') (ho : Own w q q') : Fr (TQ q) w w' := h.mono fun k j hk ht => by
  rcases ho k j ht with h1 | h1
  · exact h1
  omega
theorem Fr.blq {w w' : World} {b o : Nat} (h : Fr (Bl b) w w') : Fr (TQ (some ⟨b, o, none⟩)) w w' := h.mono fun k j _ ht => TQ_some.2 ht
def Nm (X : Nat → Int) (n : Nat) : Prop := n = 0 ∨ X (n - 1) ≠ 0
theorem word_info : ∃ i, Tryz.prog.info? 103 = some i ∧ i.zero = some (.int .u64 0) ∧ i.bytes = 8 ∧ i.size = 1 := by
  have h : (Tryz.prog.info? 103).map (fun i => (i.zero, i.bytes, i.size)) = some (some (.int .u64 0), 8, 1) := by kernel_rfl
  cases hi : Tryz.prog.info? 103 with
  | none => rw [hi] at h; cases h
  | some i => rw [hi] at h; simp only [Option.map_some, Option.some.injEq, Prod.mk.injEq] at h; exact ⟨i, rfl, h⟩
theorem madeW (n : Nat) : madeCells #[Value.int .u64 0] n = Array.ofFn fun j : Fin n => Value.int .u64 ((fun _ => 0 : Nat → Int) j) := by
  apply Array.ext
  · rw [size_madeCells, Array.size_ofFn]
  intro i h1 h2
  simp only [madeCells, Array.getElem_map, Array.getElem_range, Array.getElem_ofFn]
  show #[Value.int .u64 0][i % 1]! = _
  rw [Nat.mod_one]; rfl
theorem Wk.made (w : World) (n : Nat) (hn : n ≤ 9223372036854775807) : Wk (w.alloc (.cells (Array.ofFn fun j : Fin n => Value.int .u64 ((fun _ => 0 : Nat → Int) j)) 103)) w.heap.size n (fun _ => 0) :=
  ⟨(by show (w.heap.push _)[w.heap.size]? = _; rw [Array.getElem?_push_size]), fun _ _ => ⟨by decide, by decide⟩, hn⟩
section
variable {a : Act} {N : Nat} {ds : List Deferred} {l : Env} {w : World} {d : Option Nat} {ty : TypeId} {pos : String} {after : Array Edge} {g : Option (Nat × Bool)}
theorem Ez.mk80 (H : Hd a N ds l) {x y : Operand} {i j : Int} (h : ov l x = some (.int .i64 i)) (h' : ov l y = some (.int .i64 j)) (n c : Nat) (hi : i = (n : Int)) (hj : j = (c : Int)) (hnc : n ≤ c) (hc : c < 10000000000) :
    (execOp a.eval ⟨d, .makeSlice 80 x y, ty, pos, after, g⟩).run Tryz.prog w = .ok (.value (.slice (some ⟨w.heap.size, 0, none⟩) n c)) (w.alloc (.cells (Array.ofFn fun j : Fin c => Value.int .u64 ((fun _ => 0 : Nat → Int) j)) 103)) := by
  have e := H.o h
  have e' := H.o h'
  subst hi; subst hj
  obtain ⟨ti, h1, h2, h3, h4⟩ := word_info
  have q := run_make (P := Tryz.prog) w 80 103 ti (.int .u64 0) (by kernel_rfl) h1 h2 .i64 .i64 (n : Int) (c : Int) (by omega) (by omega) (by rw [h3]; omega) (by omega)
  rw [h4, Nat.mul_one, Int.toNat_natCast, Int.toNat_natCast, show (Value.int .u64 0).cells = #[Value.int .u64 0] from rfl, madeW] at q
  simp only [execOp, e, e', Sem.run_bind, q, Result.andThen]; rfl
theorem run_clearW {b o n c' c : Nat} {X : Nat → Int} {T : TypeId} (hT : T = 79 ∨ T = 80) (hz : Wk w b c X) (h : o + n ≤ c) (hn : 0 < n) :
    ∃ w', (Builtin.clear_ #[T] ty #[.slice (some ⟨b, o, none⟩) n c']).run Tryz.prog w = .ok (.tuple #[]) w' ∧ Wk w' b c (cp X o (fun _ => 0) 0 n) ∧ Fr (Bl b) w w' := by
  have hu : Tryz.prog.underlying T = some (.slice 103) := by rcases hT with rfl | rfl <;> kernel_rfl
  obtain ⟨ti, h1, h2, h3, h4⟩ := word_info
  obtain ⟨m, rfl⟩ : ∃ m, n = m + 1 := ⟨n - 1, by omega⟩
  have hzc : (Builtin.zeroCells #[Value.int .u64 0] (m + 1)).toList = List.replicate (m + 1) (Value.int .u64 0) := by
    apply List.ext_getElem
    · simp [Builtin.zeroCells]
    intro i h1 h2
    simp only [Builtin.zeroCells, Array.getElem_toList, Array.getElem_map, Array.getElem_range, List.getElem_replicate]
    show #[Value.int .u64 0][i % 1]! = _
    rw [Nat.mod_one]; rfl
  have key := run_storeCells_at Tryz.prog b o 103 (List.replicate (m + 1) (Value.int .u64 0)) 0 (Array.ofFn fun j : Fin c => Value.int .u64 (X j)) w hz.blk (by simpa using h) (by intro v hv; rw [List.mem_replicate] at hv; rw [hv.2]; rfl)
  rw [List.length_replicate] at key
  obtain ⟨arr, harr⟩ : ∃ arr, arr = (List.take (o + 0) (Array.ofFn fun j : Fin c => Value.int .u64 (X j)).toList ++ List.replicate (m + 1) (Value.int .u64 0) ++ List.drop (o + 0 + (m + 1)) (Array.ofFn fun j : Fin c => Value.int .u64 (X j)).toList).toArray := ⟨_, rfl⟩
  rw [← harr] at key
  have hrun : (Builtin.clear_ #[T] ty #[.slice (some ⟨b, o, none⟩) (m + 1) c']).run Tryz.prog w = .ok (.tuple #[]) (w.setRow b arr) := by
    simp [Builtin.clear_, run_underlying hu, zeroValue, h1, h2, typeInfo, Value.cells, hzc, key]
  refine ⟨w.setRow b arr, hrun, ⟨?_, fun j hj => ?_, hz.m⟩, setRow_fr _⟩
  · simp only [World.setRow, Array.getElem?_modify, if_true, hz.blk, Option.map_some]
    refine congrArg (fun A => some (Obj.cells A 103 (0, 0))) ?_
    rw [harr]
    apply Array.ext
    · simp; omega
    intro i h1 h2
    simp only [Array.size_ofFn] at h2
    simp only [List.getElem_toArray, Array.getElem_ofFn, cp]
    simp only [List.getElem_append, List.length_append, List.length_take, List.length_replicate, Array.length_toList, Array.size_ofFn]
    by_cases c1 : o ≤ i ∧ i < o + (m + 1)
    · rw [if_pos c1, dif_pos (by omega), dif_neg (by omega)]
      simp
    rw [if_neg c1]
    by_cases c2 : i < o
    · rw [dif_pos (by omega), dif_pos (by omega)]; simp
    rw [dif_neg (by omega)]
    have e : o + (m + 1) + (i - (min o c + (m + 1))) = i := by omega
    simp [e]
  unfold cp
  split
  · show U64 0
    exact ⟨by decide, by decide⟩
  exact hz.u _ hj
theorem Ez.clearW (H : Hd a N ds l) {x : Operand} {b o n c' c : Nat} {X : Nat → Int} {T : TypeId} (h : ov l x = some (.slice (some ⟨b, o, none⟩) n c')) (hT : T = 79 ∨ T = 80) (hz : Wk w b c X) (hb : o + n ≤ c) (hn : 0 < n) :
    ∃ w', (execOp a.eval ⟨d, .call { callee := .builtin .clear, args := #[x], argTypes := #[T] }, ty, pos, after, g⟩).run Tryz.prog w = .ok (.value (.tuple #[])) w' ∧ Wk w' b c (cp X o (fun _ => 0) 0 n) ∧ Fr (Bl b) w w' := by
  obtain ⟨w', h1, h2, h3⟩ := run_clearW (w := w) (ty := ty) (c' := c') hT hz hb hn
  refine ⟨w', ?_, h2, h3⟩
  have e := H.o h
  revert e; generalize a.eval = ρ; intro e
  simp only [execOp]; go_simp
end
end
section
set_option maxRecDepth 8000
theorem Ez.slZ80 {a : Act} {N : Nat} {ds : List Deferred} {l : Env} {w : World} {d : Option Nat} {ty : TypeId} {pos : String} {after : Array Edge} {g : Option (Nat × Bool)} (H : Hd a N ds l) {x y z : Operand} {q : Option Addr} {n c : Nat} {k k' : IntKind} {i : Int} (h : ov l x = some (.slice q n c)) (h' : ov l y = some (.int k 0)) (h'' : ov l z = some (.int k' i)) (j : Nat) (hj : i = (j : Int)) (hn : j ≤ c) :
    (execOp a.eval ⟨d, .slice 80 x (some y) (some z) none, ty, pos, after, g⟩).run Tryz.prog w = .ok (.value (.slice q j c)) w := by
  have e := H.o h
  have e' := H.o h'
  have e'' := H.o h''
  subst hj
  have e1 : sliced q (0 : Int).toNat (j : Int).toNat c 1 = .slice q j c := by
    simp only [sliced, Int.toNat_natCast, Int.toNat_zero, Nat.sub_zero]
    cases q with
    | none => simp
    | some A => obtain ⟨b, o, s⟩ := A; simp only [Option.map, Addr.add]; split <;> simp_all
  have q2 : (Instr.sliceAt 80 (.slice q n c) (some (.int k 0)) (some (.int k' (j : Int))) none).run Tryz.prog w = .ok (.slice q j c) w := by
    rw [← e1]
    go_simp
    all_goals (try simp [sliced, Addr.add])
    all_goals (try omega)
  simp only [execOp, e, e', e'', Option.map, Sem.run_bind, q2, Result.andThen]; rfl
theorem natMake (q : Option Addr) (n0 c0 n : Nat) (Z : Nat → Int) (w : World) (hz : Sl w q n0 c0 Z) (hn : n < 1000000000) :
    Calls Tryz.prog 82 #[.slice q n0 c0, .int .i64 n] w fun e w' => ∃ q' c' X', e = .returned (.slice q' n c') ∧ Sl w' q' n c' X' ∧ Own w q q' ∧ Fr NoT w w' := by
  refine enterE (vs := [.slice q n0 c0, .int .i64 n]) Tryz.func82 rfl rfl ?_
  intro a H
  replace H : Hd a 19 [] [(0, .slice q n0 c0), (1, .int .i64 n)] := H
  refine wp_seq (wp_region_lit (l := [_]) (wl H (Ez.asn H rfl) rfl (kW (kS (kS (kR [_, _, _, _] (kM rfl rfl (kM rfl rfl (kL (fun a H => Ez.cap80 H rfl) rfl (kL (fun a H => Ez.leq H rfl rfl (rfl)) rfl (kP [(0, _), (1, _), (4, _), (8, _)] rfl (kW ?_)))))))))))); clear H a; intro a H
  refine wp_cond_split (H.o rfl) (fun hb => ?_) (fun hb => ?_)
  · have hb1 : n ≤ c0 := by simp at hb; omega
    refine wp_seq (wp_region_lit (l := [_, _, _, _]) (wl H (Ez.mv H rfl) rfl (kM rfl rfl (kL (fun a H => Ez.slH80 H rfl rfl n rfl hb1) rfl (kA rfl rfl (kP [(1, _), (4, _)] rfl (kW ?_))))))); clear H a; intro a H
    refine wp_ret (thr ?_)
    refine rt1 H rfl rfl ?_
    exact ⟨q, c0, Z, rfl, hz.cut hb1, Own.refl _ _, Fr.refl _ _⟩
  have hb1 : c0 < n := by simp at hb; omega
  refine wp_skip (thn (wp_seq (wp_seq (wp_region_lit (l := [_, _]) (wl H (Ez.mv H rfl) rfl (kL (fun a H => Ez.eql H rfl rfl (rfl)) rfl (kP [(1, _), (4, _), (13, _)] rfl (kW ?_)))))))); clear H a; intro a H
  refine wp_cond_split (H.o rfl) (fun hb2 => ?_) (fun hb2 => ?_)
  · have hb3 : n = 1 := by simp at hb2; omega
    subst hb3
    refine wp_seq (wp_region_lit (l := [_, _]) (wl H (Ez.mk80 H rfl rfl 1 1 rfl rfl (by omega) (by omega)) rfl (kA rfl rfl (kP [(1, _), (4, _)] rfl (kW ?_))))); clear H a; intro a H
    refine wp_ret (thr ?_)
    refine rt1 H rfl rfl ?_
    exact ⟨_, 1, _, rfl, Sl.of (Wk.made w 1 (by omega)) (by omega) (by omega), Own.new _ _ (Nat.le_refl _), (Fr.refl NoT w).alloc _⟩
  have hb3 : n ≠ 1 := by simp at hb2; omega
  refine wp_skip (thn (wp_seq (wp_region_lit (l := [_, _, _, _, _]) (wl H (Ez.mv H rfl) rfl (kM rfl rfl (kL (fun a H => Ez.addI (r := ((n + 4 : Nat) : Int)) H rfl rfl (by omega) (by omega)) rfl (kL (fun a H => Ez.mk80 H rfl rfl n (n + 4) rfl rfl (by omega) (by omega)) rfl (kA rfl rfl (kP [(4, _)] rfl (kW ?_)))))))))); clear H a; intro a H
  refine wp_ret ?_
  refine rt1 H rfl rfl ?_
  exact ⟨_, n + 4, _, rfl, Sl.of (Wk.made w (n + 4) (by omega)) (by omega) (by omega), Own.new _ _ (Nat.le_refl _), (Fr.refl NoT w).alloc _⟩
theorem natNorm (q : Option Addr) (n c : Nat) (X : Nat → Int) (w : World) (hz : Sl w q n c X) (hn : n < 1000000000) :
    Calls Tryz.prog 84 #[.slice q n c] w fun e w' => ∃ k, e = .returned (.slice q k c) ∧ k ≤ n ∧ Sl w' q k c X ∧ nv X k = nv X n ∧ Nm X k ∧ w = w' := by
  obtain ⟨w0, hw0⟩ : ∃ w0, w0 = w := ⟨w, rfl⟩
  rw [← hw0]
  rw [← hw0] at hz
  clear hw0 w
  refine enterE (vs := [.slice q n c]) Tryz.func84 rfl rfl ?_
  intro a H
  replace H : Hd a 21 [] [(0, .slice q n c)] := H
  refine wp_seq (wp_region_lit (l := [_]) (wl H (Ez.asn H rfl) rfl (kW (kS (kR [_, _, _] (kM rfl rfl (kL (fun a H => Ez.len80 H rfl) rfl (kA rfl rfl (kP [(0, _), (2, _), (3, _)] rfl (kW (kS ?_))))))))))); clear H a; intro a H
  refine wp_block ?_
  refine wp_loopN (fun mm a w => ∃ i : Nat, mm = i ∧ i ≤ n ∧ Hd a 21 [] [(0, .slice q n c), (3, .int .i64 i)] ∧ nv X i = nv X n ∧ w0 = w) (n) ?_ ?_
  · replace H : Hd a 21 [] [(0, _), (3, _)] := H.pick [0, 3]
    exact ⟨n, rfl, Nat.le_refl _, H, rfl, rfl⟩
  clear H a
  intro mm a w hI
  obtain ⟨i, rfl, hi, H, hv, rfl⟩ := hI
  refine wp_seq (wp_seq ?_)
  by_cases hi0 : mm = 0
  · refine wp_region_lit (l := [_, _, _, _, _, _, _, _, _, _]) (wl H (Ez.mv H rfl) rfl (kL (fun a H => Ez.gtr (r := false) H rfl rfl (by (simp; omega))) rfl (kM rfl rfl (kX rfl rfl rfl rfl rfl (kX rfl rfl rfl rfl rfl (kX rfl rfl rfl rfl rfl (kX rfl rfl rfl rfl rfl (kX rfl rfl rfl rfl rfl (kX rfl rfl rfl rfl rfl (kL (fun a H => Ez.pkF H rfl rfl) rfl (kP [(0, _), (3, _), (15, _)] rfl (kW ?_)))))))))))); clear H a; intro a H
    refine wp_cond_false (H.o rfl) (wp_exit (thx (thx (bxe (thn (wp_seq (wp_region_lit (l := [_, _, _, _]) (wl H (Ez.mv H rfl) rfl (kM rfl rfl (kL (fun a H => Ez.slZ80 H rfl rfl rfl mm rfl (by have := hz.le; omega)) rfl (kA rfl rfl (kP [(2, _)] rfl (kW ?_))))))))))))); clear H a; intro a H
    refine wp_ret ?_
    refine rt1 H rfl rfl ?_
    exact ⟨mm, rfl, hi, hz.cut (by have := hz.le; omega), hv, .inl hi0, rfl⟩
  have hle := hz.le
  obtain ⟨b, rfl, _, hW⟩ := hz.blk (by omega)
  have hc1 := hW.cell (j := mm - 1) (by omega)
  obtain ⟨j, hm1⟩ : ∃ j, mm = j + 1 := ⟨mm - 1, by omega⟩
  refine wp_region_lit (l := [_, _, _, _, _, _, _, _, _, _]) (wl H (Ez.mv H rfl) rfl (kL (fun a H => Ez.gtr (r := true) H rfl rfl (by (simp; omega))) rfl (kM rfl rfl (kG (fun a H => Ez.mv H rfl) rfl rfl rfl rfl rfl (kG (fun a H => Ez.mv H rfl) rfl rfl rfl rfl rfl (kG (fun a H => Ez.subI (r := ((mm - 1 : Nat) : Int)) H rfl rfl (by omega) (by omega)) rfl rfl rfl rfl rfl (kG (fun a H => Ez.ix80 H rfl rfl (mm - 1) rfl (by omega)) rfl rfl rfl rfl rfl (kG (fun a H => Ez.ld103 H rfl ((by rw [Nat.zero_add]; exact hc1))) rfl rfl rfl rfl rfl (kG (fun a H => Ez.eql H rfl rfl (rfl)) rfl rfl rfl rfl rfl (kL (fun a H => Ez.pkT H rfl rfl) rfl (kP [(0, _), (3, _), (15, _)] rfl (kW ?_)))))))))))); clear H a; intro a H
  refine wp_cond_split (H.o rfl) (fun hb => ?_) (fun hb => ?_)
  · have hx0 : X j = 0 := by have := of_decide_eq_true hb; rwa [hm1] at this
    refine wp_skip (thn (wp_block (wp_region_lit (l := [_, _, _]) (wl H (Ez.mv H rfl) rfl (kL (fun a H => Ez.subI (r := ((mm - 1 : Nat) : Int)) H rfl rfl (by omega) (by omega)) rfl (kA rfl rfl (kP [(0, _), (3, _)] rfl ?_))))))); clear H a; intro a H
    refine wpList_nil ?_
    refine bn (thn ?_)
    replace H : Hd a 21 [] [(0, _), (3, _)] := H.pick [0, 3]
    exact ⟨mm - 1, by omega, mm - 1, rfl, by omega, H, by rw [← hv, hm1, nv]; simp [hx0], rfl⟩
  have hx0 : X (mm - 1) ≠ 0 := of_decide_eq_false hb
  refine wp_exit (thx (thx (bxe (thn (wp_seq (wp_region_lit (l := [_, _, _, _]) (wl H (Ez.mv H rfl) rfl (kM rfl rfl (kL (fun a H => Ez.slZ80 H rfl rfl rfl mm rfl (by omega)) rfl (kA rfl rfl (kP [(2, _)] rfl (kW ?_)))))))))))); clear H a; intro a H
  refine wp_ret ?_
  refine rt1 H rfl rfl ?_
  exact ⟨mm, rfl, hi, hz.cut (by omega), hv, .inr hx0, rfl⟩
theorem run_copy_zero {w : World} {d a : Option Addr} {dl dc sl sc : Nat} {ty : TypeId} (hn : Nat.min sl dl = 0) :
    (Builtin.copy_ #[80, 80] ty #[.slice d dl dc, .slice a sl sc]).run Tryz.prog w = .ok (.int .i64 0) w :=
  run_copy_none (P := Tryz.prog) w 80 80 ty 103 d a dl dc sl sc (by kernel_rfl) (by kernel_rfl) hn
theorem Ez.copy0 {a : Act} {N : Nat} {ds : List Deferred} {l : Env} {w : World} {d : Option Nat} {ty : TypeId} {pos : String} {after : Array Edge} {g : Option (Nat × Bool)} (H : Hd a N ds l) {x y : Operand}
    {q q' : Option Addr} {dl dc sl sc : Nat} (h : ov l x = some (.slice q dl dc)) (h' : ov l y = some (.slice q' sl sc)) (hn : Nat.min sl dl = 0) :
    (execOp a.eval ⟨d, .call { callee := .builtin .copy, args := #[x, y], argTypes := #[80, 80] }, ty, pos, after, g⟩).run Tryz.prog w = .ok (.value (.int .i64 0)) w := by
  have h1 := run_copy_zero (w := w) (d := q) (a := q') (dc := dc) (sc := sc) (ty := ty) hn
  have e := H.o h
  have e' := H.o h'
  revert e e'; generalize a.eval = ρ; intro e e'
  simp only [execOp]; go_simp
theorem natSet (q qx : Option Addr) (n0 c0 n c : Nat) (Z X : Nat → Int) (w : World) (hz : Sl w q n0 c0 Z) (hx : Sl w qx n c X) (hn : n < 1000000000) :
    Calls Tryz.prog 94 #[.slice q n0 c0, .slice qx n c] w fun e w' => ∃ q' c' X', e = .returned (.slice q' n c') ∧ Sl w' q' n c' X' ∧ (∀ j, j < n → X' j = X j) ∧ Own w q q' ∧ Fr (TQ q) w w' := by
  refine enterE (vs := [.slice q n0 c0, .slice qx n c]) Tryz.func94 rfl rfl ?_
  intro a H
  replace H : Hd a 13 [] [(0, .slice q n0 c0), (1, .slice qx n c)] := H
  refine wp_seq (wp_region_lit (l := [_]) (wl H (Ez.asn H rfl) rfl (kW (kS (kR [_, _, _, _, _] (kM rfl rfl (kM rfl rfl (kL (fun a H => Ez.len80 H rfl) rfl ?_)))))))); clear H a; intro a H
  refine wk H cf82 (natMake q n0 c0 n Z w hz hn) rfl rfl ?_
  rintro _ w1 ⟨q', c', X1, rfl, h1, h2, h3⟩
  refine ⟨_, rfl, ?_⟩; clear H a; intro a H
  have hx1 := hx.frN h3
  refine wl H (Ez.asn H rfl) rfl (kP [(0, _), (1, _), (4, _)] rfl (kW (kS ?_))); clear H a; intro a H
  by_cases hn0 : n = 0
  · refine wp_region_lit (l := [_, _, _]) (wl H (Ez.mv H rfl) rfl (kM rfl rfl (kL (fun a H => Ez.copy0 H rfl rfl (by simp [hn0])) rfl (kP [(0, _), (4, _)] rfl (kW (kS (kR [_, _] (kM rfl rfl (kA rfl rfl (kP [(4, _)] rfl (kW ?_))))))))))); clear H a; intro a H
    refine wp_ret ?_
    refine rt1 H rfl rfl ?_
    exact ⟨q', c', X1, rfl, h1, fun j hj => by omega, h2, h3.noT⟩
  have hle := h1.le
  have hle2 := hx.le
  obtain ⟨b, rfl, _, hW⟩ := h1.blk (by omega)
  obtain ⟨bx, rfl, _, hWx⟩ := hx1.blk (by omega)
  refine wp_region_lit (l := [_, _, _]) (wl H (Ez.mv H rfl) rfl (kM rfl rfl ?_)); clear H a; intro a H
  obtain ⟨w2, e2, hW2, hF2⟩ := Ez.copyW (x := .tmp 9) (y := .tmp 10) (T := 80) (T' := 80) (d := some 11) (ty := 3) (pos := _) (after := _) (g := none) H rfl rfl (.inr rfl) hW hWx n (by simp) (by omega) (by omega)
  refine wl H (e2) rfl ?_; clear e2 H a; intro a H
  refine kP [(0, _), (4, _)] rfl (kW (kS (kR [_, _] (kM rfl rfl (kA rfl rfl (kP [(4, _)] rfl (kW ?_))))))) a H; clear H a; intro a H
  refine wp_ret ?_
  refine rt1 H rfl rfl ?_
  refine ⟨_, c', _, rfl, Sl.of hW2 hle (by omega), fun j hj => ?_, h2, (h3.noT.trans hF2.blq).own h2⟩
  have := cp_in (Z := X1) (oz := 0) (X := X) (ox := 0) hj
  simpa using this
theorem natSetWord (q : Option Addr) (n0 c0 : Nat) (Z : Nat → Int) (x : Int) (w : World) (hz : Sl w q n0 c0 Z) (hx : U64 x) :
    Calls Tryz.prog 116 #[.slice q n0 c0, .int .u64 x] w fun e w' => ∃ q' n' c' X', e = .returned (.slice q' n' c') ∧ Sl w' q' n' c' X' ∧ n' ≤ 1 ∧ nv X' n' = x ∧ Nm X' n' ∧ Own w q q' ∧ Fr (TQ q) w w' := by
  refine enterE (vs := [.slice q n0 c0, .int .u64 x]) Tryz.func116 rfl rfl ?_
  intro a H
  replace H : Hd a 15 [] [(0, .slice q n0 c0), (1, .int .u64 x)] := H
  refine wp_seq (wp_region_lit (l := [_]) (wl H (Ez.asn H rfl) rfl (kW (kS (kS (kR [_, _] (kM rfl rfl (kL (fun a H => Ez.eql H rfl rfl (rfl)) rfl (kP [(0, _), (1, _), (4, _), (6, _)] rfl (kW ?_)))))))))); clear H a; intro a H
  refine wp_cond_split (H.o rfl) (fun hb => ?_) (fun hb => ?_)
  · have hb0 : x = 0 := by simpa using hb
    refine wp_seq (wp_region_lit (l := [_, _, _]) (wl H (Ez.mv H rfl) rfl (kL (fun a H => Ez.slH80 H rfl rfl 0 rfl (Nat.zero_le _)) rfl (kA rfl rfl (kP [(0, _), (1, _), (4, _)] rfl (kW ?_)))))); clear H a; intro a H
    refine wp_ret (thr ?_)
    refine rt1 H rfl rfl ?_
    exact ⟨q, 0, c0, Z, rfl, hz.cut (Nat.zero_le _), by omega, by rw [hb0]; rfl, .inl rfl, Own.refl _ _, Fr.refl _ _⟩
  have hb0 : x ≠ 0 := by simpa using hb
  refine wp_skip (thn (wp_seq (wp_region_lit (l := [_, _, _]) (wl H (Ez.mv H rfl) rfl ?_)))); clear H a; intro a H
  refine wk H cf82 (natMake q n0 c0 1 Z w hz (by omega)) rfl rfl ?_
  rintro _ w1 ⟨q', c', X1, rfl, h1, h2, h3⟩
  refine ⟨_, rfl, ?_⟩; clear H a; intro a H
  have hle := h1.le
  obtain ⟨b, rfl, _, hW⟩ := h1.blk (by omega)
  refine wl H (Ez.asn H rfl) rfl (kP [(0, _), (1, _), (4, _)] rfl (kW (kS (kR [_, _, _, _] (kM rfl rfl (kM rfl rfl (kL (fun a H => Ez.ix80 H rfl rfl 0 rfl (by omega)) rfl ?_))))))); clear H a; intro a H
  refine wls H (Ez.st103 H rfl rfl rfl (hW.cell (by omega)) (hW.fz _)) ?_; clear H; intro H
  refine kP [(0, _), (4, _)] rfl (kW (kS (kR [_, _] (kM rfl rfl (kA rfl rfl (kP [(4, _)] rfl (kW ?_))))))) a H; clear H a; intro a H
  refine wp_ret ?_
  refine rt1 H rfl rfl ?_
  exact ⟨_, 1, c', _, rfl, Sl.of (hW.set (by omega) hx) hle (by omega), by omega, by simp [nv, up], .inr (by simpa [up] using hb0), h2, (h3.noT.trans (Fr.bl _).blq).own h2⟩
theorem natSetUint64 (q : Option Addr) (n0 c0 : Nat) (Z : Nat → Int) (x : Int) (w : World) (hz : Sl w q n0 c0 Z) (hx : U64 x) :
    Calls Tryz.prog 100 #[.slice q n0 c0, .int .u64 x] w fun e w' => ∃ q' n' c' X', e = .returned (.slice q' n' c') ∧ Sl w' q' n' c' X' ∧ n' ≤ 1 ∧ nv X' n' = x ∧ Nm X' n' ∧ Own w q q' ∧ Fr (TQ q) w w' := by
  refine enterE (vs := [.slice q n0 c0, .int .u64 x]) Tryz.func100 rfl rfl ?_
  intro a H
  replace H : Hd a 23 [] [(0, .slice q n0 c0), (1, .int .u64 x)] := H
  refine wp_seq (wp_region_lit (l := [_]) (wl H (Ez.asn H rfl) rfl (kW (kS (kS (kR [_, _] (kM rfl rfl (kA rfl rfl (kP [(0, _), (1, _), (4, _), (5, _)] rfl (kW (kS (kR [_, _, _] (kM rfl rfl (kM rfl rfl (kL (fun a H => Ez.eql (r := true) H rfl rfl (by simp)) rfl (kP [(0, _), (1, _), (4, _), (5, _), (9, _)] rfl (kW ?_))))))))))))))))); clear H a; intro a H
  refine wp_cond_true (H.o rfl) (wp_seq (wp_region_lit (l := [_, _, _, _]) (wl H (Ez.mv H rfl) rfl (kM rfl rfl ?_)))); clear H a; intro a H
  refine wk H cf116 (natSetWord q n0 c0 Z x w hz hx) rfl rfl ?_
  rintro _ w1 ⟨q', n', c', X', rfl, h1, h2, h3, h4, h5, h6⟩
  refine ⟨_, rfl, ?_⟩; clear H a; intro a H
  refine wl H (Ez.asn H rfl) rfl (kP [(0, _), (1, _), (4, _)] rfl (kW ?_)); clear H a; intro a H
  refine wp_ret (thr ?_)
  refine rt1 H rfl rfl ?_
  exact ⟨q', n', c', X', rfl, h1, h2, h3, h4, h5, h6⟩
theorem nv_ge {X : Nat → Int} {n : Nat} (hn : 0 < n) (hu : ∀ j, j < n → U64 (X j)) (h : X (n - 1) ≠ 0) : BB ^ (n - 1) ≤ nv X n := by
  obtain ⟨m, rfl⟩ : ∃ m, n = m + 1 := ⟨n - 1, by omega⟩
  have h1 := nv_nonneg m (fun j hj => hu j (by omega))
  have h2 := hu m (by omega)
  simp only [Nat.add_sub_cancel] at h ⊢
  have h3 := Int.mul_le_mul_of_nonneg_right (show 1 ≤ X m by have := h2.1; omega) (Int.le_of_lt (BBn_pos m))
  rw [Int.one_mul] at h3
  simp only [nv]; omega
theorem BBn_le {m n : Nat} (h : m ≤ n) : BB ^ m ≤ BB ^ n := by
  obtain ⟨k, rfl⟩ := Nat.exists_eq_add_of_le h
  rw [Int.pow_add]
  have := Int.mul_le_mul_of_nonneg_left (show 1 ≤ BB ^ k by have := BBn_pos k; omega) (Int.le_of_lt (BBn_pos m))
  omega
theorem nv_lt_len {X Y : Nat → Int} {n m : Nat} (hX : ∀ j, j < n → U64 (X j)) (hY : ∀ j, j < m → U64 (Y j)) (hN : Nm X n) (h : m < n) : nv Y m < nv X n := by
  have h1 := nv_lt m hY
  have h2 := nv_ge (by omega) hX (by rcases hN with h | h; omega; exact h)
  have h3 := BBn_le (show m ≤ n - 1 by omega)
  omega
theorem nv_top {X Y : Nat → Int} {i : Nat} : ∀ n, i ≤ n → (∀ k, i ≤ k → k < n → X k = Y k) → nv X n - nv Y n = nv X i - nv Y i
  | 0, h, _ => by have : i = 0 := by omega
                  subst this; rfl
  | n + 1, h, hk => by
    by_cases e : i = n + 1
    · subst e; rfl
    have := nv_top n (by omega) (fun k h1 h2 => hk k h1 (by omega))
    simp only [nv]
    rw [hk n (by omega) (by omega)]
    omega
theorem nv_digit {X Y : Nat → Int} {i : Nat} (hX : ∀ j, j ≤ i → U64 (X j)) (hY : ∀ j, j ≤ i → U64 (Y j)) (h : X i < Y i) : nv X (i + 1) < nv Y (i + 1) := by
  have h1 := nv_lt i (fun j hj => hX j (by omega))
  have h2 := nv_nonneg i (fun j hj => hY j (by omega))
  have h3 := Int.mul_le_mul_of_nonneg_right (show X i + 1 ≤ Y i by omega) (Int.le_of_lt (BBn_pos i))
  rw [Int.add_mul, Int.one_mul] at h3
  simp only [nv]; omega
def cmpI (a b : Int) : Int := if a < b then -1 else if b < a then 1 else 0
theorem natCmp (qx qy : Option Addr) (n cx m cy : Nat) (X Y : Nat → Int) (w : World) (hx : Sl w qx n cx X) (hy : Sl w qy m cy Y) (hn : n < 1000000000) (hm : m < 1000000000) (hNx : Nm X n) (hNy : Nm Y m) :
    Calls Tryz.prog 90 #[.slice qx n cx, .slice qy m cy] w fun e w' => e = .returned (.int .i64 (cmpI (nv X n) (nv Y m))) ∧ Cd w w' := by
  obtain ⟨w0, hw0⟩ : ∃ w0, w0 = w := ⟨w, rfl⟩
  rw [← hw0]
  rw [← hw0] at hx hy
  clear hw0 w
  have hXu : ∀ j, j < n → U64 (X j) := fun j hj => hx.u (by have := hx.le; omega)
  have hYu : ∀ j, j < m → U64 (Y j) := fun j hj => hy.u (by have := hy.le; omega)
  refine enterE (vs := [.slice qx n cx, .slice qy m cy]) Tryz.func90 rfl rfl ?_
  intro a H
  replace H : Hd a 64 [] [(0, .slice qx n cx), (1, .slice qy m cy)] := H
  refine wp_seq (wp_region_lit (l := [_]) (wl H (Ez.asn H rfl) rfl (kW (kS (kR [_, _, _] (kM rfl rfl (kL (fun a H => Ez.len80 H rfl) rfl (kA rfl rfl (kP [(0, _), (1, _), (4, _), (5, _)] rfl (kW (kS (kR [_, _, _] (kM rfl rfl (kL (fun a H => Ez.len80 H rfl) rfl (kA rfl rfl (kP [(0, _), (1, _), (4, _), (5, _), (6, _)] rfl (kW (kS (kS ?_))))))))))))))))))); clear H a; intro a H
  rcases Nat.lt_trichotomy n m with hnm | hnm | hnm
  · refine wp_region_lit (l := [_, _, _, _, _, _, _]) (wl H (Ez.mv H rfl) rfl (kM rfl rfl (kL (fun a H => Ez.neq (r := true) H rfl rfl (by (simp; omega))) rfl (kM rfl rfl (kX rfl rfl rfl rfl rfl (kX rfl rfl rfl rfl rfl (kL (fun a H => Ez.pkT H rfl rfl) rfl (kP [(0, _), (1, _), (4, _), (5, _), (6, _), (18, _)] rfl (kW ?_))))))))); clear H a; intro a H
    refine wp_cond_true (H.o rfl) (wp_seq (wp_block (wp_seq (wp_region_lit (l := [_, _, _, _]) (wl H (Ez.mv H rfl) rfl (kM rfl rfl (kL (fun a H => Ez.lss (r := true) H rfl rfl (by (simp; omega))) rfl (kA rfl rfl (kP [(0, _), (1, _), (4, _), (5, _), (6, _), (19, _)] rfl (kW ?_)))))))))); clear H a; intro a H
    refine wp_cond_true (H.o rfl) (wp_region_lit (l := [_]) (wl H (Ez.asn H rfl) rfl (kP [(0, _), (1, _), (4, _), (5, _)] rfl ?_))); clear H a; intro a H
    refine wpList_nil ?_
    refine bn (thn (wp_ret (thr ?_)))
    refine rt1 H rfl rfl ?_
    refine ⟨?_, Cd.refl _⟩
    have := nv_lt_len hYu hXu hNy hnm
    unfold cmpI; rw [if_pos this]
  · subst hnm
    refine wp_region_lit (l := [_, _, _, _, _, _, _]) (wl H (Ez.mv H rfl) rfl (kM rfl rfl (kL (fun a H => Ez.neq (r := false) H rfl rfl (by simp)) rfl (kM rfl rfl (kG (fun a H => Ez.mv H rfl) rfl rfl rfl rfl rfl (kG (fun a H => Ez.eql H rfl rfl (rfl)) rfl rfl rfl rfl rfl (kL (fun a H => Ez.pkF H rfl rfl) rfl (kP [(0, _), (1, _), (4, _), (5, _), (6, _), (18, _)] rfl (kW ?_))))))))); clear H a; intro a H
    refine wp_cond_split (H.o rfl) (fun hb => ?_) (fun hb => ?_)
    · have hn0 : n = 0 := by simp at hb; omega
      subst hn0
      refine wp_seq (wp_block (wp_seq (wp_region_lit (l := [_, _, _, _]) (wl H (Ez.mv H rfl) rfl (kM rfl rfl (kL (fun a H => Ez.lss (r := false) H rfl rfl (by simp)) rfl (kA rfl rfl (kP [(0, _), (1, _), (4, _), (5, _), (6, _), (19, _)] rfl (kW ?_))))))))); clear H a; intro a H
      refine wp_cond_false (H.o rfl) (wp_seq (wp_region_lit (l := [_, _, _, _]) (wl H (Ez.mv H rfl) rfl (kM rfl rfl (kL (fun a H => Ez.gtr (r := false) H rfl rfl (by simp)) rfl (kA rfl rfl (kP [(0, _), (1, _), (4, _), (5, _), (23, _)] rfl (kW ?_)))))))); clear H a; intro a H
      refine wp_cond_false (H.o rfl) (wp_skip (bn (thn (wp_ret (thr ?_)))))
      refine rt1 H rfl rfl ?_
      refine ⟨?_, Cd.refl _⟩
      simp [cmpI, nv]
    have hn0 : 0 < n := by simp at hb; omega
    have hle1 := hx.le
    have hle2 := hy.le
    obtain ⟨bx, rfl, _, hWx⟩ := hx.blk (by omega)
    obtain ⟨by_, rfl, _, hWy⟩ := hy.blk (by omega)
    refine wp_skip (thn (wp_seq (wp_region_lit (l := [_, _, _]) (wl H (Ez.mv H rfl) rfl (kL (fun a H => Ez.subI (r := ((n - 1 : Nat) : Int)) H rfl rfl (by omega) (by omega)) rfl (kA rfl rfl (kP [(0, _), (1, _), (4, _), (7, _)] rfl (kW (kS ?_))))))))); clear H a; intro a H
    refine wp_block ?_
    refine wp_loopN (fun mm a w => ∃ i : Nat, mm = i ∧ i < n ∧ Hd a 64 [] [(0, .slice (some ⟨bx, 0, none⟩) n cx), (1, .slice (some ⟨by_, 0, none⟩) n cy), (4, .int .i64 0), (7, .int .i64 i)] ∧ (∀ k, i < k → k < n → X k = Y k) ∧ Cd w0 w) (n - 1) ?_ ?_
    · replace H : Hd a 64 [] [(0, _), (1, _), (4, _), (7, _)] := H.pick [0, 1, 4, 7]
      exact ⟨n - 1, rfl, by omega, H, fun k h1 h2 => by omega, Cd.refl _⟩
    clear H a
    intro mm a w hI
    obtain ⟨i, rfl, hi, H, hk, hC⟩ := hI
    refine wp_seq (wp_seq ?_)
    by_cases hi0 : mm = 0
    · refine regionQ (ls := [_, _, _, _, _, _, _, _, _, _, _, _, _]) follows_mixed (by kernel_rfl) (wq H (fun w2 hw2 => Ez.mv H rfl) rfl (jL (fun a H w2 hw2 => Ez.gtr (r := false) H rfl rfl (by (simp; omega))) rfl (jM rfl rfl ?_))); clear H a; intro a H
      refine wqx H rfl rfl rfl rfl rfl ?_; clear H a; intro a H
      refine wqx H rfl rfl rfl rfl rfl ?_; clear H a; intro a H
      refine wqx H rfl rfl rfl rfl rfl ?_; clear H a; intro a H
      refine wqx H rfl rfl rfl rfl rfl ?_; clear H a; intro a H
      refine wqx H rfl rfl rfl rfl rfl ?_; clear H a; intro a H
      refine wqx H rfl rfl rfl rfl rfl ?_; clear H a; intro a H
      refine wqx H rfl rfl rfl rfl rfl ?_; clear H a; intro a H
      refine wqx H rfl rfl rfl rfl rfl ?_; clear H a; intro a H
      refine wqx H rfl rfl rfl rfl rfl ?_; clear H a; intro a H
      refine wq H (fun w2 hw2 => Ez.pkF H rfl rfl) rfl ?_; clear H a; intro a H
      refine wqe ?_
      intro w1 hw
      skip
      replace H : Hd a 64 [] [(0, _), (1, _), (4, _), (7, _), (41, _)] := H.pick [0, 1, 4, 7, 41]
      refine wp_cond_false (H.o rfl) (wp_exit (thx (thx (bxe (thn (wp_seq (wp_block (wp_seq ?_))))))))
      have hfin : mm = 0 ∨ X mm ≠ Y mm := .inl hi0
      have hC := hC.trans hw
      clear hw
      refine regionQ (ls := [_, _, _, _, _, _, _, _, _, _]) follows_mixed (by kernel_rfl) (wq H (fun w2 hw2 => Ez.mv H rfl) rfl (jM rfl rfl (jL (fun a H w2 hw2 => Ez.ix80 H rfl rfl mm rfl (by omega)) rfl (jL (fun a H w2 hw2 => Ez.ld103 H rfl (hw2.cell (hC.cell (by rw [Nat.zero_add]; exact hWx.cell (by omega))))) rfl (jM rfl rfl (jM rfl rfl (jL (fun a H w2 hw2 => Ez.ix80 H rfl rfl mm rfl (by omega)) rfl (jL (fun a H w2 hw2 => Ez.ld103 H rfl (hw2.cell (hC.cell (by rw [Nat.zero_add]; exact hWy.cell (by omega))))) rfl (jL (fun a H w2 hw2 => Ez.lss H rfl rfl (rfl)) rfl (jA rfl rfl ?_)))))))))); clear H a; intro a H
      refine wqe ?_
      intro w1 hw
      have hC := hC.trans hw
      clear hw
      replace H : Hd a 64 [] [(0, _), (1, _), (4, _), (7, _), (44, _)] := H.pick [0, 1, 4, 7, 44]
      refine wp_cond_split (H.o rfl) (fun hb4 => ?_) (fun hb4 => ?_)
      · have hlt : X mm < Y mm := of_decide_eq_true hb4
        refine wp_region_lit (l := [_]) (wl H (Ez.asn H rfl) rfl (kP [(4, _)] rfl ?_)); clear H a; intro a H
        refine wpList_nil ?_
        refine bn (thn (wp_ret ?_))
        refine rt1 H rfl rfl ?_
        refine ⟨?_, hC⟩
        have ht := nv_top (X := X) (Y := Y) (i := mm + 1) n (by omega) (fun k h1 h2 => hk k (by omega) h2)
        first
          | (have hd := nv_digit (X := X) (Y := Y) (i := mm) (fun j hj => hXu j (by omega)) (fun j hj => hYu j (by omega)) hlt
             unfold cmpI; rw [if_pos (by omega)])
          | (have hd := nv_digit (X := Y) (Y := X) (i := mm) (fun j hj => hYu j (by omega)) (fun j hj => hXu j (by omega)) hgt
             unfold cmpI; rw [if_neg (by omega), if_pos (by omega)])
          | (have e0 : mm = 0 := by (rcases hfin with h | h; exact h; omega)
             subst e0
             simp only [nv, Nat.zero_add] at ht
             have e1 : X 0 = Y 0 := by omega
             unfold cmpI; rw [if_neg (by simp only [nv, e1] at ht; omega), if_neg (by simp only [nv, e1] at ht; omega)])
      have hlt : ¬ X mm < Y mm := of_decide_eq_false hb4
      refine wp_seq (regionQ (ls := [_, _, _, _, _, _, _, _, _, _]) follows_mixed (by kernel_rfl) (wq H (fun w2 hw2 => Ez.mv H rfl) rfl (jM rfl rfl (jL (fun a H w2 hw2 => Ez.ix80 H rfl rfl mm rfl (by omega)) rfl (jL (fun a H w2 hw2 => Ez.ld103 H rfl (hw2.cell (hC.cell (by rw [Nat.zero_add]; exact hWx.cell (by omega))))) rfl (jM rfl rfl (jM rfl rfl (jL (fun a H w2 hw2 => Ez.ix80 H rfl rfl mm rfl (by omega)) rfl (jL (fun a H w2 hw2 => Ez.ld103 H rfl (hw2.cell (hC.cell (by rw [Nat.zero_add]; exact hWy.cell (by omega))))) rfl (jL (fun a H w2 hw2 => Ez.gtr H rfl rfl (rfl)) rfl (jA rfl rfl ?_))))))))))); clear H a; intro a H
      refine wqe ?_
      intro w1 hw
      have hC := hC.trans hw
      clear hw
      replace H : Hd a 64 [] [(4, _), (54, _)] := H.pick [4, 54]
      refine wp_cond_split (H.o rfl) (fun hb5 => ?_) (fun hb5 => ?_)
      · have hgt : Y mm < X mm := of_decide_eq_true hb5
        refine wp_region_lit (l := [_]) (wl H (Ez.asn H rfl) rfl (kP [(4, _)] rfl ?_)); clear H a; intro a H
        refine wpList_nil ?_
        refine bn (thn (wp_ret ?_))
        refine rt1 H rfl rfl ?_
        refine ⟨?_, hC⟩
        have ht := nv_top (X := X) (Y := Y) (i := mm + 1) n (by omega) (fun k h1 h2 => hk k (by omega) h2)
        first
          | (have hd := nv_digit (X := X) (Y := Y) (i := mm) (fun j hj => hXu j (by omega)) (fun j hj => hYu j (by omega)) hlt
             unfold cmpI; rw [if_pos (by omega)])
          | (have hd := nv_digit (X := Y) (Y := X) (i := mm) (fun j hj => hYu j (by omega)) (fun j hj => hXu j (by omega)) hgt
             unfold cmpI; rw [if_neg (by omega), if_pos (by omega)])
          | (have e0 : mm = 0 := by (rcases hfin with h | h; exact h; omega)
             subst e0
             simp only [nv, Nat.zero_add] at ht
             have e1 : X 0 = Y 0 := by omega
             unfold cmpI; rw [if_neg (by simp only [nv, e1] at ht; omega), if_neg (by simp only [nv, e1] at ht; omega)])
      have hgt : ¬ Y mm < X mm := of_decide_eq_false hb5
      refine wp_skip (bn (thn (wp_ret ?_)))
      refine rt1 H rfl rfl ?_
      refine ⟨?_, hC⟩
      have ht := nv_top (X := X) (Y := Y) (i := mm + 1) n (by omega) (fun k h1 h2 => hk k (by omega) h2)
      first
        | (have hd := nv_digit (X := X) (Y := Y) (i := mm) (fun j hj => hXu j (by omega)) (fun j hj => hYu j (by omega)) hlt
           unfold cmpI; rw [if_pos (by omega)])
        | (have hd := nv_digit (X := Y) (Y := X) (i := mm) (fun j hj => hYu j (by omega)) (fun j hj => hXu j (by omega)) hgt
           unfold cmpI; rw [if_neg (by omega), if_pos (by omega)])
        | (have e0 : mm = 0 := by (rcases hfin with h | h; exact h; omega)
           subst e0
           simp only [nv, Nat.zero_add] at ht
           have e1 : X 0 = Y 0 := by omega
           unfold cmpI; rw [if_neg (by simp only [nv, e1] at ht; omega), if_neg (by simp only [nv, e1] at ht; omega)])
    refine regionQ (ls := [_, _, _, _, _, _, _, _, _, _, _, _, _]) follows_mixed (by kernel_rfl) (wq H (fun w2 hw2 => Ez.mv H rfl) rfl (jL (fun a H w2 hw2 => Ez.gtr (r := true) H rfl rfl (by (simp; omega))) rfl (jM rfl rfl ?_))); clear H a; intro a H
    refine wqg H (fun w2 hw2 => Ez.mv H rfl) rfl rfl rfl rfl rfl ?_; clear H a; intro a H
    refine wqg H (fun w2 hw2 => Ez.mv H rfl) rfl rfl rfl rfl rfl ?_; clear H a; intro a H
    refine wqg H (fun w2 hw2 => Ez.ix80 H rfl rfl mm rfl (by omega)) rfl rfl rfl rfl rfl ?_; clear H a; intro a H
    refine wqg H (fun w2 hw2 => Ez.ld103 H rfl (hw2.cell (hC.cell (by rw [Nat.zero_add]; exact hWx.cell (by omega))))) rfl rfl rfl rfl rfl ?_; clear H a; intro a H
    refine wqg H (fun w2 hw2 => Ez.mv H rfl) rfl rfl rfl rfl rfl ?_; clear H a; intro a H
    refine wqg H (fun w2 hw2 => Ez.mv H rfl) rfl rfl rfl rfl rfl ?_; clear H a; intro a H
    refine wqg H (fun w2 hw2 => Ez.ix80 H rfl rfl mm rfl (by omega)) rfl rfl rfl rfl rfl ?_; clear H a; intro a H
    refine wqg H (fun w2 hw2 => Ez.ld103 H rfl (hw2.cell (hC.cell (by rw [Nat.zero_add]; exact hWy.cell (by omega))))) rfl rfl rfl rfl rfl ?_; clear H a; intro a H
    refine wqg H (fun w2 hw2 => Ez.eql H rfl rfl (rfl)) rfl rfl rfl rfl rfl ?_; clear H a; intro a H
    refine wq H (fun w2 hw2 => Ez.pkT H rfl rfl) rfl ?_; clear H a; intro a H
    refine wqe ?_
    intro w1 hw
    skip
    replace H : Hd a 64 [] [(0, _), (1, _), (4, _), (7, _), (41, _)] := H.pick [0, 1, 4, 7, 41]
    refine wp_cond_split (H.o rfl) (fun hb9 => ?_) (fun hb9 => ?_)
    · have hxy : X mm = Y mm := of_decide_eq_true hb9
      refine wp_skip (thn (wp_block (wp_region_lit (l := [_, _, _]) (wl H (Ez.mv H rfl) rfl (kL (fun a H => Ez.subI (r := ((mm - 1 : Nat) : Int)) H rfl rfl (by omega) (by omega)) rfl (kA rfl rfl (kP [(0, _), (1, _), (4, _), (7, _)] rfl ?_))))))); clear H a; intro a H
      refine wpList_nil ?_
      refine bn (thn ?_)
      replace H : Hd a 64 [] [(0, _), (1, _), (4, _), (7, _)] := H.pick [0, 1, 4, 7]
      exact ⟨mm - 1, by omega, mm - 1, rfl, by omega, H, fun k h1 h2 => by by_cases e : k = mm; (subst e; exact hxy); exact hk k (by omega) h2, hC.trans hw⟩
    have hxy : X mm ≠ Y mm := of_decide_eq_false hb9
    refine wp_exit (thx (thx (bxe (thn (wp_seq (wp_block (wp_seq ?_)))))))
    have hfin : mm = 0 ∨ X mm ≠ Y mm := .inr hxy
    have hC := hC.trans hw
    clear hw
    refine regionQ (ls := [_, _, _, _, _, _, _, _, _, _]) follows_mixed (by kernel_rfl) (wq H (fun w2 hw2 => Ez.mv H rfl) rfl (jM rfl rfl (jL (fun a H w2 hw2 => Ez.ix80 H rfl rfl mm rfl (by omega)) rfl (jL (fun a H w2 hw2 => Ez.ld103 H rfl (hw2.cell (hC.cell (by rw [Nat.zero_add]; exact hWx.cell (by omega))))) rfl (jM rfl rfl (jM rfl rfl (jL (fun a H w2 hw2 => Ez.ix80 H rfl rfl mm rfl (by omega)) rfl (jL (fun a H w2 hw2 => Ez.ld103 H rfl (hw2.cell (hC.cell (by rw [Nat.zero_add]; exact hWy.cell (by omega))))) rfl (jL (fun a H w2 hw2 => Ez.lss H rfl rfl (rfl)) rfl (jA rfl rfl ?_)))))))))); clear H a; intro a H
    refine wqe ?_
    intro w1 hw
    have hC := hC.trans hw
    clear hw
    replace H : Hd a 64 [] [(0, _), (1, _), (4, _), (7, _), (44, _)] := H.pick [0, 1, 4, 7, 44]
    refine wp_cond_split (H.o rfl) (fun hb4 => ?_) (fun hb4 => ?_)
    · have hlt : X mm < Y mm := of_decide_eq_true hb4
      refine wp_region_lit (l := [_]) (wl H (Ez.asn H rfl) rfl (kP [(4, _)] rfl ?_)); clear H a; intro a H
      refine wpList_nil ?_
      refine bn (thn (wp_ret ?_))
      refine rt1 H rfl rfl ?_
      refine ⟨?_, hC⟩
      have ht := nv_top (X := X) (Y := Y) (i := mm + 1) n (by omega) (fun k h1 h2 => hk k (by omega) h2)
      first
        | (have hd := nv_digit (X := X) (Y := Y) (i := mm) (fun j hj => hXu j (by omega)) (fun j hj => hYu j (by omega)) hlt
           unfold cmpI; rw [if_pos (by omega)])
        | (have hd := nv_digit (X := Y) (Y := X) (i := mm) (fun j hj => hYu j (by omega)) (fun j hj => hXu j (by omega)) hgt
           unfold cmpI; rw [if_neg (by omega), if_pos (by omega)])
        | (have e0 : mm = 0 := by (rcases hfin with h | h; exact h; omega)
           subst e0
           simp only [nv, Nat.zero_add] at ht
           have e1 : X 0 = Y 0 := by omega
           unfold cmpI; rw [if_neg (by simp only [nv, e1] at ht; omega), if_neg (by simp only [nv, e1] at ht; omega)])
    have hlt : ¬ X mm < Y mm := of_decide_eq_false hb4
    refine wp_seq (regionQ (ls := [_, _, _, _, _, _, _, _, _, _]) follows_mixed (by kernel_rfl) (wq H (fun w2 hw2 => Ez.mv H rfl) rfl (jM rfl rfl (jL (fun a H w2 hw2 => Ez.ix80 H rfl rfl mm rfl (by omega)) rfl (jL (fun a H w2 hw2 => Ez.ld103 H rfl (hw2.cell (hC.cell (by rw [Nat.zero_add]; exact hWx.cell (by omega))))) rfl (jM rfl rfl (jM rfl rfl (jL (fun a H w2 hw2 => Ez.ix80 H rfl rfl mm rfl (by omega)) rfl (jL (fun a H w2 hw2 => Ez.ld103 H rfl (hw2.cell (hC.cell (by rw [Nat.zero_add]; exact hWy.cell (by omega))))) rfl (jL (fun a H w2 hw2 => Ez.gtr H rfl rfl (rfl)) rfl (jA rfl rfl ?_))))))))))); clear H a; intro a H
    refine wqe ?_
    intro w1 hw
    have hC := hC.trans hw
    clear hw
    replace H : Hd a 64 [] [(4, _), (54, _)] := H.pick [4, 54]
    refine wp_cond_split (H.o rfl) (fun hb5 => ?_) (fun hb5 => ?_)
    · have hgt : Y mm < X mm := of_decide_eq_true hb5
      refine wp_region_lit (l := [_]) (wl H (Ez.asn H rfl) rfl (kP [(4, _)] rfl ?_)); clear H a; intro a H
      refine wpList_nil ?_
      refine bn (thn (wp_ret ?_))
      refine rt1 H rfl rfl ?_
      refine ⟨?_, hC⟩
      have ht := nv_top (X := X) (Y := Y) (i := mm + 1) n (by omega) (fun k h1 h2 => hk k (by omega) h2)
      first
        | (have hd := nv_digit (X := X) (Y := Y) (i := mm) (fun j hj => hXu j (by omega)) (fun j hj => hYu j (by omega)) hlt
           unfold cmpI; rw [if_pos (by omega)])
        | (have hd := nv_digit (X := Y) (Y := X) (i := mm) (fun j hj => hYu j (by omega)) (fun j hj => hXu j (by omega)) hgt
           unfold cmpI; rw [if_neg (by omega), if_pos (by omega)])
        | (have e0 : mm = 0 := by (rcases hfin with h | h; exact h; omega)
           subst e0
           simp only [nv, Nat.zero_add] at ht
           have e1 : X 0 = Y 0 := by omega
           unfold cmpI; rw [if_neg (by simp only [nv, e1] at ht; omega), if_neg (by simp only [nv, e1] at ht; omega)])
    have hgt : ¬ Y mm < X mm := of_decide_eq_false hb5
    refine wp_skip (bn (thn (wp_ret ?_)))
    refine rt1 H rfl rfl ?_
    refine ⟨?_, hC⟩
    have ht := nv_top (X := X) (Y := Y) (i := mm + 1) n (by omega) (fun k h1 h2 => hk k (by omega) h2)
    first
      | (have hd := nv_digit (X := X) (Y := Y) (i := mm) (fun j hj => hXu j (by omega)) (fun j hj => hYu j (by omega)) hlt
         unfold cmpI; rw [if_pos (by omega)])
      | (have hd := nv_digit (X := Y) (Y := X) (i := mm) (fun j hj => hYu j (by omega)) (fun j hj => hXu j (by omega)) hgt
         unfold cmpI; rw [if_neg (by omega), if_pos (by omega)])
      | (have e0 : mm = 0 := by (rcases hfin with h | h; exact h; omega)
         subst e0
         simp only [nv, Nat.zero_add] at ht
         have e1 : X 0 = Y 0 := by omega
         unfold cmpI; rw [if_neg (by simp only [nv, e1] at ht; omega), if_neg (by simp only [nv, e1] at ht; omega)])
  refine wp_region_lit (l := [_, _, _, _, _, _, _]) (wl H (Ez.mv H rfl) rfl (kM rfl rfl (kL (fun a H => Ez.neq (r := true) H rfl rfl (by (simp; omega))) rfl (kM rfl rfl (kX rfl rfl rfl rfl rfl (kX rfl rfl rfl rfl rfl (kL (fun a H => Ez.pkT H rfl rfl) rfl (kP [(0, _), (1, _), (4, _), (5, _), (6, _), (18, _)] rfl (kW ?_))))))))); clear H a; intro a H
  refine wp_cond_true (H.o rfl) (wp_seq (wp_block (wp_seq (wp_region_lit (l := [_, _, _, _]) (wl H (Ez.mv H rfl) rfl (kM rfl rfl (kL (fun a H => Ez.lss (r := false) H rfl rfl (by (simp; omega))) rfl (kA rfl rfl (kP [(0, _), (1, _), (4, _), (5, _), (6, _), (19, _)] rfl (kW ?_)))))))))); clear H a; intro a H
  refine wp_cond_false (H.o rfl) (wp_seq (wp_region_lit (l := [_, _, _, _]) (wl H (Ez.mv H rfl) rfl (kM rfl rfl (kL (fun a H => Ez.gtr (r := true) H rfl rfl (by (simp; omega))) rfl (kA rfl rfl (kP [(0, _), (1, _), (4, _), (5, _), (23, _)] rfl (kW ?_)))))))); clear H a; intro a H
  refine wp_cond_true (H.o rfl) (wp_region_lit (l := [_]) (wl H (Ez.asn H rfl) rfl (kP [(0, _), (1, _), (4, _), (5, _)] rfl ?_))); clear H a; intro a H
  refine wpList_nil ?_
  refine bn (thn (wp_ret (thr ?_)))
  refine rt1 H rfl rfl ?_
  refine ⟨?_, Cd.refl _⟩
  have := nv_lt_len hXu hYu hNx hnm
  unfold cmpI; rw [if_neg (by omega), if_pos this]
theorem natMulAddWW (q qx : Option Addr) (n0 c0 n c : Nat) (Z X : Nat → Int) (y r : Int) (w : World) (hz : Sl w q n0 c0 Z) (hx : Sl w qx n c X) (hn : n < 100000000) (hy : U64 y) (hr : U64 r) :
    Calls Tryz.prog 121 #[.slice q n0 c0, .slice qx n c, .int .u64 y, .int .u64 r] w fun e w' => ∃ q' n' c' X', e = .returned (.slice q' n' c') ∧ Sl w' q' n' c' X' ∧ n' ≤ n + 1 ∧ nv X' n' = nv X n * y + r ∧ Nm X' n' ∧ Own w q q' ∧ Fr (TQ q) w w' := by
  refine enterE (vs := [.slice q n0 c0, .slice qx n c, .int .u64 y, .int .u64 r]) Tryz.func121 rfl rfl ?_
  intro a H
  replace H : Hd a 37 [] [(0, .slice q n0 c0), (1, .slice qx n c), (2, .int .u64 y), (3, .int .u64 r)] := H
  refine wp_seq (wp_region_lit (l := [_]) (wl H (Ez.asn H rfl) rfl (kW (kS (kR [_, _, _] (kM rfl rfl (kL (fun a H => Ez.len80 H rfl) rfl (kA rfl rfl (kP [(0, _), (1, _), (2, _), (3, _), (8, _), (9, _)] rfl (kW (kS (kS ?_)))))))))))); clear H a; intro a H
  by_cases hn0 : n = 0
  · refine wp_region_lit (l := [_, _, _, _, _, _]) (wl H (Ez.mv H rfl) rfl (kL (fun a H => Ez.eql (r := true) H rfl rfl (by (simp; omega))) rfl (kM rfl rfl (kX rfl rfl rfl rfl rfl (kX rfl rfl rfl rfl rfl (kL (fun a H => Ez.pkT H rfl rfl) rfl (kP [(0, _), (1, _), (2, _), (3, _), (8, _), (9, _), (17, _)] rfl (kW ?_)))))))); clear H a; intro a H
    refine wp_cond_true (H.o rfl) (wp_seq (wp_region_lit (l := [_, _, _, _]) (wl H (Ez.mv H rfl) rfl (kM rfl rfl ?_)))); clear H a; intro a H
    refine wk H cf116 (natSetWord q n0 c0 Z r w hz hr) rfl rfl ?_
    rintro _ w1 ⟨q', n', c', X', rfl, h1, h2, h3, h4, h5, h6⟩
    refine ⟨_, rfl, ?_⟩; clear H a; intro a H
    refine wl H (Ez.asn H rfl) rfl (kP [(0, _), (1, _), (2, _), (3, _), (8, _), (9, _)] rfl (kW ?_)); clear H a; intro a H
    refine wp_ret (thr ?_)
    refine rt1 H rfl rfl ?_
    exact ⟨q', n', c', X', rfl, h1, by omega, by rw [h3, hn0]; simp [nv], h4, h5, h6⟩
  refine wp_region_lit (l := [_, _, _, _, _, _]) (wl H (Ez.mv H rfl) rfl (kL (fun a H => Ez.eql (r := false) H rfl rfl (by (simp; omega))) rfl (kM rfl rfl (kG (fun a H => Ez.mv H rfl) rfl rfl rfl rfl rfl (kG (fun a H => Ez.eql H rfl rfl (rfl)) rfl rfl rfl rfl rfl (kL (fun a H => Ez.pkF H rfl rfl) rfl (kP [(0, _), (1, _), (2, _), (3, _), (8, _), (9, _), (17, _)] rfl (kW ?_)))))))); clear H a; intro a H
  refine wp_cond_split (H.o rfl) (fun hb => ?_) (fun hb => ?_)
  · have hy0 : y = 0 := of_decide_eq_true hb
    refine wp_seq (wp_region_lit (l := [_, _, _, _]) (wl H (Ez.mv H rfl) rfl (kM rfl rfl ?_))); clear H a; intro a H
    refine wk H cf116 (natSetWord q n0 c0 Z r w hz hr) rfl rfl ?_
    rintro _ w1 ⟨q', n', c', X', rfl, h1, h2, h3, h4, h5, h6⟩
    refine ⟨_, rfl, ?_⟩; clear H a; intro a H
    refine wl H (Ez.asn H rfl) rfl (kP [(0, _), (1, _), (2, _), (3, _), (8, _), (9, _)] rfl (kW ?_)); clear H a; intro a H
    refine wp_ret (thr ?_)
    refine rt1 H rfl rfl ?_
    exact ⟨q', n', c', X', rfl, h1, by omega, by rw [h3, hy0]; simp, h4, h5, h6⟩
  have hy0 : y ≠ 0 := of_decide_eq_false hb
  refine wp_skip (thn (wp_seq (wp_region_lit (l := [_, _, _, _, _]) (wl H (Ez.mv H rfl) rfl (kM rfl rfl (kL (fun a H => Ez.addI (r := ((n + 1 : Nat) : Int)) H rfl rfl (by omega) (by omega)) rfl ?_)))))); clear H a; intro a H
  refine wk H cf82 (natMake q n0 c0 (n + 1) Z w hz (by omega)) rfl rfl ?_
  rintro _ w1 ⟨q', c', X1, rfl, h1, h2, h3⟩
  refine ⟨_, rfl, ?_⟩; clear H a; intro a H
  have hle := h1.le
  have hlx := hx.le
  obtain ⟨b, rfl, _, hW⟩ := h1.blk (by omega)
  obtain ⟨bx, rfl, _, hWx⟩ := (hx.frN h3).blk (by omega)
  refine wl H (Ez.asn H rfl) rfl (kP [(0, _), (1, _), (2, _), (3, _), (8, _), (9, _)] rfl (kW (kS (kR [_, _, _, _, _, _, _, _, _, _, _] (kM rfl rfl (kM rfl rfl (kM rfl rfl (kM rfl rfl (kL (fun a H => Ez.slZ80 H rfl rfl rfl n rfl (by omega)) rfl (kM rfl rfl (kM rfl rfl (kM rfl rfl ?_)))))))))))); clear H a; intro a H
  refine wk H cf138 (mulAddVWW b 0 c' bx 0 c n c' c X1 X y r w1 hW hWx (fun _ => rfl) (by omega) (by omega) (by omega) hy hr) rfl rfl ?_
  rintro _ w1 ⟨k, X2, rfl, h4, h5, h6, h7, h8⟩
  refine ⟨_, rfl, ?_⟩; clear H a; intro a H
  refine wl H (Ez.ix80 H rfl rfl n rfl (by omega)) rfl ?_; clear H a; intro a H
  refine wls H (Ez.st103 H rfl rfl rfl (h4.cell (by omega)) (h4.fz _)) ?_; clear H; intro H
  refine kP [(0, _), (8, _)] rfl (kW (kS (kR [_, _, _] (kM rfl rfl ?_)))) a H; clear H a; intro a H
  refine wk H cf84 (natNorm _ (n + 1) c' (up X2 (0 + n) k) _ (Sl.of (h4.set (j := 0 + n) (by omega) h7) hle (by omega)) (by omega)) rfl rfl ?_
  rintro _ w1 ⟨m, rfl, k1, k2, k3, k4, rfl⟩
  refine ⟨_, rfl, ?_⟩; clear H a; intro a H
  refine wl H (Ez.asn H rfl) rfl (kP [(8, _)] rfl (kW ?_)); clear H a; intro a H
  refine wp_ret ?_
  refine rt1 H rfl rfl ?_
  refine ⟨_, m, c', _, rfl, k2, k1, ?_, k4, h2, (h3.noT.trans ((h8.trans (Fr.bl _)).blq)).own h2⟩
  rw [k3, ← nvo_zero, nvo_succ, nvo_up_ge _ _ _ _ _ (Nat.le_refl _), up_eq, h6, nvo_zero]
end
section
set_option maxRecDepth 8000
theorem Wk.alias {w0 w : World} {bx cx bz cz : Nat} {X Z Z' : Nat → Int} (hx : Wk w0 bx cx X) (hz0 : Wk w0 bz cz Z) (hz : Wk w bz cz Z') (hF : Fr (Bl bz) w0 w) (S : Nat → Prop) (hout : ∀ k, S k → Z' k = Z k) :
    ∃ X', Wk w bx cx X' ∧ ∀ k, k < cx → S k → X' k = X k := by
  by_cases e : bx = bz
  · subst e
    obtain ⟨ec, eX⟩ := hx.inj hz0
    subst ec
    exact ⟨Z', hz, fun k hk hs => by rw [hout k hs, eX k hk]⟩
  exact ⟨X, hx.fr hF fun _ h => e h, fun _ _ _ => rfl⟩
theorem rtD1 {P : Program} {fn : Func} {R : Ending → World → Prop} {a : Act} {w : World} {N : Nat} {l : Env} {t : Tmp} {v : Value} (H : Hd a N [] l) (h : fn.results = #[.tmp t]) (hv : lk l t = some v) (hR : R (.returned v) w) : bodyPostD P fn R .ret a w := by
  show Leaves P fn a.tmps R a.defers .returning w
  rw [H.df]
  refine ⟨v, ?_, hR⟩
  rw [← H.g _ _ hv]; exact results_tmp h _ _ _
theorem rtD2 {P : Program} {fn : Func} {R : Ending → World → Prop} {a : Act} {w : World} {N : Nat} {l : Env} {t u : Tmp} {v x : Value} (H : Hd a N [] l) (h : fn.results = #[.tmp t, .tmp u]) (hv : lk l t = some v) (hx : lk l u = some x) (hR : R (.returned (.tuple #[v, x])) w) : bodyPostD P fn R .ret a w := by
  show Leaves P fn a.tmps R a.defers .returning w
  rw [H.df]
  refine ⟨_, ?_, hR⟩
  rw [← H.g _ _ hv, ← H.g _ _ hx]; exact results_tmp2 h _ _ _
theorem Nm.congr {X X' : Nat → Int} {n : Nat} (h : Nm X n) (e : ∀ j, j < n → X' j = X j) : Nm X' n := by
  rcases h with h | h
  · exact .inl h
  rcases Nat.eq_zero_or_pos n with h0 | h0
  · exact .inl h0
  exact .inr (by rw [e _ (by omega)]; exact h)
set_option maxHeartbeats 1000000 in
theorem natAdd1 (q qx qy : Option Addr) (n0 c0 m cx n cy : Nat) (Z X Y : Nat → Int) (w : World) (hz : Sl w q n0 c0 Z) (hx : Sl w qx m cx X) (hy : Sl w qy n cy Y) (hm : m < 100000000) (hmn : n ≤ m) (hNx : Nm X m) :
    Calls Tryz.prog 92 #[.slice q n0 c0, .slice qx m cx, .slice qy n cy] w fun e w' => ∃ q' k c' X', e = .returned (.slice q' k c') ∧ Sl w' q' k c' X' ∧ k ≤ m + 1 ∧ nv X' k = nv X m + nv Y n ∧ Nm X' k ∧ Own w q q' ∧ Fr (TQ q) w w' := by
  obtain ⟨w0, hw0⟩ : ∃ w0, w0 = w := ⟨w, rfl⟩
  rw [← hw0]
  rw [← hw0] at hz hx hy
  clear hw0 w
  refine enterE (vs := [.slice q n0 c0, .slice qx m cx, .slice qy n cy]) Tryz.func92 rfl rfl ?_
  intro a H
  replace H : Hd a 65 [] [(0, .slice q n0 c0), (1, .slice qx m cx), (2, .slice qy n cy)] := H
  refine wp_seq (wp_region_lit (l := [_]) (wl H (Ez.asn H rfl) rfl (kW (kS (kR [_, _, _] (kM rfl rfl (kL (fun a H => Ez.len80 H rfl) rfl (kA rfl rfl (kP [(0, _), (1, _), (2, _), (6, _), (7, _)] rfl (kW (kS (kR [_, _, _] (kM rfl rfl (kL (fun a H => Ez.len80 H rfl) rfl (kA rfl rfl (kP [(0, _), (1, _), (2, _), (6, _), (7, _), (8, _)] rfl (kW (kS ?_)))))))))))))))))); clear H a; intro a H
  refine wp_block (wp_seq (wp_region_lit (l := [_, _, _, _]) (wl H (Ez.mv H rfl) rfl (kM rfl rfl (kL (fun a H => Ez.lss (r := false) H rfl rfl (by (simp; omega))) rfl (kA rfl rfl (kP [(0, _), (1, _), (2, _), (6, _), (7, _), (8, _), (14, _)] rfl (kW ?_)))))))); clear H a; intro a H
  refine wp_cond_false (H.o rfl) (wp_seq (wp_region_lit (l := [_, _, _]) (wl H (Ez.mv H rfl) rfl (kL (fun a H => Ez.eql H rfl rfl (rfl)) rfl (kA rfl rfl (kP [(0, _), (1, _), (2, _), (6, _), (7, _), (8, _), (22, _)] rfl (kW ?_))))))); clear H a; intro a H
  refine wp_cond_split (H.o rfl) (fun hb1 => ?_) (fun hb1 => ?_)
  · have hm0 : m = 0 := by simp at hb1; omega
    refine wp_seq (wp_region_lit (l := [_, _, _]) (wl H (Ez.mv H rfl) rfl (kL (fun a H => Ez.slH80 H rfl rfl 0 rfl (Nat.zero_le _)) rfl (kA rfl rfl (kP [(0, _), (1, _), (2, _), (6, _), (7, _), (8, _)] rfl (kW ?_)))))); clear H a; intro a H
    refine wp_ret (bret (thr ?_))
    refine rt1 H rfl rfl ?_
    exact ⟨q, 0, c0, Z, rfl, hz.cut (Nat.zero_le _), by omega, by (have hn0 : n = 0 := by omega); subst hm0; subst hn0; rfl, .inl rfl, Own.refl _ _, Fr.refl _ _⟩
  have hm0 : 0 < m := by simp at hb1; omega
  refine wp_seq (wp_region_lit (l := [_, _, _]) (wl H (Ez.mv H rfl) rfl (kL (fun a H => Ez.eql H rfl rfl (rfl)) rfl (kA rfl rfl (kP [(0, _), (1, _), (2, _), (6, _), (7, _), (8, _), (27, _)] rfl (kW ?_)))))); clear H a; intro a H
  refine wp_cond_split (H.o rfl) (fun hb2 => ?_) (fun hb2 => ?_)
  · have hn0 : n = 0 := by simp at hb2; omega
    refine wp_seq (wp_region_lit (l := [_, _, _, _]) (wl H (Ez.mv H rfl) rfl (kM rfl rfl ?_))); clear H a; intro a H
    refine wk H cf94 (natSet q qx n0 c0 m cx Z X w0 hz hx (by omega)) rfl rfl ?_
    rintro _ w1 ⟨q', c', X', rfl, h1, h2, h3, h4⟩
    refine ⟨_, rfl, ?_⟩; clear H a; intro a H
    refine wl H (Ez.asn H rfl) rfl (kP [(0, _), (1, _), (2, _), (6, _), (7, _), (8, _)] rfl (kW ?_)); clear H a; intro a H
    refine wp_ret (bret (thr ?_))
    refine rt1 H rfl rfl ?_
    exact ⟨q', m, c', X', rfl, h1, by omega, by rw [nv_congr m h2, hn0]; simp [nv], hNx.congr h2, h3, h4⟩
  have hn0 : 0 < n := by simp at hb2; omega
  refine wp_skip (bn (thn (wp_seq (wp_region_lit (l := [_, _, _, _, _]) (wl H (Ez.mv H rfl) rfl (kM rfl rfl (kL (fun a H => Ez.addI (r := ((m + 1 : Nat) : Int)) H rfl rfl (by omega) (by omega)) rfl ?_))))))); clear H a; intro a H
  refine wk H cf82 (natMake q n0 c0 (m + 1) Z w0 hz (by omega)) rfl rfl ?_
  rintro _ w1 ⟨q', c', X1, rfl, h1, h2, h3⟩
  refine ⟨_, rfl, ?_⟩; clear H a; intro a H
  have hle := h1.le
  have hlx := hx.le
  have hly := hy.le
  obtain ⟨b, rfl, _, hW⟩ := h1.blk (by omega)
  obtain ⟨bx, rfl, _, hWx⟩ := (hx.frN h3).blk (by omega)
  obtain ⟨by_, rfl, _, hWy⟩ := (hy.frN h3).blk (by omega)
  obtain ⟨wm, hwm⟩ : ∃ wm, wm = w1 := ⟨_, rfl⟩
  rw [← hwm]
  rw [← hwm] at hW hWx hWy h3
  clear hwm h1 w1
  refine wl H (Ez.asn H rfl) rfl (kP [(0, _), (1, _), (2, _), (6, _), (7, _), (8, _)] rfl (kW (kS ?_))); clear H a; intro a H
  refine regionT [_, _, _, _, _, _, _, _, _] [_, _] follows_mixed (by kernel_rfl) ?_
  intro w1 hw
  have hW1 := hW.heq hw.heap
  have hWx1 := hWx.heq hw.heap
  have hWy1 := hWy.heq hw.heap
  have hF1 : Fr (Bl b) wm w1 := hw.fr _
  refine wst H (Ez.mv H rfl) rfl (iL (fun a H => Ez.mv H rfl) rfl (iL (fun a H => Ez.slH80 H rfl rfl n rfl (by omega)) rfl (iL (fun a H => Ez.mv H rfl) rfl (iL (fun a H => Ez.mv H rfl) rfl (iL (fun a H => Ez.slH80 H rfl rfl n rfl (by omega)) rfl (iL (fun a H => Ez.mv H rfl) rfl (iL (fun a H => Ez.mv H rfl) rfl (iL (fun a H => Ez.slH80 H rfl rfl n rfl (by omega)) rfl ?_)))))))); clear H a; intro a H
  refine wste ?_
  refine wk H cf109 (addVV b 0 c' bx 0 cx by_ 0 cy n c' cx cy X1 X Y w1 hW1 hWx1 hWy1 (fun _ => rfl) (fun _ => rfl) (by omega) (by omega) (by omega) (by omega)) rfl rfl ?_
  rintro _ w1 ⟨k, Z1, rfl, a1, a2, a3, a4, a5⟩
  refine ⟨_, rfl, ?_⟩; clear H a; intro a H
  have hF2 := hF1.trans a5
  clear hw hW1 hWx1 hWy1 hF1 a5
  refine wl H (Ez.asn H rfl) rfl (kP [(0, _), (1, _), (6, _), (7, _), (8, _), (9, _)] rfl (kW ?_)); clear H a; intro a H
  refine wp_cut (fun a w => ∃ (k : Int) (Z' : Nat → Int), Hd a 65 [] [(0, .slice (some ⟨b, 0, none⟩) (m + 1) c'), (7, .int .i64 m), (9, .int .u64 k)] ∧ Wk w b c' Z' ∧ nv Z' m + k * BB ^ m = nv X m + nv Y n ∧ (0 ≤ k ∧ k ≤ 1) ∧ Fr (Bl b) wm w) ?_ ?_
  · refine wp_seq (wp_region_lit (l := [_, _, _]) (wl H (Ez.mv H rfl) rfl (kM rfl rfl (kL (fun a H => Ez.gtr H rfl rfl (rfl)) rfl (kP [(0, _), (1, _), (6, _), (7, _), (8, _), (9, _), (49, _)] rfl (kW ?_)))))); clear H a; intro a H
    refine wp_cond_split (H.o rfl) (fun hb3 => ?_) (fun hb3 => ?_)
    · have hmn2 : n < m := by simp at hb3; omega
      refine regionT [_, _, _, _, _, _, _, _] [_, _] follows_mixed (by kernel_rfl) ?_
      intro w1 hw
      have a1' := a1.heq hw.heap
      have hF3 : Fr (Bl b) wm w1 := hF2.trans (hw.fr _)
      obtain ⟨X2, hX2, eX2⟩ := hWx.alias hW a1' hF3 (fun k => n ≤ k) (fun k hk => a2 k (by omega))
      refine wst H (Ez.mv H rfl) rfl (iL (fun a H => Ez.mv H rfl) rfl (iL (fun a H => Ez.mv H rfl) rfl (iL (fun a H => Ez.slLH80 H rfl rfl rfl n m rfl rfl (by omega) (by omega) (0 + n) (m - n) (c' - n) (if_pos (by omega)) rfl rfl) rfl (iL (fun a H => Ez.mv H rfl) rfl (iL (fun a H => Ez.mv H rfl) rfl (iL (fun a H => Ez.slL80 H rfl rfl n rfl (by omega) (by omega) (0 + n) (m - n) (cx - n) (if_pos (by omega)) rfl rfl) rfl (iL (fun a H => Ez.mv H rfl) rfl ?_))))))); clear H a; intro a H
      refine wste ?_
      refine wk H cf110 (addVW b (0 + n) c' bx (0 + n) cx (m - n) (c' - n) (cx - n) Z1 X2 k w1 a1' hX2 (by unfold U64; omega) (fun _ => rfl) (by omega) (by omega) (by omega) (by omega) (by omega) (by omega)) rfl rfl ?_
      rintro _ w1 ⟨k2, Z2, rfl, b1, b2, b3, b4, b5⟩
      refine ⟨_, rfl, ?_⟩; clear H a; intro a H
      refine wl H (Ez.asn H rfl) rfl (kP [(0, _), (6, _), (7, _), (9, _)] rfl (kW (kP [(0, _), (7, _), (9, _)] rfl ?_))); clear H a; intro a H
      first
        | (refine ⟨k2, Z2, H, b1, ?_, b4, hF3.trans b5⟩
           have e1 := nvo_add Z2 0 n (m - n)
           have e2 := nvo_add X 0 n (m - n)
           rw [show n + (m - n) = m by omega, nvo_zero] at e1 e2
           have e3 : nvo X2 (0 + n) (m - n) = nvo X (0 + n) (m - n) := nvo_congr fun j hj => eX2 _ (by omega) (by omega)
           have e4 : nvo Z2 0 n = nvo Z1 0 n := nvo_congr fun j hj => b2 _ (by omega)
           have e5 : BB ^ m = BB ^ (m - n) * BB ^ n := by rw [← Int.pow_add, show m - n + n = m by omega]
           have e6 : (nvo Z2 (0 + n) (m - n) + k2 * BB ^ (m - n)) * BB ^ n = (nvo X (0 + n) (m - n) + k) * BB ^ n := by rw [b3, e3]
           simp only [Int.add_mul] at e6
           rw [Int.mul_assoc, ← e5] at e6
           rw [nvo_zero Y] at a3
           rw [e1, e2, e4]
           omega)
        | (subst hmn2
           rw [nvo_zero, nvo_zero, nvo_zero] at a3
           exact ⟨k, Z1, H, a1, a3, a4, hF2⟩)
    have hmn2 : m = n := by simp at hb3; omega
    refine wp_skip (thn ?_)
    replace H : Hd a 65 [] [(0, _), (7, _), (9, _)] := H.pick [0, 7, 9]
    first
      | (refine ⟨k2, Z2, H, b1, ?_, b4, hF3.trans b5⟩
         have e1 := nvo_add Z2 0 n (m - n)
         have e2 := nvo_add X 0 n (m - n)
         rw [show n + (m - n) = m by omega, nvo_zero] at e1 e2
         have e3 : nvo X2 (0 + n) (m - n) = nvo X (0 + n) (m - n) := nvo_congr fun j hj => eX2 _ (by omega) (by omega)
         have e4 : nvo Z2 0 n = nvo Z1 0 n := nvo_congr fun j hj => b2 _ (by omega)
         have e5 : BB ^ m = BB ^ (m - n) * BB ^ n := by rw [← Int.pow_add, show m - n + n = m by omega]
         have e6 : (nvo Z2 (0 + n) (m - n) + k2 * BB ^ (m - n)) * BB ^ n = (nvo X (0 + n) (m - n) + k) * BB ^ n := by rw [b3, e3]
         simp only [Int.add_mul] at e6
         rw [Int.mul_assoc, ← e5] at e6
         rw [nvo_zero Y] at a3
         rw [e1, e2, e4]
         omega)
      | (subst hmn2
         rw [nvo_zero, nvo_zero, nvo_zero] at a3
         exact ⟨k, Z1, H, a1, a3, a4, hF2⟩)
  clear H a
  intro a w hJ
  obtain ⟨k, Z1, H, a1, a3, a4, hF2⟩ := hJ
  refine wp_seq (wp_region_lit (l := [_, _, _, _, _]) (wl H (Ez.mv H rfl) rfl (kM rfl rfl (kM rfl rfl (kL (fun a H => Ez.ix80 H rfl rfl m rfl (by omega)) rfl ?_))))); clear H a; intro a H
  refine wls H (Ez.st103 H rfl rfl rfl (a1.cell (by omega)) (a1.fz _)) ?_; clear H; intro H
  refine kP [(0, _)] rfl (kW (kS (kR [_, _, _] (kM rfl rfl ?_)))) a H; clear H a; intro a H
  refine wk H cf84 (natNorm _ (m + 1) c' (up Z1 (0 + m) k) _ (Sl.of (a1.set (j := 0 + m) (by omega) (by unfold U64; omega)) hle (by omega)) (by omega)) rfl rfl ?_
  rintro _ w1 ⟨j, rfl, k1, k2, k3, k4, rfl⟩
  refine ⟨_, rfl, ?_⟩; clear H a; intro a H
  refine wl H (Ez.asn H rfl) rfl (kP [(6, _)] rfl (kW ?_)); clear H a; intro a H
  refine wp_ret ?_
  refine rt1 H rfl rfl ?_
  refine ⟨_, j, c', _, rfl, k2, k1, ?_, k4, h2, (h3.noT.trans ((hF2.trans (Fr.bl _)).blq)).own h2⟩
  rw [k3, ← nvo_zero, nvo_succ, nvo_up_ge _ _ _ _ _ (Nat.le_refl _), up_eq, nvo_zero]; exact a3
theorem natAdd (q qx qy : Option Addr) (n0 c0 m cx n cy : Nat) (Z X Y : Nat → Int) (w : World) (hz : Sl w q n0 c0 Z) (hx : Sl w qx m cx X) (hy : Sl w qy n cy Y) (hm : m < 100000000) (hn : n < 100000000) (hNx : Nm X m) (hNy : Nm Y n) :
    Calls Tryz.prog 92 #[.slice q n0 c0, .slice qx m cx, .slice qy n cy] w fun e w' => ∃ q' k c' X', e = .returned (.slice q' k c') ∧ Sl w' q' k c' X' ∧ k ≤ max m n + 1 ∧ nv X' k = nv X m + nv Y n ∧ Nm X' k ∧ Own w q q' ∧ Fr (TQ q) w w' := by
  by_cases hmn : n ≤ m
  · exact (natAdd1 q qx qy n0 c0 m cx n cy Z X Y w hz hx hy hm hmn hNx).mono fun _ _ ⟨q', k, c', X', h0, h1, h2, h3⟩ => ⟨q', k, c', X', h0, h1, by omega, h3⟩
  refine enterE (vs := [.slice q n0 c0, .slice qx m cx, .slice qy n cy]) Tryz.func92 rfl rfl ?_
  intro a H
  replace H : Hd a 65 [] [(0, .slice q n0 c0), (1, .slice qx m cx), (2, .slice qy n cy)] := H
  refine wp_seq (wp_region_lit (l := [_]) (wl H (Ez.asn H rfl) rfl (kW (kS (kR [_, _, _] (kM rfl rfl (kL (fun a H => Ez.len80 H rfl) rfl (kA rfl rfl (kP [(0, _), (1, _), (2, _), (6, _), (7, _)] rfl (kW (kS (kR [_, _, _] (kM rfl rfl (kL (fun a H => Ez.len80 H rfl) rfl (kA rfl rfl (kP [(0, _), (1, _), (2, _), (6, _), (7, _), (8, _)] rfl (kW (kS ?_)))))))))))))))))); clear H a; intro a H
  refine wp_block (wp_seq (wp_region_lit (l := [_, _, _, _]) (wl H (Ez.mv H rfl) rfl (kM rfl rfl (kL (fun a H => Ez.lss (r := true) H rfl rfl (by (simp; omega))) rfl (kA rfl rfl (kP [(0, _), (1, _), (2, _), (6, _), (7, _), (8, _), (14, _)] rfl (kW ?_)))))))); clear H a; intro a H
  refine wp_cond_true (H.o rfl) (wp_seq (wp_region_lit (l := [_, _, _, _, _]) (wl H (Ez.mv H rfl) rfl (kM rfl rfl (kM rfl rfl ?_))))); clear H a; intro a H
  refine wk H cf92 (natAdd1 q qy qx n0 c0 n cy m cx Z Y X w hz hy hx hn (by omega) hNy) rfl rfl ?_
  rintro _ w1 ⟨q', k, c', X', rfl, h1, h2, h3, h4, h5, h6⟩
  refine ⟨_, rfl, ?_⟩; clear H a; intro a H
  refine wl H (Ez.asn H rfl) rfl (kP [(0, _), (1, _), (2, _), (6, _), (7, _), (8, _)] rfl (kW ?_)); clear H a; intro a H
  refine wp_ret (bret (thr ?_))
  refine rt1 H rfl rfl ?_
  exact ⟨q', k, c', X', rfl, h1, by omega, by rw [h3]; omega, h4, h5, h6⟩
set_option maxHeartbeats 1000000 in
theorem natSub (q qx qy : Option Addr) (n0 c0 m cx n cy : Nat) (Z X Y : Nat → Int) (w : World) (hz : Sl w q n0 c0 Z) (hx : Sl w qx m cx X) (hy : Sl w qy n cy Y) (hm : m < 100000000) (hmn : n ≤ m) (hNx : Nm X m) (hge : nv Y n ≤ nv X m) :
    Calls Tryz.prog 93 #[.slice q n0 c0, .slice qx m cx, .slice qy n cy] w fun e w' => ∃ q' k c' X', e = .returned (.slice q' k c') ∧ Sl w' q' k c' X' ∧ k ≤ m + 1 ∧ nv X' k = nv X m - nv Y n ∧ Nm X' k ∧ Own w q q' ∧ Fr (TQ q) w w' := by
  obtain ⟨w0, hw0⟩ : ∃ w0, w0 = w := ⟨w, rfl⟩
  rw [← hw0]
  rw [← hw0] at hz hx hy
  clear hw0 w
  refine enterE (vs := [.slice q n0 c0, .slice qx m cx, .slice qy n cy]) Tryz.func93 rfl rfl ?_
  intro a H
  replace H : Hd a 59 [] [(0, .slice q n0 c0), (1, .slice qx m cx), (2, .slice qy n cy)] := H
  refine wp_seq (wp_region_lit (l := [_]) (wl H (Ez.asn H rfl) rfl (kW (kS (kR [_, _, _] (kM rfl rfl (kL (fun a H => Ez.len80 H rfl) rfl (kA rfl rfl (kP [(0, _), (1, _), (2, _), (6, _), (7, _)] rfl (kW (kS (kR [_, _, _] (kM rfl rfl (kL (fun a H => Ez.len80 H rfl) rfl (kA rfl rfl (kP [(0, _), (1, _), (2, _), (6, _), (7, _), (8, _)] rfl (kW (kS ?_)))))))))))))))))); clear H a; intro a H
  refine wp_block (wp_seq (wp_region_lit (l := [_, _, _, _]) (wl H (Ez.mv H rfl) rfl (kM rfl rfl (kL (fun a H => Ez.lss (r := false) H rfl rfl (by (simp; omega))) rfl (kA rfl rfl (kP [(0, _), (1, _), (2, _), (6, _), (7, _), (8, _), (14, _)] rfl (kW ?_)))))))); clear H a; intro a H
  refine wp_cond_false (H.o rfl) (wp_seq (wp_region_lit (l := [_, _, _]) (wl H (Ez.mv H rfl) rfl (kL (fun a H => Ez.eql H rfl rfl (rfl)) rfl (kA rfl rfl (kP [(0, _), (1, _), (2, _), (6, _), (7, _), (8, _), (19, _)] rfl (kW ?_))))))); clear H a; intro a H
  refine wp_cond_split (H.o rfl) (fun hb1 => ?_) (fun hb1 => ?_)
  · have hm0 : m = 0 := by simp at hb1; omega
    refine wp_seq (wp_region_lit (l := [_, _, _]) (wl H (Ez.mv H rfl) rfl (kL (fun a H => Ez.slH80 H rfl rfl 0 rfl (Nat.zero_le _)) rfl (kA rfl rfl (kP [(0, _), (1, _), (2, _), (6, _), (7, _), (8, _)] rfl (kW ?_)))))); clear H a; intro a H
    refine wp_ret (bret (thr ?_))
    refine rt1 H rfl rfl ?_
    exact ⟨q, 0, c0, Z, rfl, hz.cut (Nat.zero_le _), by omega, by (have hn0 : n = 0 := by omega); subst hm0; subst hn0; rfl, .inl rfl, Own.refl _ _, Fr.refl _ _⟩
  have hm0 : 0 < m := by simp at hb1; omega
  refine wp_seq (wp_region_lit (l := [_, _, _]) (wl H (Ez.mv H rfl) rfl (kL (fun a H => Ez.eql H rfl rfl (rfl)) rfl (kA rfl rfl (kP [(0, _), (1, _), (2, _), (6, _), (7, _), (8, _), (24, _)] rfl (kW ?_)))))); clear H a; intro a H
  refine wp_cond_split (H.o rfl) (fun hb2 => ?_) (fun hb2 => ?_)
  · have hn0 : n = 0 := by simp at hb2; omega
    refine wp_seq (wp_region_lit (l := [_, _, _, _]) (wl H (Ez.mv H rfl) rfl (kM rfl rfl ?_))); clear H a; intro a H
    refine wk H cf94 (natSet q qx n0 c0 m cx Z X w0 hz hx (by omega)) rfl rfl ?_
    rintro _ w1 ⟨q', c', X', rfl, h1, h2, h3, h4⟩
    refine ⟨_, rfl, ?_⟩; clear H a; intro a H
    refine wl H (Ez.asn H rfl) rfl (kP [(0, _), (1, _), (2, _), (6, _), (7, _), (8, _)] rfl (kW ?_)); clear H a; intro a H
    refine wp_ret (bret (thr ?_))
    refine rt1 H rfl rfl ?_
    exact ⟨q', m, c', X', rfl, h1, by omega, by rw [nv_congr m h2, hn0]; simp [nv], hNx.congr h2, h3, h4⟩
  have hn0 : 0 < n := by simp at hb2; omega
  refine wp_skip (bn (thn (wp_seq (wp_region_lit (l := [_, _, _, _]) (wl H (Ez.mv H rfl) rfl (kM rfl rfl ?_)))))); clear H a; intro a H
  refine wk H cf82 (natMake q n0 c0 (m) Z w0 hz (by omega)) rfl rfl ?_
  rintro _ w1 ⟨q', c', X1, rfl, h1, h2, h3⟩
  refine ⟨_, rfl, ?_⟩; clear H a; intro a H
  have hle := h1.le
  have hlx := hx.le
  have hly := hy.le
  obtain ⟨b, rfl, _, hW⟩ := h1.blk (by omega)
  obtain ⟨bx, rfl, _, hWx⟩ := (hx.frN h3).blk (by omega)
  obtain ⟨by_, rfl, _, hWy⟩ := (hy.frN h3).blk (by omega)
  obtain ⟨wm, hwm⟩ : ∃ wm, wm = w1 := ⟨_, rfl⟩
  rw [← hwm]
  rw [← hwm] at hW hWx hWy h3
  clear hwm h1 w1
  refine wl H (Ez.asn H rfl) rfl (kP [(0, _), (1, _), (2, _), (6, _), (7, _), (8, _)] rfl (kW (kS ?_))); clear H a; intro a H
  refine regionT [_, _, _, _, _, _, _, _, _] [_, _] follows_mixed (by kernel_rfl) ?_
  intro w1 hw
  have hW1 := hW.heq hw.heap
  have hWx1 := hWx.heq hw.heap
  have hWy1 := hWy.heq hw.heap
  have hF1 : Fr (Bl b) wm w1 := hw.fr _
  refine wst H (Ez.mv H rfl) rfl (iL (fun a H => Ez.mv H rfl) rfl (iL (fun a H => Ez.slH80 H rfl rfl n rfl (by omega)) rfl (iL (fun a H => Ez.mv H rfl) rfl (iL (fun a H => Ez.mv H rfl) rfl (iL (fun a H => Ez.slH80 H rfl rfl n rfl (by omega)) rfl (iL (fun a H => Ez.mv H rfl) rfl (iL (fun a H => Ez.mv H rfl) rfl (iL (fun a H => Ez.slH80 H rfl rfl n rfl (by omega)) rfl ?_)))))))); clear H a; intro a H
  refine wste ?_
  refine wk H cf111 (subVV b 0 c' bx 0 cx by_ 0 cy n c' cx cy X1 X Y w1 hW1 hWx1 hWy1 (fun _ => rfl) (fun _ => rfl) (by omega) (by omega) (by omega) (by omega)) rfl rfl ?_
  rintro _ w1 ⟨k, Z1, rfl, a1, a2, a3, a4, a5⟩
  refine ⟨_, rfl, ?_⟩; clear H a; intro a H
  have hF2 := hF1.trans a5
  clear hw hW1 hWx1 hWy1 hF1 a5
  refine wl H (Ez.asn H rfl) rfl (kP [(0, _), (1, _), (6, _), (7, _), (8, _), (9, _)] rfl (kW ?_)); clear H a; intro a H
  refine wp_cut (fun a w => ∃ (k : Int) (Z' : Nat → Int), Hd a 59 [] [(0, .slice (some ⟨b, 0, none⟩) (m) c'), (9, .int .u64 k)] ∧ Wk w b c' Z' ∧ nv Z' m - k * BB ^ m = nv X m - nv Y n ∧ (0 ≤ k ∧ k ≤ 1) ∧ Fr (Bl b) wm w) ?_ ?_
  · refine wp_seq (wp_region_lit (l := [_, _, _]) (wl H (Ez.mv H rfl) rfl (kM rfl rfl (kL (fun a H => Ez.gtr H rfl rfl (rfl)) rfl (kP [(0, _), (1, _), (6, _), (8, _), (9, _), (45, _)] rfl (kW ?_)))))); clear H a; intro a H
    refine wp_cond_split (H.o rfl) (fun hb3 => ?_) (fun hb3 => ?_)
    · have hmn2 : n < m := by simp at hb3; omega
      refine regionT [_, _, _, _, _, _, _] [_, _] follows_mixed (by kernel_rfl) ?_
      intro w1 hw
      have a1' := a1.heq hw.heap
      have hF3 : Fr (Bl b) wm w1 := hF2.trans (hw.fr _)
      obtain ⟨X2, hX2, eX2⟩ := hWx.alias hW a1' hF3 (fun k => n ≤ k) (fun k hk => a2 k (by omega))
      refine wst H (Ez.mv H rfl) rfl (iL (fun a H => Ez.mv H rfl) rfl (iL (fun a H => Ez.slL80 H rfl rfl n rfl (by omega) (by omega) (0 + n) (m - n) (c' - n) (if_pos (by omega)) rfl rfl) rfl (iL (fun a H => Ez.mv H rfl) rfl (iL (fun a H => Ez.mv H rfl) rfl (iL (fun a H => Ez.slL80 H rfl rfl n rfl (by omega) (by omega) (0 + n) (m - n) (cx - n) (if_pos (by omega)) rfl rfl) rfl (iL (fun a H => Ez.mv H rfl) rfl ?_)))))); clear H a; intro a H
      refine wste ?_
      refine wk H cf112 (subVW b (0 + n) c' bx (0 + n) cx (m - n) (c' - n) (cx - n) Z1 X2 k w1 a1' hX2 (by unfold U64; omega) (fun _ => rfl) (by omega) (by omega) (by omega) (by omega) (by omega) (by omega)) rfl rfl ?_
      rintro _ w1 ⟨k2, Z2, rfl, b1, b2, b3, b4, b5⟩
      refine ⟨_, rfl, ?_⟩; clear H a; intro a H
      refine wl H (Ez.asn H rfl) rfl (kP [(0, _), (6, _), (9, _)] rfl (kW (kP [(0, _), (9, _)] rfl ?_))); clear H a; intro a H
      first
        | (refine ⟨k2, Z2, H, b1, ?_, b4, hF3.trans b5⟩
           have e1 := nvo_add Z2 0 n (m - n)
           have e2 := nvo_add X 0 n (m - n)
           rw [show n + (m - n) = m by omega, nvo_zero] at e1 e2
           have e3 : nvo X2 (0 + n) (m - n) = nvo X (0 + n) (m - n) := nvo_congr fun j hj => eX2 _ (by omega) (by omega)
           have e4 : nvo Z2 0 n = nvo Z1 0 n := nvo_congr fun j hj => b2 _ (by omega)
           have e5 : BB ^ m = BB ^ (m - n) * BB ^ n := by rw [← Int.pow_add, show m - n + n = m by omega]
           have e6 : (nvo Z2 (0 + n) (m - n) - k2 * BB ^ (m - n)) * BB ^ n = (nvo X (0 + n) (m - n) - k) * BB ^ n := by rw [b3, e3]
           simp only [Int.sub_mul] at e6
           rw [Int.mul_assoc, ← e5] at e6
           rw [nvo_zero Y] at a3
           rw [e1, e2, e4]
           omega)
        | (subst hmn2
           rw [nvo_zero, nvo_zero, nvo_zero] at a3
           exact ⟨k, Z1, H, a1, a3, a4, hF2⟩)
    have hmn2 : m = n := by simp at hb3; omega
    refine wp_skip (thn ?_)
    replace H : Hd a 59 [] [(0, _), (9, _)] := H.pick [0, 9]
    first
      | (refine ⟨k2, Z2, H, b1, ?_, b4, hF3.trans b5⟩
         have e1 := nvo_add Z2 0 n (m - n)
         have e2 := nvo_add X 0 n (m - n)
         rw [show n + (m - n) = m by omega, nvo_zero] at e1 e2
         have e3 : nvo X2 (0 + n) (m - n) = nvo X (0 + n) (m - n) := nvo_congr fun j hj => eX2 _ (by omega) (by omega)
         have e4 : nvo Z2 0 n = nvo Z1 0 n := nvo_congr fun j hj => b2 _ (by omega)
         have e5 : BB ^ m = BB ^ (m - n) * BB ^ n := by rw [← Int.pow_add, show m - n + n = m by omega]
         have e6 : (nvo Z2 (0 + n) (m - n) - k2 * BB ^ (m - n)) * BB ^ n = (nvo X (0 + n) (m - n) - k) * BB ^ n := by rw [b3, e3]
         simp only [Int.sub_mul] at e6
         rw [Int.mul_assoc, ← e5] at e6
         rw [nvo_zero Y] at a3
         rw [e1, e2, e4]
         omega)
      | (subst hmn2
         rw [nvo_zero, nvo_zero, nvo_zero] at a3
         exact ⟨k, Z1, H, a1, a3, a4, hF2⟩)
  clear H a
  intro a w hJ
  obtain ⟨k, Z1, H, a1, a3, a4, hF2⟩ := hJ
  refine wp_seq (wp_seq ?_)
  have hk0 : k = 0 := by
    rcases (show k = 0 ∨ k = 1 by omega) with h | h
    · exact h
    exfalso
    rw [h, Int.one_mul] at a3
    have := nv_lt m (fun j hj => a1.u j (by omega))
    omega
  refine wp_region_lit (l := [_, _]) (wl H (Ez.mv H rfl) rfl (kL (fun a H => Ez.neq (r := false) H rfl rfl (by (simp; exact hk0))) rfl (kP [(0, _), (55, _)] rfl (kW ?_)))); clear H a; intro a H
  refine wp_cond_false (H.o rfl) (wp_skip (thn (wp_seq (wp_region_lit (l := [_, _, _]) (wl H (Ez.mv H rfl) rfl ?_))))); clear H a; intro a H
  refine wk H cf84 (natNorm _ m c' Z1 _ (Sl.of a1 hle (by omega)) (by omega)) rfl rfl ?_
  rintro _ w1 ⟨j, rfl, k1, k2, k3, k4, rfl⟩
  refine ⟨_, rfl, ?_⟩; clear H a; intro a H
  refine wl H (Ez.asn H rfl) rfl (kP [(6, _)] rfl (kW ?_)); clear H a; intro a H
  refine wp_ret ?_
  refine rt1 H rfl rfl ?_
  refine ⟨_, j, c', _, rfl, k2, by omega, ?_, k4, h2, (h3.noT.trans (hF2.blq)).own h2⟩
  rw [k3, ← a3, hk0]; simp
def Sh (q q' : Option Addr) : Prop := q = q' ∧ q ≠ none
noncomputable instance (q q' : Option Addr) : Decidable (Sh q q') := Classical.propDecidable _
theorem Sh.of_not {w : World} {q q' : Option Addr} {n c n' c' : Nat} {X Y : Nat → Int} (hx : Sl w q n c X) (hy : Sl w q' n' c' Y) (h : ¬ Sh q q') {k j j' : Nat} (h1 : TQ q k j) (h2 : TQ q' k j') : False := by
  rcases hx with ⟨h0, _⟩ | ⟨b, h0, _⟩
  · rw [h0] at h1; exact TQ_none h1
  rcases hy with ⟨g0, _⟩ | ⟨b', g0, _⟩
  · rw [g0] at h2; exact TQ_none h2
  subst h0; subst g0
  rw [TQ_some] at h1 h2
  subst h1; subst h2
  exact h ⟨rfl, by simp⟩
theorem natAlias (qx qy : Option Addr) (n cx m cy : Nat) (X Y : Nat → Int) (w : World) (hx : Sl w qx n cx X) (hy : Sl w qy m cy Y) :
    Calls Tryz.prog 85 #[.slice qx n cx, .slice qy m cy] w fun e w' => e = .returned (.bool (decide (Sh qx qy))) ∧ Cd w w' := by
  refine enterE (vs := [.slice qx n cx, .slice qy m cy]) Tryz.func85 rfl rfl ?_
  intro a H
  replace H : Hd a 32 [] [(0, .slice qx n cx), (1, .slice qy m cy)] := H
  refine wp_seq (wp_region_lit (l := [_]) (wl H (Ez.asn H rfl) rfl (kW (kS ?_)))); clear H a; intro a H
  rcases (show cx = 0 ∨ (0 < cx ∧ cy = 0) ∨ (0 < cx ∧ 0 < cy) by omega) with hc | hc | hc
  · refine regionQ (ls := [_, _, _, _, _, _, _, _, _, _, _, _, _, _, _, _, _, _, _, _, _, _, _, _, _, _, _, _]) follows_mixed (by kernel_rfl) (wq H (fun w2 hw2 => Ez.mv H rfl) rfl (jL (fun a H w2 hw2 => Ez.cap80 H rfl) rfl (jL (fun a H w2 hw2 => Ez.gtr (r := false) H rfl rfl (by (simp; omega))) rfl (jM rfl rfl ?_)))); clear H a; intro a H
    refine wqx H rfl rfl rfl rfl rfl ?_; clear H a; intro a H
    refine wqx H rfl rfl rfl rfl rfl ?_; clear H a; intro a H
    refine wqx H rfl rfl rfl rfl rfl ?_; clear H a; intro a H
    refine wq H (fun w2 hw2 => Ez.pkF H rfl rfl) rfl (jM rfl rfl ?_); clear H a; intro a H
    refine wqx H rfl rfl rfl rfl rfl ?_; clear H a; intro a H
    refine wqx H rfl rfl rfl rfl rfl ?_; clear H a; intro a H
    refine wqx H rfl rfl rfl rfl rfl ?_; clear H a; intro a H
    refine wqx H rfl rfl rfl rfl rfl ?_; clear H a; intro a H
    refine wqx H rfl rfl rfl rfl rfl ?_; clear H a; intro a H
    refine wqx H rfl rfl rfl rfl rfl ?_; clear H a; intro a H
    refine wqx H rfl rfl rfl rfl rfl ?_; clear H a; intro a H
    refine wqx H rfl rfl rfl rfl rfl ?_; clear H a; intro a H
    refine wqx H rfl rfl rfl rfl rfl ?_; clear H a; intro a H
    refine wqx H rfl rfl rfl rfl rfl ?_; clear H a; intro a H
    refine wqx H rfl rfl rfl rfl rfl ?_; clear H a; intro a H
    refine wqx H rfl rfl rfl rfl rfl ?_; clear H a; intro a H
    refine wqx H rfl rfl rfl rfl rfl ?_; clear H a; intro a H
    refine wqx H rfl rfl rfl rfl rfl ?_; clear H a; intro a H
    refine wqx H rfl rfl rfl rfl rfl ?_; clear H a; intro a H
    refine wqx H rfl rfl rfl rfl rfl ?_; clear H a; intro a H
    refine wqx H rfl rfl rfl rfl rfl ?_; clear H a; intro a H
    refine wq H (fun w2 hw2 => Ez.pkF H rfl rfl) rfl (jA rfl rfl ?_); clear H a; intro a H
    refine wqe ?_
    intro w1 hw
    skip
    replace H : Hd a 32 [] [(4, _)] := H.pick [4]
    refine wp_ret ?_
    refine rt1 H rfl rfl ?_
    refine ⟨?_, hw⟩
    rw [decide_eq_false]
    rintro ⟨h1, h2⟩
    subst h1
    rcases hx with ⟨h0, _⟩ | ⟨b, _, _, h3, _⟩
    · exact h2 h0
    omega
  · refine regionQ (ls := [_, _, _, _, _, _, _, _, _, _, _, _, _, _, _, _, _, _, _, _, _, _, _, _, _, _, _, _]) follows_mixed (by kernel_rfl) (wq H (fun w2 hw2 => Ez.mv H rfl) rfl (jL (fun a H w2 hw2 => Ez.cap80 H rfl) rfl (jL (fun a H w2 hw2 => Ez.gtr (r := true) H rfl rfl (by (simp; omega))) rfl (jM rfl rfl ?_)))); clear H a; intro a H
    refine wqg H (fun w2 hw2 => Ez.mv H rfl) rfl rfl rfl rfl rfl ?_; clear H a; intro a H
    refine wqg H (fun w2 hw2 => Ez.cap80 H rfl) rfl rfl rfl rfl rfl ?_; clear H a; intro a H
    refine wqg H (fun w2 hw2 => Ez.gtr (r := false) H rfl rfl (by (simp; omega))) rfl rfl rfl rfl rfl ?_; clear H a; intro a H
    refine wq H (fun w2 hw2 => Ez.pkT H rfl rfl) rfl (jM rfl rfl ?_); clear H a; intro a H
    refine wqx H rfl rfl rfl rfl rfl ?_; clear H a; intro a H
    refine wqx H rfl rfl rfl rfl rfl ?_; clear H a; intro a H
    refine wqx H rfl rfl rfl rfl rfl ?_; clear H a; intro a H
    refine wqx H rfl rfl rfl rfl rfl ?_; clear H a; intro a H
    refine wqx H rfl rfl rfl rfl rfl ?_; clear H a; intro a H
    refine wqx H rfl rfl rfl rfl rfl ?_; clear H a; intro a H
    refine wqx H rfl rfl rfl rfl rfl ?_; clear H a; intro a H
    refine wqx H rfl rfl rfl rfl rfl ?_; clear H a; intro a H
    refine wqx H rfl rfl rfl rfl rfl ?_; clear H a; intro a H
    refine wqx H rfl rfl rfl rfl rfl ?_; clear H a; intro a H
    refine wqx H rfl rfl rfl rfl rfl ?_; clear H a; intro a H
    refine wqx H rfl rfl rfl rfl rfl ?_; clear H a; intro a H
    refine wqx H rfl rfl rfl rfl rfl ?_; clear H a; intro a H
    refine wqx H rfl rfl rfl rfl rfl ?_; clear H a; intro a H
    refine wqx H rfl rfl rfl rfl rfl ?_; clear H a; intro a H
    refine wqx H rfl rfl rfl rfl rfl ?_; clear H a; intro a H
    refine wqx H rfl rfl rfl rfl rfl ?_; clear H a; intro a H
    refine wq H (fun w2 hw2 => Ez.pkF H rfl rfl) rfl (jA rfl rfl ?_); clear H a; intro a H
    refine wqe ?_
    intro w1 hw
    skip
    replace H : Hd a 32 [] [(4, _)] := H.pick [4]
    refine wp_ret ?_
    refine rt1 H rfl rfl ?_
    refine ⟨?_, hw⟩
    rw [decide_eq_false]
    rintro ⟨h1, h2⟩
    subst h1
    rcases hy with ⟨h0, _⟩ | ⟨b, _, _, h3, _⟩
    · exact h2 h0
    omega
  obtain ⟨bx, rfl, _, hWx⟩ := hx.blk hc.1
  obtain ⟨by_, rfl, _, hWy⟩ := hy.blk hc.2
  obtain ⟨i103, hi103, hs103⟩ := info103
  have hcm1 := hWx.m
  have hcm2 := hWy.m
  refine regionQ (ls := [_, _, _, _, _, _, _, _, _, _, _, _, _, _, _, _, _, _, _, _, _, _, _, _, _, _, _, _]) follows_mixed (by kernel_rfl) (wq H (fun w2 hw2 => Ez.mv H rfl) rfl (jL (fun a H w2 hw2 => Ez.cap80 H rfl) rfl (jL (fun a H w2 hw2 => Ez.gtr (r := true) H rfl rfl (by (simp; omega))) rfl (jM rfl rfl ?_)))); clear H a; intro a H
  refine wqg H (fun w2 hw2 => Ez.mv H rfl) rfl rfl rfl rfl rfl ?_; clear H a; intro a H
  refine wqg H (fun w2 hw2 => Ez.cap80 H rfl) rfl rfl rfl rfl rfl ?_; clear H a; intro a H
  refine wqg H (fun w2 hw2 => Ez.gtr (r := true) H rfl rfl (by (simp; omega))) rfl rfl rfl rfl rfl ?_; clear H a; intro a H
  refine wq H (fun w2 hw2 => Ez.pkT H rfl rfl) rfl (jM rfl rfl ?_); clear H a; intro a H
  refine wqg H (fun w2 hw2 => Ez.mv H rfl) rfl rfl rfl rfl rfl ?_; clear H a; intro a H
  refine wqg H (fun w2 hw2 => Ez.mv H rfl) rfl rfl rfl rfl rfl ?_; clear H a; intro a H
  refine wqg H (fun w2 hw2 => Ez.cap80 H rfl) rfl rfl rfl rfl rfl ?_; clear H a; intro a H
  refine wqg H (fun w2 hw2 => Ez.slZ80 H rfl rfl rfl cx rfl (by omega)) rfl rfl rfl rfl rfl ?_; clear H a; intro a H
  refine wqg H (fun w2 hw2 => Ez.mv H rfl) rfl rfl rfl rfl rfl ?_; clear H a; intro a H
  refine wqg H (fun w2 hw2 => Ez.cap80 H rfl) rfl rfl rfl rfl rfl ?_; clear H a; intro a H
  refine wqg H (fun w2 hw2 => Ez.subI (r := ((cx - 1 : Nat) : Int)) H rfl rfl (by omega) (by omega)) rfl rfl rfl rfl rfl ?_; clear H a; intro a H
  refine wqg H (fun w2 hw2 => Ez.ix80 H rfl rfl (cx - 1) rfl (by omega)) rfl rfl rfl rfl rfl ?_; clear H a; intro a H
  refine wqg H (fun w2 hw2 => Ez.mv H rfl) rfl rfl rfl rfl rfl ?_; clear H a; intro a H
  refine wqg H (fun w2 hw2 => Ez.mv H rfl) rfl rfl rfl rfl rfl ?_; clear H a; intro a H
  refine wqg H (fun w2 hw2 => Ez.cap80 H rfl) rfl rfl rfl rfl rfl ?_; clear H a; intro a H
  refine wqg H (fun w2 hw2 => Ez.slZ80 H rfl rfl rfl cy rfl (by omega)) rfl rfl rfl rfl rfl ?_; clear H a; intro a H
  refine wqg H (fun w2 hw2 => Ez.mv H rfl) rfl rfl rfl rfl rfl ?_; clear H a; intro a H
  refine wqg H (fun w2 hw2 => Ez.cap80 H rfl) rfl rfl rfl rfl rfl ?_; clear H a; intro a H
  refine wqg H (fun w2 hw2 => Ez.subI (r := ((cy - 1 : Nat) : Int)) H rfl rfl (by omega) (by omega)) rfl rfl rfl rfl rfl ?_; clear H a; intro a H
  refine wqg H (fun w2 hw2 => Ez.ix80 H rfl rfl (cy - 1) rfl (by omega)) rfl rfl rfl rfl rfl ?_; clear H a; intro a H
  refine wqg H (fun w2 hw2 => Ez.eqlP H rfl rfl ptrFacts hi103 hs103 (by rw [hw2.heap]; exact hWx.blk) (by rw [hw2.heap]; exact hWy.blk) rfl) rfl rfl rfl rfl rfl ?_; clear H a; intro a H
  refine wq H (fun w2 hw2 => Ez.pkT H rfl rfl) rfl (jA rfl rfl ?_); clear H a; intro a H
  refine wqe ?_
  intro w1 hw
  skip
  replace H : Hd a 32 [] [(4, _)] := H.pick [4]
  refine wp_ret ?_
  refine rt1 H rfl rfl ?_
  refine ⟨?_, hw⟩
  congr 2
  refine decide_eq_decide.2 ⟨fun h => ?_, fun h => ?_⟩
  · injection h with h1 h2
    subst h1
    exact ⟨rfl, by simp⟩
  obtain ⟨h1, _⟩ := h
  injection h1 with h1
  injection h1 with h1
  subst h1
  have := (hWx.inj hWy).1
  subst this; rfl
end
section
set_option maxRecDepth 8000
section
variable {P : Program} {ops : Array Oper} {Q : Exit → Act → World → Prop} {md : Region.Mode}
def headB (md : Region.Mode) (ops : Array Oper) : Nat → Nat → Array Bool → Bool
  | 0, _, _ => true
  | n + 1, k, listed => Region.free md ops listed k && (Region.ready md ops listed).contains k && headB md ops n (k + 1) (listed.setIfInBounds k true)
def markB : Nat → Nat → Array Bool → Array Bool
  | 0, _, listed => listed
  | n + 1, k, listed => markB n (k + 1) (listed.setIfInBounds k true)
def pureTailB (ops : Array Oper) (n : Nat) : Bool :=
  Region.noSelect ops && headB .any ops n 0 (Array.replicate ops.size false) && decide (n ≤ ops.size) && Region.seqB .any ops (ops.size - n) n (markB n 0 (Array.replicate ops.size false))
def wpPure (P : Program) (ops : Array Oper) (Q : Act → Prop) : List Oper → Act → Prop
  | [], a => Q a
  | o :: rest, a => ∃ v, o.dst.isSome = true ∧ YieldsIf P ops (fun _ => True) o v a ∧ wpPure P ops Q rest (a.put o.dst v)
theorem heldT : ∀ (fuel : Nat) (listed : Array Bool) (a : Act) (w : World), wpAny P md ops Q fuel listed a w → wpAnyH P md ops Q (fun _ => True) fuel listed a w
  | 0, _, _, _, h => h
  | fuel + 1, _, _, _, h => ⟨h.1, fun i hi => wpOp_mono (fun a' w' h' => ⟨trivial, heldT fuel _ a' w' h'⟩) (h.2 i hi)⟩
theorem wpAnyH_pure (hs : Region.noSelect ops = true) (hQ : ∀ c d v a w, Q (.panic c) (Act.put a (some d) v) w → Q (.panic c) a w) : ∀ (l : List Oper) (k g : Nat) (listed : Array Bool) (a : Act) (w : World), (∀ j, j < l.length → l[j]? = ops[k + j]?) →
    headB md ops l.length k listed = true → wpPure P ops (fun a' => wpAnyH P md ops Q (fun _ => True) g (markB l.length k listed) a' w) l a → wpAnyH P md ops Q (fun _ => True) (l.length + g) listed a w
  | [], k, g, listed, a, w, _, _, h => by simpa [markB, wpPure] using h
  | o :: rest, k, g, listed, a, w, hl, hB, h => by
    obtain ⟨v, hd, hy, h⟩ := h
    simp only [List.length_cons, headB, Bool.and_eq_true] at hB
    obtain ⟨⟨hf, hr⟩, hB⟩ := hB
    have h0 : ops[k]? = some o := by simpa using (hl 0 (by simp)).symm
    obtain ⟨d, hd⟩ := Option.isSome_iff_exists.1 hd
    have ih := wpAnyH_pure hs hQ rest (k + 1) g (listed.setIfInBounds k true) (a.put o.dst v) w (fun j hj => by have := hl (j + 1) (by simpa using hj); simpa [Nat.add_assoc, Nat.add_comm 1 j] using this) hB h
    rw [show (o :: rest).length + g = (rest.length + g) + 1 by simp; omega]
    exact wpAnyH_take h0 hs hf hr (by rw [hd]; exact fun c a w => hQ c d v a w) hy trivial ih
theorem regionP {id : Nat} {a : Act} {w : World} (l1 l2 : List Oper) (hm : P.follows .mixedOrders = true) (hQ : ∀ c d v a w, Q (.panic c) (Act.put a (some d) v) w → Q (.panic c) a w) (hB : pureTailB (l1 ++ l2).toArray l1.length = true)
    (h : ∀ w1, Cd w w1 → wpPure P (l1 ++ l2).toArray (fun a' => wpList P (l1 ++ l2).toArray Q l2 a' w1) l1 a) : (Code.region id (l1 ++ l2).toArray true).wp P Q a w := by
  simp only [pureTailB, Bool.and_eq_true, decide_eq_true_eq] at hB
  obtain ⟨⟨⟨hs, hh⟩, hn⟩, hq⟩ := hB
  refine wp_region_held (S := fun _ => True) hm ?_
  have hp := h { w with drawn := w.drawn + 1 } ⟨1, rfl⟩
  have hsz : (l1 ++ l2).toArray.size = l1.length + l2.length := by simp
  rw [hsz]
  refine wpAnyH_pure hs hQ l1 0 l2.length _ a _ (fun j hj => by simp [List.getElem?_append_left hj]) (by rw [← hsz]; exact hh) ?_
  have mono : ∀ (l : List Oper) (a : Act) (Q1 Q2 : Act → Prop), (∀ a, Q1 a → Q2 a) → wpPure P (l1 ++ l2).toArray Q1 l a → wpPure P (l1 ++ l2).toArray Q2 l a := by
    intro l
    induction l with
    | nil => intro a Q1 Q2 hq h; exact hq _ h
    | cons o l ih => intro a Q1 Q2 hq h; obtain ⟨v, h1, h2, h3⟩ := h; exact ⟨v, h1, h2, ih _ _ _ hq h3⟩
  refine mono _ _ _ _ (fun a' h' => ?_) hp
  refine heldT _ _ _ _ ?_
  rw [← hsz]
  exact wpAny_of_seq l2 l1.length _ a' _ (fun j => by simp [List.getElem?_append_right (Nat.le_add_right _ _)]) (by rw [hsz, Nat.add_sub_cancel_left] at hq; rw [hsz]; exact hq) h'
end
section
variable {P : Program} {ops : Array Oper} {Q : Act → Prop} {a : Act} {rest : List Oper} {op : Op} {d : Nat} {ty : TypeId} {pos : String} {after : Array Edge} {N : Nat} {ds : List Deferred} {l : Env} {v : Value}
theorem wpu (H : Hd a N ds l) (hr : ∀ w, (execOp a.eval ⟨some d, op, ty, pos, after, none⟩).run P w = .ok (.value v) w) (hd : Nat.blt d N = true)
    (h : ∀ a', Hd a' N ds ((d, v) :: l) → wpPure P ops Q rest a') : wpPure P ops Q (⟨some d, op, ty, pos, after, none⟩ :: rest) a :=
  ⟨v, rfl, .inl ⟨by simp [Region.wanted], fun w _ => hr w⟩, h _ (H.put v hd)⟩
theorem wpue (h : Q a) : wpPure P ops Q [] a := h
end
end
section
set_option maxRecDepth 8000
theorem Sl.cd {w w' : World} {q : Option Addr} {n c : Nat} {X : Nat → Int} (h : Sl w q n c X) (hC : Cd w w') : Sl w' q n c X := h.frN (hC.fr _)
theorem nvo_zeros {X : Nat → Int} {o : Nat} : ∀ n, (∀ j, j < n → X (o + j) = 0) → nvo X o n = 0
  | 0, _ => rfl
  | n + 1, h => by rw [nvo_succ, nvo_zeros n (fun j hj => h j (by omega)), h n (by omega)]; simp
set_option maxHeartbeats 1000000 in
theorem basicMul (bz cz bx cx by_ cy lz m n mx my : Nat) (Z X Y : Nat → Int) (w : World) (hz : Wk w bz cz Z) (hx : Wk w bx cx X) (hy : Wk w by_ cy Y) (hbx : bx ≠ bz) (hby : by_ ≠ bz) (hlz : m + n ≤ lz) (hlc : lz ≤ cz) (hmx : m ≤ cx) (hny : n ≤ cy) (hm : m < 100000000) (hn : n < 100000000) (hmn : 0 < m + n) :
    Calls Tryz.prog 159 #[.slice (some ⟨bz, 0, none⟩) lz cz, .slice (some ⟨bx, 0, none⟩) m mx, .slice (some ⟨by_, 0, none⟩) n my] w fun e w' => ∃ Z', e = .returned (.tuple #[]) ∧ Wk w' bz cz Z' ∧ (∀ k, m + n ≤ k → Z' k = Z k) ∧ nv Z' (m + n) = nv X m * nv Y n ∧ Fr (Bl bz) w w' := by
  obtain ⟨w0, hw0⟩ : ∃ w0, w0 = w := ⟨w, rfl⟩
  rw [← hw0]
  rw [← hw0] at hz hx hy
  clear hw0 w
  refine enterE (vs := [.slice (some ⟨bz, 0, none⟩) lz cz, .slice (some ⟨bx, 0, none⟩) m mx, .slice (some ⟨by_, 0, none⟩) n my]) Tryz.func159 rfl rfl ?_
  intro a H
  replace H : Hd a 48 [] [(0, .slice (some ⟨bz, 0, none⟩) lz cz), (1, .slice (some ⟨bx, 0, none⟩) m mx), (2, .slice (some ⟨by_, 0, none⟩) n my)] := H
  refine wp_seq (wp_region_lit (l := [_, _, _, _, _, _, _, _]) (wl H (Ez.mv H rfl) rfl (kM rfl rfl (kL (fun a H => Ez.len80 H rfl) rfl (kM rfl rfl (kL (fun a H => Ez.len80 H rfl) rfl (kL (fun a H => Ez.addI (r := ((m + n : Nat) : Int)) H rfl rfl (by omega) (by omega)) rfl (kL (fun a H => Ez.slZ80 H rfl rfl rfl (m + n) rfl (by omega)) rfl ?_)))))))); clear H a; intro a H
  obtain ⟨w2, e2, hz1, hF1⟩ := Ez.clearW (x := .tmp 14) (T := 80) (d := none) (ty := 0) (pos := _) (after := _) (g := none) H rfl (.inr rfl) hz (by omega) hmn
  refine wlv H (e2) ?_; clear e2 H; intro H
  refine kP [(0, _), (1, _), (2, _)] rfl (kW (kS (kR [_, _, _] (kM rfl rfl (kL (fun a H => Ez.len80 H rfl) rfl (kM rfl rfl (kP [(0, _), (1, _), (15, _), (16, _), (17, _)] rfl (kW ?_)))))))) a H; clear H a; intro a H
  refine wp_block ?_
  refine wp_loopN (fun mm a w => ∃ (i : Nat) (Z' : Nat → Int), mm = n - i ∧ i ≤ n ∧ Hd a 48 [] [(0, .slice (some ⟨bz, 0, none⟩) lz cz), (1, .slice (some ⟨bx, 0, none⟩) m mx), (15, .slice (some ⟨by_, 0, none⟩) n my), (16, .int .i64 n), (17, .int .i64 i)] ∧ Wk w bz cz Z' ∧ (∀ k, m + n ≤ k → Z' k = Z k) ∧ (∀ k, m + i ≤ k → k < m + n → Z' k = 0) ∧ nvo Z' 0 (i + m) = nvo X 0 m * nvo Y 0 i ∧ Fr (Bl bz) w0 w) (n) ?_ ?_
  · replace H : Hd a 48 [] [(0, _), (1, _), (15, _), (16, _), (17, _)] := H.pick [0, 1, 15, 16, 17]
    refine ⟨0, _, rfl, Nat.zero_le _, H, hz1, fun k hk => cp_out (by omega), fun k h1 h2 => ?_, ?_, hF1⟩
    · have := cp_in (Z := Z) (oz := 0) (X := fun _ => (0 : Int)) (ox := 0) h2; simpa using this
    rw [Nat.zero_add, nvo_zeros m (fun j hj => (cp_in (Z := Z) (oz := 0) (X := fun _ => (0 : Int)) (ox := 0) (by omega)))]; simp [nvo, nv]
  clear H a
  intro mm a w hI
  clear hF1 hz1
  obtain ⟨i, Z', rfl, hi, H, hz1, hout, hzero, hsum, hF1⟩ := hI
  refine wp_seq (wp_region_lit (l := [_]) (wl H (Ez.lss H rfl rfl (rfl)) rfl (kW (kS ?_)))); clear H a; intro a H
  refine wp_cond_split (H.o rfl) (fun hb => ?_) (fun hb => ?_)
  · have hlt : i < n := by simpa using hb
    have hy1 := (hy.fr hF1 (fun _ h => hby h)).cell (j := i) (by omega)
    have uy := hy.u i (by omega)
    refine wp_skip (thn (wp_seq (wp_block (wp_seq (wp_region_lit (l := [_, _, _, _, _]) (wl H (Ez.mv H rfl) rfl (kL (fun a H => Ez.ix80 H rfl rfl i rfl (by omega)) rfl (kL (fun a H => Ez.ld103 H rfl ((by rw [Nat.zero_add]; exact hy1))) rfl (kA rfl rfl (kA rfl rfl (kP [(0, _), (1, _), (6, _), (7, _), (15, _), (16, _), (17, _)] rfl (kW (kS (kR [_, _] (kM rfl rfl (kL (fun a H => Ez.neq H rfl rfl (rfl)) rfl (kP [(0, _), (1, _), (6, _), (7, _), (15, _), (16, _), (17, _), (23, _)] rfl (kW ?_)))))))))))))))))); clear H a; intro a H
    refine wp_cond_split (H.o rfl) (fun hb2 => ?_) (fun hb2 => ?_)
    · have hd0 : Y i ≠ 0 := by simpa using hb2
      refine regionP [_, _, _, _, _, _, _, _, _, _, _, _, _, _, _, _, _, _, _, _, _] [_, _, _] follows_mixed (fun _ _ _ _ _ h => h) (by kernel_rfl) ?_
      intro w1 hw
      have hz2 := hz1.heq hw.heap
      have hF2 := hF1.trans (hw.fr _)
      have hx2 := hx.fr hF2 (fun _ h => hbx h)
      clear hw
      refine wpu H (fun w2 => Ez.mv H rfl) rfl ?_; clear H a; intro a H
      refine wpu H (fun w2 => Ez.mv H rfl) rfl ?_; clear H a; intro a H
      refine wpu H (fun w2 => Ez.len80 H rfl) rfl ?_; clear H a; intro a H
      refine wpu H (fun w2 => Ez.mv H rfl) rfl ?_; clear H a; intro a H
      refine wpu H (fun w2 => Ez.addI (r := ((m + i : Nat) : Int)) H rfl rfl (by omega) (by omega)) rfl ?_; clear H a; intro a H
      refine wpu H (fun w2 => Ez.mv H rfl) rfl ?_; clear H a; intro a H
      refine wpu H (fun w2 => Ez.mv H rfl) rfl ?_; clear H a; intro a H
      refine wpu H (fun w2 => Ez.mv H rfl) rfl ?_; clear H a; intro a H
      refine wpu H (fun w2 => Ez.mv H rfl) rfl ?_; clear H a; intro a H
      refine wpu H (fun w2 => Ez.len80 H rfl) rfl ?_; clear H a; intro a H
      refine wpu H (fun w2 => Ez.addI (r := ((i + m : Nat) : Int)) H rfl rfl (by omega) (by omega)) rfl ?_; clear H a; intro a H
      refine wpu H (fun w2 => Ez.slLH80 H rfl rfl rfl i (i + m) rfl rfl (by omega) (by omega) (if i < cz then 0 + i else 0) (i + m - i) (cz - i) rfl rfl rfl) rfl ?_; clear H a; intro a H
      refine wpu H (fun w2 => Ez.mv H rfl) rfl ?_; clear H a; intro a H
      refine wpu H (fun w2 => Ez.mv H rfl) rfl ?_; clear H a; intro a H
      refine wpu H (fun w2 => Ez.mv H rfl) rfl ?_; clear H a; intro a H
      refine wpu H (fun w2 => Ez.mv H rfl) rfl ?_; clear H a; intro a H
      refine wpu H (fun w2 => Ez.len80 H rfl) rfl ?_; clear H a; intro a H
      refine wpu H (fun w2 => Ez.addI (r := ((i + m : Nat) : Int)) H rfl rfl (by omega) (by omega)) rfl ?_; clear H a; intro a H
      refine wpu H (fun w2 => Ez.slLH80 H rfl rfl rfl i (i + m) rfl rfl (by omega) (by omega) (if i < cz then 0 + i else 0) (i + m - i) (cz - i) rfl rfl rfl) rfl ?_; clear H a; intro a H
      refine wpu H (fun w2 => Ez.mv H rfl) rfl ?_; clear H a; intro a H
      refine wpu H (fun w2 => Ez.mv H rfl) rfl ?_; clear H a; intro a H
      refine wpue ?_
      rw [if_pos (show i < cz by omega), show i + m - i = m by omega] at H
      refine wk H cf174 (addMulVVWW bz (0 + i) cz bz (0 + i) cz bx 0 cx m (cz - i) (cz - i) mx Z' Z' X (Y i) 0 w1 hz2 hz2 hx2 (fun _ => rfl) (fun h => absurd h hbx) (by omega) (by omega) (by omega) (by omega) uy ⟨by decide, by decide⟩) rfl rfl ?_
      rintro _ w1 ⟨k, Z2, rfl, a1, a2, a3, a4, a5⟩
      refine ⟨_, rfl, ?_⟩; clear H a; intro a H
      refine wl H (Ez.ix80 H rfl rfl (m + i) rfl (by omega)) rfl ?_; clear H a; intro a H
      refine wls H (Ez.st103 H rfl rfl rfl (a1.cell (by omega)) (a1.fz _)) ?_; clear H; intro H
      replace H : Hd a 48 [] [(0, _), (1, _), (15, _), (16, _), (17, _)] := H.pick [0, 1, 15, 16, 17]
      refine wpList_nil ?_
      obtain ⟨Z5, hZ5⟩ : ∃ Z5, Z5 = up Z2 (0 + (m + i)) k := ⟨_, rfl⟩
      have hz5 := a1.set (j := 0 + (m + i)) (by omega) a4
      rw [← hZ5] at hz5
      have hF5 := (hF2.trans a5).trans (Fr.bl (b := bz) (j := 0 + (m + i)) (.int .u64 k))
      have ho5 : ∀ j, m + n ≤ j → Z5 j = Z j := fun j hj => by rw [hZ5, up_ne (by omega), a2 j (by omega), hout j hj]
      have hzr5 : ∀ j, m + (i + 1) ≤ j → j < m + n → Z5 j = 0 := fun j h1 h2 => by rw [hZ5, up_ne (by omega), a2 j (by omega), hzero j (by omega) h2]
      have hs5 : nvo Z5 0 (i + 1 + m) = nvo X 0 m * nvo Y 0 (i + 1) := by
        have e1 : nvo Z5 0 (i + m) = nvo Z2 0 (i + m) := by rw [hZ5]; exact nvo_up_ge _ _ _ _ _ (by omega)
        have e2 : Z5 (0 + (i + m)) = k := by rw [hZ5, show 0 + (i + m) = 0 + (m + i) by omega, up_eq]
        have e3 := nvo_add Z2 0 i m
        have e4 : nvo Z2 0 i = nvo Z' 0 i := nvo_congr fun j hj => a2 _ (by omega)
        have e5 := nvo_add Z' 0 i m
        have e6 : (nvo Z2 (0 + i) m + k * BB ^ m) * BB ^ i = (nvo Z' (0 + i) m + nvo X 0 m * Y i + 0) * BB ^ i := by rw [a3]
        simp only [Int.add_mul, Int.zero_mul, Int.add_zero] at e6
        rw [show i + 1 + m = (i + m) + 1 by omega, nvo_succ, e1, e2, e3, e4, nvo_succ Y, Nat.zero_add, Int.mul_add, ← hsum, e5, ← Int.mul_assoc]
        rw [Int.mul_assoc k, ← Int.pow_add, Nat.add_comm m i] at e6
        rw [Nat.zero_add] at e6 ⊢
        omega
      refine bn (thn (wp_region_lit (l := [_, _]) (wl H (Ez.addI (r := ((i + 1 : Nat) : Int)) H rfl rfl (by omega) (by omega)) rfl (kM rfl rfl (kP [(0, _), (1, _), (15, _), (16, _), (17, _)] rfl (kW (kP [(0, _), (1, _), (15, _), (16, _), (17, _)] rfl ?_))))))); clear H a; intro a H
      first
        | exact close1
        | exact ⟨n - (i + 1), by omega, i + 1, Z5, rfl, by omega, H, hz5, ho5, hzr5, hs5, hF5⟩
    have hd0 : Y i = 0 := by simpa using hb2
    obtain ⟨Z5, hZ5⟩ : ∃ Z5, Z5 = Z' := ⟨_, rfl⟩
    have hz5 := hz1; rw [← hZ5] at hz5
    have ho5 : ∀ k, m + n ≤ k → Z5 k = Z k := by rw [hZ5]; exact hout
    have hzr5 : ∀ k, m + (i + 1) ≤ k → k < m + n → Z5 k = 0 := by rw [hZ5]; exact fun k h1 h2 => hzero k (by omega) h2
    have hs5 : nvo Z5 0 (i + 1 + m) = nvo X 0 m * nvo Y 0 (i + 1) := by
      rw [hZ5, show i + 1 + m = (i + m) + 1 by omega, nvo_succ, hsum, nvo_succ, Nat.zero_add, Nat.zero_add, hd0, hzero (i + m) (by omega) (by omega)]
      simp
    have hF5 := hF1
    refine wp_skip (bn (thn (wp_region_lit (l := [_, _]) (wl H (Ez.addI (r := ((i + 1 : Nat) : Int)) H rfl rfl (by omega) (by omega)) rfl (kM rfl rfl (kP [(0, _), (1, _), (15, _), (16, _), (17, _)] rfl (kW (kP [(0, _), (1, _), (15, _), (16, _), (17, _)] rfl ?_)))))))); clear H a; intro a H
    first
      | exact close1
      | exact ⟨n - (i + 1), by omega, i + 1, Z5, rfl, by omega, H, hz5, ho5, hzr5, hs5, hF5⟩
  have hge0 : ¬ i < n := by simpa using hb
  have hge : i = n := by omega
  subst hge
  refine wp_exit (thx (thx (bxe ?_)))
  refine rtn0 H rfl ?_
  exact ⟨Z', rfl, hz1, hout, by rw [← nvo_zero, Nat.add_comm m, hsum, nvo_zero, nvo_zero], hF1⟩
set_option maxHeartbeats 1000000 in
theorem natMul1 (q qx qy : Option Addr) (n0 c0 m cx n cy : Nat) (Z X Y : Nat → Int) (w : World) (hz : Sl w q n0 c0 Z) (hx : Sl w qx m cx X) (hy : Sl w qy n cy Y) (hg : w.cell? ⟨4, 0, none⟩ = some (.int .i64 40)) (hmn : n ≤ m) (hm : m < 40) :
    Calls Tryz.prog 140 #[.slice q n0 c0, .pointer none, .slice qx m cx, .slice qy n cy] w fun e w' => ∃ q' k c' X', e = .returned (.slice q' k c') ∧ Sl w' q' k c' X' ∧ k ≤ m + n + 1 ∧ nv X' k = nv X m * nv Y n ∧ Nm X' k ∧ Own w q q' ∧ Fr (TQ q) w w' := by
  obtain ⟨w0, hw0⟩ : ∃ w0, w0 = w := ⟨w, rfl⟩
  rw [← hw0]
  rw [← hw0] at hz hx hy hg
  clear hw0 w
  refine enterD (vs := [.slice q n0 c0, .pointer none, .slice qx m cx, .slice qy n cy]) Tryz.func140 rfl rfl ?_
  intro a H
  replace H : Hd a 121 [] [(0, .slice q n0 c0), (1, .pointer none), (2, .slice qx m cx), (3, .slice qy n cy)] := H
  refine wp_seq (wp_region_lit (l := [_]) (wl H (Ez.asn H rfl) rfl (kW (kS (kR [_, _, _] (kM rfl rfl (kL (fun a H => Ez.len80 H rfl) rfl (kA rfl rfl (kP [(0, _), (1, _), (2, _), (3, _), (8, _), (9, _)] rfl (kW (kS (kR [_, _, _] (kM rfl rfl (kL (fun a H => Ez.len80 H rfl) rfl (kA rfl rfl (kP [(0, _), (1, _), (2, _), (3, _), (8, _), (9, _), (10, _)] rfl (kW (kS ?_)))))))))))))))))); clear H a; intro a H
  refine wp_block (wp_seq (wp_region_lit (l := [_, _, _, _]) (wl H (Ez.mv H rfl) rfl (kM rfl rfl (kL (fun a H => Ez.lss (r := false) H rfl rfl (by (simp; omega))) rfl (kA rfl rfl (kP [(0, _), (1, _), (2, _), (3, _), (8, _), (9, _), (10, _), (17, _)] rfl (kW ?_)))))))); clear H a; intro a H
  refine wp_cond_false (H.o rfl) (wp_seq ?_)
  by_cases hm0 : m = 0
  · refine wp_region_lit (l := [_, _, _, _, _, _, _]) (wl H (Ez.mv H rfl) rfl (kL (fun a H => Ez.eql (r := true) H rfl rfl (by (simp; omega))) rfl (kM rfl rfl (kX rfl rfl rfl rfl rfl (kX rfl rfl rfl rfl rfl (kL (fun a H => Ez.pkT H rfl rfl) rfl (kA rfl rfl (kP [(0, _), (1, _), (2, _), (3, _), (8, _), (9, _), (10, _), (26, _)] rfl (kW ?_))))))))); clear H a; intro a H
    refine wp_cond_true (H.o rfl) (wp_seq (wp_region_lit (l := [_, _, _]) (wl H (Ez.mv H rfl) rfl (kL (fun a H => Ez.slH80 H rfl rfl 0 rfl (Nat.zero_le _)) rfl (kA rfl rfl (kP [(0, _), (1, _), (2, _), (3, _), (8, _), (9, _), (10, _)] rfl (kW ?_))))))); clear H a; intro a H
    refine wp_ret (bret (thr ?_))
    refine rtD1 H rfl rfl ?_
    exact ⟨q, 0, c0, Z, rfl, hz.cut (Nat.zero_le _), by omega, by subst hm0; simp [nv], .inl rfl, Own.refl _ _, Fr.refl _ _⟩
  refine wp_region_lit (l := [_, _, _, _, _, _, _]) (wl H (Ez.mv H rfl) rfl (kL (fun a H => Ez.eql (r := false) H rfl rfl (by (simp; omega))) rfl (kM rfl rfl (kG (fun a H => Ez.mv H rfl) rfl rfl rfl rfl rfl (kG (fun a H => Ez.eql H rfl rfl (rfl)) rfl rfl rfl rfl rfl (kL (fun a H => Ez.pkF H rfl rfl) rfl (kA rfl rfl (kP [(0, _), (1, _), (2, _), (3, _), (8, _), (9, _), (10, _), (26, _)] rfl (kW ?_))))))))); clear H a; intro a H
  refine wp_cond_split (H.o rfl) (fun hb1 => ?_) (fun hb1 => ?_)
  · have hn0 : n = 0 := by simp at hb1; omega
    refine wp_seq (wp_region_lit (l := [_, _, _]) (wl H (Ez.mv H rfl) rfl (kL (fun a H => Ez.slH80 H rfl rfl 0 rfl (Nat.zero_le _)) rfl (kA rfl rfl (kP [(0, _), (1, _), (2, _), (3, _), (8, _), (9, _), (10, _)] rfl (kW ?_)))))); clear H a; intro a H
    refine wp_ret (bret (thr ?_))
    refine rtD1 H rfl rfl ?_
    exact ⟨q, 0, c0, Z, rfl, hz.cut (Nat.zero_le _), by omega, by subst hn0; simp [nv], .inl rfl, Own.refl _ _, Fr.refl _ _⟩
  have hn0 : 0 < n := by simp at hb1; omega
  refine wp_seq (wp_region_lit (l := [_, _, _]) (wl H (Ez.mv H rfl) rfl (kL (fun a H => Ez.eql H rfl rfl (rfl)) rfl (kA rfl rfl (kP [(0, _), (1, _), (2, _), (3, _), (8, _), (9, _), (10, _), (35, _)] rfl (kW ?_)))))); clear H a; intro a H
  refine wp_cond_split (H.o rfl) (fun hb2 => ?_) (fun hb2 => ?_)
  · have hn1 : n = 1 := by simp at hb2; omega
    subst hn1
    refine wp_seq ?_
    have hly := hy.le
    obtain ⟨by_, rfl, _, hWy⟩ := hy.blk (by omega)
    have uy := hWy.u 0 (by omega)
    refine wp_region_lit (l := [_, _, _, _, _, _, _]) (wl H (Ez.mv H rfl) rfl (kM rfl rfl (kM rfl rfl (kL (fun a H => Ez.ix80 H rfl rfl 0 rfl (by omega)) rfl (kL (fun a H => Ez.ld103 H rfl ((hWy.cell (by omega)))) rfl ?_))))); clear H a; intro a H
    refine wk H cf121 (natMulAddWW q qx n0 c0 m cx Z X (Y 0) 0 w0 hz hx (by omega) uy ⟨by decide, by decide⟩) rfl rfl ?_
    rintro _ w1 ⟨q', k, c', X', rfl, h1, h2, h3, h4, h5, h6⟩
    refine ⟨_, rfl, ?_⟩; clear H a; intro a H
    refine wl H (Ez.asn H rfl) rfl (kP [(0, _), (1, _), (2, _), (3, _), (8, _), (9, _), (10, _)] rfl (kW ?_)); clear H a; intro a H
    refine wp_ret (bret (thr ?_))
    refine rtD1 H rfl rfl ?_
    exact ⟨q', k, c', X', rfl, h1, by omega, by rw [h3]; simp [nv], h4, h5, h6⟩
  have hn1 : 2 ≤ n := by simp at hb2; omega
  refine wp_skip (bn (thn ?_))
  refine wp_cut (fun a w => ∃ (q1 : Option Addr) (n1 c1 : Nat) (Z1 : Nat → Int), Hd a 121 [] [(0, .slice q1 n1 c1), (2, .slice qx m cx), (3, .slice qy n cy), (9, .int .i64 m), (10, .int .i64 n)] ∧ Sl w0 q1 n1 c1 Z1 ∧ Own w0 q q1 ∧ (¬ Sh q1 qx ∧ ¬ Sh q1 qy) ∧ Cd w0 w) ?_ ?_
  · refine wp_seq ?_
    rcases (show Sh q qx ∨ (¬ Sh q qx ∧ Sh q qy) ∨ (¬ Sh q qx ∧ ¬ Sh q qy) from by by_cases h1 : Sh q qx <;> by_cases h2 : Sh q qy <;> simp [h1, h2]) with hs | hs | hs
    · have hlx := hx.le
      have hly := hy.le
      refine wp_region_lit (l := [_, _, _, _, _, _, _, _]) (wl H (Ez.mv H rfl) rfl (kM rfl rfl ?_)); clear H a; intro a H
      refine wk H cf85 (natAlias q qx n0 c0 m cx Z X w0 hz hx) rfl rfl ?_
      rintro _ w1 ⟨rfl, hC1⟩
      refine ⟨_, rfl, ?_⟩; clear H a; intro a H
      rw [decide_eq_true hs] at H
      refine wl H (Ez.mv H rfl) rfl (kX rfl rfl rfl rfl rfl (kX rfl rfl rfl rfl rfl (kX rfl rfl rfl rfl rfl (kL (fun a H => Ez.pkT H rfl rfl) rfl (kP [(0, _), (1, _), (2, _), (3, _), (8, _), (9, _), (10, _), (51, _)] rfl (kW ?_)))))); clear H a; intro a H
      refine wp_cond_true (H.o rfl) (wp_region_lit (l := [_]) (wl H (Ez.asn H rfl) rfl (kP [(0, _), (1, _), (2, _), (3, _), (8, _), (9, _), (10, _)] rfl (kW (kP [(0, _), (2, _), (3, _), (9, _), (10, _)] rfl ?_))))); clear H a; intro a H
      first | exact ⟨q, n0, c0, Z, H, hz, Own.refl _ _, hs, hC1⟩ | exact ⟨none, 0, 0, Z, H, Sl.nil _ _, Own.nilq _ _, ⟨fun h => h.2 rfl, fun h => h.2 rfl⟩, hC1⟩
    · have hlx := hx.le
      have hly := hy.le
      refine wp_region_lit (l := [_, _, _, _, _, _, _, _]) (wl H (Ez.mv H rfl) rfl (kM rfl rfl ?_)); clear H a; intro a H
      refine wk H cf85 (natAlias q qx n0 c0 m cx Z X w0 hz hx) rfl rfl ?_
      rintro _ w1 ⟨rfl, hC1⟩
      refine ⟨_, rfl, ?_⟩; clear H a; intro a H
      rw [decide_eq_false hs.1] at H
      refine wl H (Ez.mv H rfl) rfl (kG (fun a H => Ez.mv H rfl) rfl rfl rfl rfl rfl (kG (fun a H => Ez.mv H rfl) rfl rfl rfl rfl rfl ?_)); clear H a; intro a H
      refine wkg H cf85 (natAlias q qy n0 c0 n cy Z Y w1 (hz.cd hC1) (hy.cd hC1)) rfl rfl rfl rfl rfl rfl ?_
      rintro _ w1 ⟨rfl, hC2⟩
      refine ⟨_, rfl, ?_⟩; clear H a; intro a H
      rw [decide_eq_true hs.2] at H
      have hC1 := hC1.trans hC2
      refine wl H (Ez.pkF H rfl rfl) rfl (kP [(0, _), (1, _), (2, _), (3, _), (8, _), (9, _), (10, _), (51, _)] rfl (kW ?_)); clear H a; intro a H
      refine wp_cond_true (H.o rfl) (wp_region_lit (l := [_]) (wl H (Ez.asn H rfl) rfl (kP [(0, _), (1, _), (2, _), (3, _), (8, _), (9, _), (10, _)] rfl (kW (kP [(0, _), (2, _), (3, _), (9, _), (10, _)] rfl ?_))))); clear H a; intro a H
      first | exact ⟨q, n0, c0, Z, H, hz, Own.refl _ _, hs, hC1⟩ | exact ⟨none, 0, 0, Z, H, Sl.nil _ _, Own.nilq _ _, ⟨fun h => h.2 rfl, fun h => h.2 rfl⟩, hC1⟩
    have hlx := hx.le
    have hly := hy.le
    refine wp_region_lit (l := [_, _, _, _, _, _, _, _]) (wl H (Ez.mv H rfl) rfl (kM rfl rfl ?_)); clear H a; intro a H
    refine wk H cf85 (natAlias q qx n0 c0 m cx Z X w0 hz hx) rfl rfl ?_
    rintro _ w1 ⟨rfl, hC1⟩
    refine ⟨_, rfl, ?_⟩; clear H a; intro a H
    rw [decide_eq_false hs.1] at H
    refine wl H (Ez.mv H rfl) rfl (kG (fun a H => Ez.mv H rfl) rfl rfl rfl rfl rfl (kG (fun a H => Ez.mv H rfl) rfl rfl rfl rfl rfl ?_)); clear H a; intro a H
    refine wkg H cf85 (natAlias q qy n0 c0 n cy Z Y w1 (hz.cd hC1) (hy.cd hC1)) rfl rfl rfl rfl rfl rfl ?_
    rintro _ w1 ⟨rfl, hC2⟩
    refine ⟨_, rfl, ?_⟩; clear H a; intro a H
    rw [decide_eq_false hs.2] at H
    have hC1 := hC1.trans hC2
    refine wl H (Ez.pkF H rfl rfl) rfl (kP [(0, _), (1, _), (2, _), (3, _), (8, _), (9, _), (10, _), (51, _)] rfl (kW ?_)); clear H a; intro a H
    refine wp_cond_false (H.o rfl) (wp_skip (thn ?_))
    replace H : Hd a 121 [] [(0, _), (2, _), (3, _), (9, _), (10, _)] := H.pick [0, 2, 3, 9, 10]
    first | exact ⟨q, n0, c0, Z, H, hz, Own.refl _ _, hs, hC1⟩ | exact ⟨none, 0, 0, Z, H, Sl.nil _ _, Own.nilq _ _, ⟨fun h => h.2 rfl, fun h => h.2 rfl⟩, hC1⟩
  clear H a
  intro a w hJ
  obtain ⟨q1, n1, c1, Z1, H, hz1, ho1, hns, hC⟩ := hJ
  refine wp_seq (wp_region_lit (l := [_, _, _, _, _, _]) (wl H (Ez.mv H rfl) rfl (kM rfl rfl (kM rfl rfl (kL (fun a H => Ez.addI (r := ((m + n : Nat) : Int)) H rfl rfl (by omega) (by omega)) rfl ?_))))); clear H a; intro a H
  refine wk H cf82 (natMake q1 n1 c1 (m + n) Z1 w (hz1.cd hC) (by omega)) rfl rfl ?_
  rintro _ w1 ⟨q', c', X1, rfl, h1, h2, h3⟩
  refine ⟨_, rfl, ?_⟩; clear H a; intro a H
  have hle := h1.le
  have hlx := hx.le
  have hly := hy.le
  obtain ⟨b, rfl, _, hW⟩ := h1.blk (by omega)
  obtain ⟨bx, hqx, _, hWx⟩ := ((hx.cd hC).frN h3).blk (by omega)
  obtain ⟨by_, hqy, _, hWy⟩ := ((hy.cd hC).frN h3).blk (by omega)
  have hbx : bx ≠ b := fun e => by
    rcases h2 b 0 (TQ_some.2 rfl) with h | h
    · exact Sh.of_not hz1 hx hns.1 h (show TQ qx b 0 by rw [hqx, e]; exact TQ_some.2 rfl)
    have := (hx.cd hC).lt (show TQ qx b 0 by rw [hqx, e]; exact TQ_some.2 rfl); omega
  have hby : by_ ≠ b := fun e => by
    rcases h2 b 0 (TQ_some.2 rfl) with h | h
    · exact Sh.of_not hz1 hy hns.2 h (show TQ qy b 0 by rw [hqy, e]; exact TQ_some.2 rfl)
    have := (hy.cd hC).lt (show TQ qy b 0 by rw [hqy, e]; exact TQ_some.2 rfl); omega
  have hg1 := h3.someCell ((hC.cell hg)) (fun f => f)
  rw [hqx, hqy] at H
  refine wl H (Ez.asn H rfl) rfl (kP [(0, _), (2, _), (3, _), (9, _), (10, _)] rfl (kW (kS (kS (kR [_, _, _] (kM rfl rfl (kL (fun a H => Ez.ld3 H rfl (hg1)) rfl (kL (fun a H => Ez.lss (r := true) H rfl rfl (by (simp; omega))) rfl (kP [(0, _), (2, _), (3, _), (9, _), (10, _), (59, _)] rfl (kW ?_)))))))))); clear H a; intro a H
  refine wp_cond_true (H.o rfl) (wp_seq (wp_region_lit (l := [_, _, _, _]) (wl H (Ez.mv H rfl) rfl (kM rfl rfl (kM rfl rfl ?_))))); clear H a; intro a H
  refine wk H cf159 (basicMul b c' bx cx by_ cy (m + n) m n cx cy X1 X Y w1 hW hWx hWy hbx hby (Nat.le_refl _) (by omega) (by omega) (by omega) (by omega) (by omega) (by omega)) rfl rfl ?_
  rintro _ w1 ⟨Z', rfl, a1, a2, a3, a4⟩
  refine ⟨_, rfl, ?_⟩; clear H a; intro a H
  refine kP [(0, _), (2, _), (3, _), (9, _), (10, _)] rfl (kW (kS (kR [_, _, _] (kM rfl rfl ?_)))) a H; clear H a; intro a H
  refine wk H cf84 (natNorm _ (m + n) c' Z' _ (Sl.of a1 hle (by omega)) (by omega)) rfl rfl ?_
  rintro _ w1 ⟨j, rfl, k1, k2, k3, k4, rfl⟩
  refine ⟨_, rfl, ?_⟩; clear H a; intro a H
  refine wl H (Ez.asn H rfl) rfl (kP [(0, _), (2, _), (3, _), (8, _), (9, _), (10, _)] rfl (kW ?_)); clear H a; intro a H
  refine wp_ret (thr ?_)
  refine rtD1 H rfl rfl ?_
  refine ⟨_, j, c', Z', rfl, k2, by omega, by rw [k3, a3], k4, ho1.trans h2 (by rw [hC.heap]; exact Nat.le_refl _), ?_⟩
  exact (((hC.fr _).trans (h3.noT)).trans a4.blq).own (ho1.trans h2 (by rw [hC.heap]; exact Nat.le_refl _))
theorem natMul (q qx qy : Option Addr) (n0 c0 m cx n cy : Nat) (Z X Y : Nat → Int) (w : World) (hz : Sl w q n0 c0 Z) (hx : Sl w qx m cx X) (hy : Sl w qy n cy Y) (hg : w.cell? ⟨4, 0, none⟩ = some (.int .i64 40)) (hm : m < 40) (hn : n < 40) :
    Calls Tryz.prog 140 #[.slice q n0 c0, .pointer none, .slice qx m cx, .slice qy n cy] w fun e w' => ∃ q' k c' X', e = .returned (.slice q' k c') ∧ Sl w' q' k c' X' ∧ k ≤ m + n + 1 ∧ nv X' k = nv X m * nv Y n ∧ Nm X' k ∧ Own w q q' ∧ Fr (TQ q) w w' := by
  by_cases hmn : n ≤ m
  · exact natMul1 q qx qy n0 c0 m cx n cy Z X Y w hz hx hy hg hmn hm
  refine enterD (vs := [.slice q n0 c0, .pointer none, .slice qx m cx, .slice qy n cy]) Tryz.func140 rfl rfl ?_
  intro a H
  replace H : Hd a 121 [] [(0, .slice q n0 c0), (1, .pointer none), (2, .slice qx m cx), (3, .slice qy n cy)] := H
  refine wp_seq (wp_region_lit (l := [_]) (wl H (Ez.asn H rfl) rfl (kW (kS (kR [_, _, _] (kM rfl rfl (kL (fun a H => Ez.len80 H rfl) rfl (kA rfl rfl (kP [(0, _), (1, _), (2, _), (3, _), (8, _), (9, _)] rfl (kW (kS (kR [_, _, _] (kM rfl rfl (kL (fun a H => Ez.len80 H rfl) rfl (kA rfl rfl (kP [(0, _), (1, _), (2, _), (3, _), (8, _), (9, _), (10, _)] rfl (kW (kS ?_)))))))))))))))))); clear H a; intro a H
  refine wp_block (wp_seq (wp_region_lit (l := [_, _, _, _]) (wl H (Ez.mv H rfl) rfl (kM rfl rfl (kL (fun a H => Ez.lss (r := true) H rfl rfl (by (simp; omega))) rfl (kA rfl rfl (kP [(0, _), (1, _), (2, _), (3, _), (8, _), (9, _), (10, _), (17, _)] rfl (kW ?_)))))))); clear H a; intro a H
  refine wp_cond_true (H.o rfl) (wp_seq (wp_region_lit (l := [_, _, _, _, _, _]) (wl H (Ez.mv H rfl) rfl (kM rfl rfl (kM rfl rfl (kM rfl rfl ?_)))))); clear H a; intro a H
  refine wk H cf140 (natMul1 q qy qx n0 c0 n cy m cx Z Y X w hz hy hx hg (by omega) hn) rfl rfl ?_
  rintro _ w1 ⟨q', k, c', X', rfl, h1, h2, h3, h4, h5, h6⟩
  refine ⟨_, rfl, ?_⟩; clear H a; intro a H
  refine wl H (Ez.asn H rfl) rfl (kP [(0, _), (1, _), (2, _), (3, _), (8, _), (9, _), (10, _)] rfl (kW ?_)); clear H a; intro a H
  refine wp_ret (bret (thr ?_))
  refine rtD1 H rfl rfl ?_
  exact ⟨q', k, c', X', rfl, h1, by omega, by rw [h3, Int.mul_comm], h4, h5, h6⟩
theorem natDivW (q qx : Option Addr) (n0 c0 m cx y : Nat) (Z X : Nat → Int) (w : World) (hz : Sl w q n0 c0 Z) (hx : Sl w qx m cx X) (hm : m < 100000000) (hy : y < 18446744073709551616) (hy0 : 0 < y) (hNx : Nm X m) :
    Calls Tryz.prog 115 #[.slice q n0 c0, .slice qx m cx, .int .u64 y] w fun e w' => ∃ q' k c' X' r, e = .returned (.tuple #[.slice q' k c', .int .u64 r]) ∧ Sl w' q' k c' X' ∧ k ≤ m ∧ nv X m = nv X' k * y + r ∧ (0 ≤ r ∧ r < y) ∧ Nm X' k ∧ Own w q q' ∧ Fr (TQ q) w w' := by
  refine enterE (vs := [.slice q n0 c0, .slice qx m cx, .int .u64 y]) Tryz.func115 rfl rfl ?_
  intro a H
  replace H : Hd a 35 [] [(0, .slice q n0 c0), (1, .slice qx m cx), (2, .int .u64 y)] := H
  refine wp_seq (wp_region_lit (l := [_, _]) (wl H (Ez.asn H rfl) rfl (kA rfl rfl (kW (kS (kR [_, _, _] (kM rfl rfl (kL (fun a H => Ez.len80 H rfl) rfl (kA rfl rfl (kP [(0, _), (1, _), (2, _), (6, _), (7, _), (8, _)] rfl (kW (kS ?_)))))))))))); clear H a; intro a H
  refine wp_block (wp_seq (wp_region_lit (l := [_, _, _]) (wl H (Ez.mv H rfl) rfl (kL (fun a H => Ez.eql (r := false) H rfl rfl (by (simp; omega))) rfl (kA rfl rfl (kP [(0, _), (1, _), (2, _), (6, _), (7, _), (8, _), (11, _)] rfl (kW ?_))))))); clear H a; intro a H
  refine wp_cond_false (H.o rfl) (wp_seq (wp_region_lit (l := [_, _, _]) (wl H (Ez.mv H rfl) rfl (kL (fun a H => Ez.eql H rfl rfl (rfl)) rfl (kA rfl rfl (kP [(0, _), (1, _), (2, _), (6, _), (7, _), (8, _), (15, _)] rfl (kW ?_))))))); clear H a; intro a H
  refine wp_cond_split (H.o rfl) (fun hb1 => ?_) (fun hb1 => ?_)
  · have hy1 : y = 1 := by simp at hb1; omega
    refine wp_seq (wp_region_lit (l := [_, _, _, _]) (wl H (Ez.mv H rfl) rfl (kM rfl rfl ?_))); clear H a; intro a H
    refine wk H cf94 (natSet q qx n0 c0 m cx Z X w hz hx (by omega)) rfl rfl ?_
    rintro _ w1 ⟨q', c', X', rfl, h1, h2, h3, h4⟩
    refine ⟨_, rfl, ?_⟩; clear H a; intro a H
    refine wl H (Ez.asn H rfl) rfl (kP [(0, _), (1, _), (2, _), (6, _), (7, _), (8, _)] rfl (kW ?_)); clear H a; intro a H
    refine wp_ret (bret (thr ?_))
    refine rt2 H rfl rfl rfl ?_
    exact ⟨q', m, c', X', 0, rfl, h1, Nat.le_refl _, by rw [nv_congr m h2, hy1]; simp, by omega, hNx.congr h2, h3, h4⟩
  have hy1 : 2 ≤ y := by simp at hb1; omega
  refine wp_seq (wp_region_lit (l := [_, _, _]) (wl H (Ez.mv H rfl) rfl (kL (fun a H => Ez.eql H rfl rfl (rfl)) rfl (kA rfl rfl (kP [(0, _), (1, _), (2, _), (6, _), (7, _), (8, _), (21, _)] rfl (kW ?_)))))); clear H a; intro a H
  refine wp_cond_split (H.o rfl) (fun hb2 => ?_) (fun hb2 => ?_)
  · have hm0 : m = 0 := by simp at hb2; omega
    refine wp_seq (wp_region_lit (l := [_, _, _]) (wl H (Ez.mv H rfl) rfl (kL (fun a H => Ez.slH80 H rfl rfl 0 rfl (Nat.zero_le _)) rfl (kA rfl rfl (kP [(0, _), (1, _), (2, _), (6, _), (7, _), (8, _)] rfl (kW ?_)))))); clear H a; intro a H
    refine wp_ret (bret (thr ?_))
    refine rt2 H rfl rfl rfl ?_
    exact ⟨q, 0, c0, Z, 0, rfl, hz.cut (Nat.zero_le _), by omega, by subst hm0; simp [nv], by omega, .inl rfl, Own.refl _ _, Fr.refl _ _⟩
  have hm0 : 0 < m := by simp at hb2; omega
  refine wp_skip (bn (thn (wp_seq (wp_region_lit (l := [_, _, _, _]) (wl H (Ez.mv H rfl) rfl (kM rfl rfl ?_)))))); clear H a; intro a H
  refine wk H cf82 (natMake q n0 c0 m Z w hz (by omega)) rfl rfl ?_
  rintro _ w1 ⟨q', c', X1, rfl, h1, h2, h3⟩
  refine ⟨_, rfl, ?_⟩; clear H a; intro a H
  have hle := h1.le
  have hlx := hx.le
  obtain ⟨b, rfl, _, hW⟩ := h1.blk (by omega)
  obtain ⟨bx, rfl, _, hWx⟩ := (hx.frN h3).blk (by omega)
  refine wl H (Ez.asn H rfl) rfl (kP [(0, _), (1, _), (2, _), (6, _), (7, _)] rfl (kW (kS (kR [_, _, _, _, _] (kM rfl rfl (kM rfl rfl (kM rfl rfl ?_))))))); clear H a; intro a H
  refine wk H cf128 (divWVW b 0 c' bx 0 cx m c' cx y X1 X 0 w1 hW hWx (fun _ => rfl) (by omega) (by omega) (by omega) (by omega) hy (by omega)) rfl rfl ?_
  rintro _ w1 ⟨r, Z1, rfl, a1, a2, a3, a4, a5⟩
  refine ⟨_, rfl, ?_⟩; clear H a; intro a H
  refine wl H (Ez.asn H rfl) rfl (kP [(0, _), (6, _), (7, _)] rfl (kW (kS (kR [_, _, _] (kM rfl rfl ?_))))); clear H a; intro a H
  refine wk H cf84 (natNorm _ m c' Z1 _ (Sl.of a1 hle (by omega)) (by omega)) rfl rfl ?_
  rintro _ w1 ⟨j, rfl, k1, k2, k3, k4, rfl⟩
  refine ⟨_, rfl, ?_⟩; clear H a; intro a H
  refine wl H (Ez.asn H rfl) rfl (kP [(6, _), (7, _)] rfl (kW ?_)); clear H a; intro a H
  refine wp_ret ?_
  refine rt2 H rfl rfl rfl ?_
  refine ⟨_, j, c', Z1, r, rfl, k2, k1, ?_, a4, k4, h2, (h3.noT.trans a5.blq).own h2⟩
  rw [k3]; rw [nvo_zero, nvo_zero] at a3; omega
end
section
set_option maxRecDepth 8000
theorem Wk.grown (w : World) (n g : Nat) (hg : n ≤ g) (hm : g ≤ 9223372036854775807) :
    Wk (w.drew.alloc (.cells (Builtin.zeroCells (Value.int .u64 0).cells n ++ Builtin.zeroCells (Value.int .u64 0).cells (g - n)) 103)) w.heap.size g (fun _ => 0) := by
  refine ⟨?_, fun _ _ => ⟨by decide, by decide⟩, hm⟩
  have e : Builtin.zeroCells (Value.int .u64 0).cells n ++ Builtin.zeroCells (Value.int .u64 0).cells (g - n) = Array.ofFn fun j : Fin g => Value.int .u64 ((fun _ => 0 : Nat → Int) j) := by
    apply Array.ext
    · simp [size_zeroCells, Value.cells]; omega
    intro i h1 h2
    rw [Array.getElem_append]
    simp only [Builtin.zeroCells, Array.getElem_map, Array.getElem_range, Array.getElem_ofFn, Value.cells]
    split
    · show #[Value.int .u64 0][i % 1]! = _
      rw [Nat.mod_one]; rfl
    show #[Value.int .u64 0][_ % 1]! = _
    rw [Nat.mod_one]; rfl
  rw [e]
  exact heap_alloc_new w.drew _
namespace Ez
section
variable {a : Act} {N : Nat} {ds : List Deferred} {l : Env} {w : World} {d : Option Nat} {ty : TypeId} {pos : String} {after : Array Edge} {g : Option (Nat × Bool)}
theorem apz (H : Hd a N ds l) {x y : Operand} {i : Int} {T : TypeId} (hT : T = 79 ∨ T = 80) (h : ov l x = some (.slice none 0 0)) (h' : ov l y = some (.int .i64 i)) (n : Nat) (hi : i = (n : Int)) (h0 : 0 < n) (hn : n < 1000000000) :
    ∃ w' c, (execOp a.eval ⟨d, .call { callee := .builtin .append, args := #[x, y], argTypes := #[T, 3] }, ty, pos, after, g⟩).run Tryz.prog w = .ok (.value (.slice (some ⟨w.heap.size, 0, none⟩) n c)) w' ∧
      n ≤ c ∧ Wk w' w.heap.size c (fun _ => 0) ∧ Fr NoT w w' := by
  subst hi
  obtain ⟨ti, h1, h2, h3, h4⟩ := word_info
  have hu : Tryz.prog.underlying T = some (.slice 103) := by rcases hT with rfl | rfl <;> kernel_rfl
  have happ := Lib.run_append_nil_zeros (P := Tryz.prog) w T 3 ty 103 ti (.int .u64 0) .i64 .i64 hu (by kernel_rfl) h1 h2 n h0 (by rw [h4]; omega) (by omega) (by rw [h3]; omega)
  have hcapge : n ≤ grownCap w n 0 103 := grownCap_ge w _ 0 103
  have hcaple : grownCap w n 0 103 ≤ maxLen := grownCap_le_maxLen w _ 0 103 (by unfold maxLen; omega)
  refine ⟨_, grownCap w n 0 103, ?_, hcapge, Wk.grown w n _ hcapge (by unfold maxLen at hcaple; omega), (((Fr.refl NoT w).drew).alloc _)⟩
  have e := H.o h
  have e' := H.o h'
  revert e e'; generalize a.eval = ρ; intro e e'
  have hm : (#[x, y] : Array Operand).map ρ = #[.slice none 0 0, .int .i64 n] := by simp [e, e']
  simp only [execOp, resolve, invoke, hm, Sem.run_bind, Sem.run_pure, Result.andThen, builtin, happ]
theorem al175 : (execOp a.eval ⟨d, .alloc 175, ty, pos, after, g⟩).run Tryz.prog w = .ok (.value (.pointer (some ⟨w.heap.size, 0, none⟩))) (w.alloc (.cells #[.slice none 0 0] 175)) := by
  simp only [execOp]; go_simp
theorem bld156 : (execOp a.eval ⟨d, .build 156 #[], ty, pos, after, g⟩).run Tryz.prog w = .ok (.value (.agg #[.pointer none])) w := by
  simp only [execOp]; go_simp
theorem box156 (H : Hd a N ds l) {x : Operand} (h : ov l x = some (.agg #[.pointer none])) : (execOp a.eval ⟨d, .box 156 x, ty, pos, after, g⟩).run Tryz.prog w = .ok (.value (.pointer (some ⟨w.heap.size, 0, none⟩))) (w.alloc (.cells #[.pointer none] 156)) := by
  have e := H.o h
  simp only [execOp, e]; go_simp
theorem eqN (H : Hd a N ds l) {x y : Operand} {T u : TypeId} {q : Option Addr} {r : Bool} (hT : T = 133 ∨ T = 154) (h : ov l x = some (.pointer q)) (h' : ov l y = some (.pointer none)) (hr : q.isNone = r) : (execOp a.eval ⟨d, .binOp .eql T x y u, ty, pos, after, g⟩).run Tryz.prog w = .ok (.value (.bool r)) w := by
  have e := H.o h
  have e' := H.o h'
  subst hr
  rcases hT with rfl | rfl <;> cases q <;> (simp only [execOp, e, e']; go_simp)
theorem neN (H : Hd a N ds l) {x y : Operand} {T u : TypeId} {q : Option Addr} {r : Bool} (hT : T = 133 ∨ T = 154) (h : ov l x = some (.pointer q)) (h' : ov l y = some (.pointer none)) (hr : q.isSome = r) : (execOp a.eval ⟨d, .binOp .neq T x y u, ty, pos, after, g⟩).run Tryz.prog w = .ok (.value (.bool r)) w := by
  have e := H.o h
  have e' := H.o h'
  subst hr
  rcases hT with rfl | rfl <;> cases q <;> (simp only [execOp, e, e']; go_simp)
theorem slLHM79 (H : Hd a N ds l) {x y z u : Operand} {b n c : Nat} {k k' k'' : IntKind} {i i' i'' : Int} (h : ov l x = some (.slice (some ⟨b, 0, none⟩) n c)) (h' : ov l y = some (.int k i)) (h'' : ov l z = some (.int k' i')) (h3 : ov l u = some (.int k'' i'')) (hi : i = 0) (j : Nat) (hj : i' = (j : Int)) (hj' : i'' = (j : Int)) (hn : j ≤ c) (h0 : 0 < c) :
    (execOp a.eval ⟨d, .slice 79 x (some y) (some z) (some u), ty, pos, after, g⟩).run Tryz.prog w = .ok (.value (.slice (some ⟨b, 0, none⟩) j j)) w := by
  have e := H.o h
  have e' := H.o h'
  have e'' := H.o h''
  have e3 := H.o h3
  subst hi; subst hj; subst hj'
  have q2 : (Instr.sliceAt 79 (.slice (some ⟨b, 0, none⟩) n c) (some (.int k 0)) (some (.int k' (j : Int))) (some (.int k'' (j : Int)))).run Tryz.prog w = .ok (.slice (some ⟨b, 0, none⟩) j j) w := by
    have h1 : (j : Int) ≤ (c : Int) := by omega
    have h2 : ¬ (c : Int) < (j : Int) := by omega
    go_simp
    all_goals (try simp [sliced, Addr.add, Instr.sliceAt])
    all_goals (try omega)
  simp only [execOp, e, e', e'', e3, Option.map, Sem.run_bind, q2, Result.andThen]; rfl
theorem dfr (H : Hd a N ds l) {f : FuncId} {xs : Array Operand} {ts : Array TypeId} {vs : List Value} (hx : xs.toList.map (ov l) = vs.map some) :
    (execOp a.eval ⟨d, .defer { callee := .value (.func f), args := xs, argTypes := ts }, ty, pos, after, g⟩).run Tryz.prog w = .ok (.defer { target := .fn (.func f) #[], args := vs.toArray }) w := by
  have hm : xs.map a.eval = vs.toArray := by
    apply Array.toList_inj.mp
    simp only [Array.toList_map]
    revert hx; generalize xs.toList = L; intro hx
    have : ∀ (L : List Operand) (vs : List Value), L.map (ov l) = vs.map some → L.map a.eval = vs := by
      intro L; induction L with
      | nil => intro vs h; cases vs <;> simp_all
      | cons y ys ih =>
        intro vs h
        cases vs with
        | nil => simp at h
        | cons v vs => simp only [List.map_cons, List.cons.injEq] at h ⊢; exact ⟨H.o h.1, ih vs h.2⟩
    exact this L vs hx
  simp [execOp, resolve, hm, Deferred.ofValue, Act.eval]
end
end Ez
theorem enterX {P : Program} {f : FuncId} {fn : Func} {c : Code} {vs : List Value} {w : World} {u : FrameMode} {R : Ending → World → Prop} (hf : P.funcs[f]? = some fn) (hb : fn.body = some c) (hn : Nat.ble vs.length fn.ntmps = true)
    (h : ∀ a : Act, Hd a fn.ntmps [] (args0 0 vs) → c.wp P (bodyPost P fn R) a w) : CallsD P f vs.toArray u w fun e u' w' => u' = u ∧ R e w' :=
  callsD_of_wp hf hb (h _ (enter_hd vs fn.ntmps (by simpa using hn)))
theorem leave {fn : Func} {R : Ending → World → Prop} {tmps : Array Value} {w : World} {f : FuncId} {vs : Array Value} {ds : List Deferred} {S : World → Prop}
    (hF : ∀ args w, (callFunc f args).run Tryz.prog w = .ok (.enter f args) w) (hc : CallsD Tryz.prog f vs .returning w fun e u' w' => u' = .returning ∧ e = .returned (.tuple #[]) ∧ S w')
    (h : ∀ w', S w' → Leaves Tryz.prog fn tmps R ds .returning w') : Leaves Tryz.prog fn tmps R (⟨.fn (.func f) #[], vs⟩ :: ds) .returning w := by
  refine leaves_cons (f := f) (args := vs) (by simp) ?_ ?_
  · simp [invoke, hF]
  refine hc.mono ?_
  rintro _ _ w' ⟨rfl, rfl, hS⟩
  exact h w' hS
theorem lvd {fn : Func} {R : Ending → World → Prop} {a : Act} {w : World} {N : Nat} {ds : List Deferred} {l : Env} (H : Hd a N ds l) (h : Leaves Tryz.prog fn a.tmps R ds .returning w) : bodyPostD Tryz.prog fn R .ret a w := by
  show Leaves Tryz.prog fn a.tmps R a.defers .returning w
  rw [H.df]; exact h
theorem lvn {fn : Func} {R : Ending → World → Prop} {a : Act} {w : World} {N : Nat} {ds : List Deferred} {l : Env} (H : Hd a N ds l) (h : Leaves Tryz.prog fn a.tmps R ds .returning w) : bodyPostD Tryz.prog fn R .normal a w := by
  show Leaves Tryz.prog fn a.tmps R a.defers .returning w
  rw [H.df]; exact h
theorem lv2 {fn : Func} {R : Ending → World → Prop} {a : Act} {w : World} {N : Nat} {ds : List Deferred} {l : Env} {t u : Tmp} {v x : Value} (H : Hd a N ds l) (h : fn.results = #[.tmp t, .tmp u]) (hv : lk l t = some v) (hx : lk l u = some x) (hR : R (.returned (.tuple #[v, x])) w) : Leaves Tryz.prog fn a.tmps R [] .returning w := by
  refine ⟨.tuple #[v, x], ?_, hR⟩
  rw [← H.g _ _ hv, ← H.g _ _ hx]; exact results_tmp2 h _ _ _
theorem lv0 {fn : Func} {R : Ending → World → Prop} {a : Act} {w : World} {N : Nat} {ds : List Deferred} {l : Env} (H : Hd a N ds l) (h : fn.results = #[]) (hR : R (.returned (.tuple #[])) w) : Leaves Tryz.prog fn a.tmps R [] .returning w :=
  ⟨.tuple #[], results_none h _ _ _, hR⟩
def StN (w : World) (bs : Nat) : Prop := w.cell? ⟨bs, 0, none⟩ = some (.pointer none) ∧ w.frozen? ⟨bs, 0, none⟩ = false
def Stk (B : Nat) (w : World) (bs : Nat) : Prop := StN w bs ∨ ∃ bi q n c, w.cell? ⟨bs, 0, none⟩ = some (.pointer (some ⟨bi, 0, none⟩)) ∧ B ≤ bi ∧ bi ≠ bs ∧ w.cell? ⟨bi, 0, none⟩ = some (.slice q n c) ∧ w.frozen? ⟨bi, 0, none⟩ = false
def Hi (B : Nat) : Nat → Nat → Prop := fun k _ => B ≤ k
theorem StN.fr {w w' : World} {bs : Nat} {T : Nat → Nat → Prop} (h : StN w bs) (hF : Fr T w w') (hT : ¬ T bs 0) : StN w' bs :=
  ⟨hF.someCell h.1 hT, by rw [hF.frozen _ _ (World.block_lt_of_cell? w _ h.1)]; exact h.2⟩
theorem Stk.fr {w w' : World} {bs B : Nat} {T : Nat → Nat → Prop} (h : Stk B w bs) (hF : Fr T w w') (hT : ¬ T bs 0) (hT' : ∀ k, B ≤ k → k < w.heap.size → T k 0 → False) : Stk B w' bs := by
  rcases h with h | ⟨bi, q, n, c, h1, h2, h3, h4, h5⟩
  · exact .inl (h.fr hF hT)
  have hlt := World.block_lt_of_cell? w _ h4
  exact .inr ⟨bi, q, n, c, hF.someCell h1 hT, h2, h3, hF.someCell h4 (fun ht => hT' bi h2 hlt ht), by rw [hF.frozen _ _ hlt]; exact h5⟩
theorem Stk.mono {B B' : Nat} {w : World} {bs : Nat} (h : Stk B w bs) (hB : B' ≤ B) : Stk B' w bs := by
  rcases h with h | ⟨bi, q, n, c, h1, h2, h3⟩
  · exact .inl h
  exact .inr ⟨bi, q, n, c, h1, by omega, h3⟩
theorem Fr.hi {T : Nat → Nat → Prop} {w w1 w2 : World} (h : Fr T w w1) (h' : Fr (Hi w.heap.size) w1 w2) : Fr T w w2 :=
  (((h.mono (T := fun k o => T k o ∨ w.heap.size ≤ k) fun _ _ _ ht => .inl ht).trans (h'.mono fun _ _ _ ht => .inr ht))).mono fun k o hk ht => by
    rcases ht with ht | ht
    · exact ht
    omega
theorem Fr.plus {T : Nat → Nat → Prop} {w w1 w2 : World} {b : Nat} (h : Fr T w w1) (h' : Fr (Bl b) w1 w2) (hb : w.heap.size ≤ b) : Fr T w w2 :=
  h.hi (h'.mono fun k o _ ht => by have : k = b := ht; show w.heap.size ≤ k; omega)
end
section
set_option maxRecDepth 8000
theorem newCell (w : World) (v : Value) (t : TypeId) {b : Nat} (hb : b = w.heap.size) : (w.alloc (.cells #[v] t)).cell? ⟨b, 0, none⟩ = some v ∧ (w.alloc (.cells #[v] t)).frozen? ⟨b, 0, none⟩ = false := by
  have h : (w.alloc (.cells #[v] t)).heap[b]? = some (.cells #[v] t (0, 0)) := by rw [hb]; exact heap_alloc_new w _
  exact ⟨by simp [World.cell?, h], by simp [World.frozen?, h]⟩
theorem getStack (w : World) :
    Calls Tryz.prog 117 #[] w fun e w' => ∃ bs, e = .returned (.pointer (some ⟨bs, 0, none⟩)) ∧ w.heap.size ≤ bs ∧ StN w' bs ∧ Fr NoT w w' := by
  refine enterE (vs := []) Tryz.func117 rfl rfl ?_
  intro a H
  replace H : Hd a 3 [] [] := H
  refine wp_seq (wp_region_lit (l := [_]) (wl H (Ez.asn H rfl) rfl (kW (kS (kR [_, _, _] (kL (fun a H => Ez.bld156) rfl (kL (fun a H => Ez.box156 H rfl) rfl (kA rfl rfl (kP [(0, _)] rfl (kW ?_)))))))))); clear H a; intro a H
  refine wp_ret ?_
  refine rt1 H rfl rfl ?_
  refine ⟨_, rfl, Nat.le_refl _, newCell w _ _ rfl, (Fr.refl NoT w).alloc _⟩
theorem siFree (bi n c : Nat) (q : Option Addr) (w : World) (hc : w.cell? ⟨bi, 0, none⟩ = some (.slice q n c)) (hf : w.frozen? ⟨bi, 0, none⟩ = false) :
    Calls Tryz.prog 129 #[.pointer (some ⟨bi, 0, none⟩)] w fun e w' => e = .returned (.tuple #[]) ∧ w' = w.setCell ⟨bi, 0, none⟩ (.slice q 0 c) := by
  refine enterE (vs := [.pointer (some ⟨bi, 0, none⟩)]) Tryz.func129 rfl rfl ?_
  intro a H
  replace H : Hd a 10 [] [(0, .pointer (some ⟨bi, 0, none⟩))] := H
  refine wp_region_lit (l := [_, _, _, _, _, _, _, _, _]) (wl H (Ez.mv H rfl) rfl (kM rfl rfl (kN rfl rfl (kL (fun a H => Ez.fa175_0 H rfl) rfl (kL (fun a H => Ez.ld79 H rfl (by assumption)) rfl (kL (fun a H => Ez.slH79 H rfl rfl 0 rfl (Nat.zero_le _)) rfl (kN rfl rfl (kL (fun a H => Ez.fa175_0 H rfl) rfl ?_)))))))); clear H a; intro a H
  refine wls H (Ez.st79 H rfl rfl rfl hc hf) ?_; clear H; intro H
  replace H : Hd a 10 [] [] := H.pick []
  refine wpList_nil ?_
  refine rtn0 H rfl ?_
  exact ⟨rfl, rfl⟩
theorem siRestore (bi n c : Nat) (q : Option Addr) (w : World) (hc : w.cell? ⟨bi, 0, none⟩ = some (.slice q n c)) (hf : w.frozen? ⟨bi, 0, none⟩ = false) :
    Calls Tryz.prog 148 #[.pointer (some ⟨bi, 0, none⟩), .int .i64 0] w fun e w' => e = .returned (.tuple #[]) ∧ w' = w.setCell ⟨bi, 0, none⟩ (.slice q 0 c) := by
  refine enterE (vs := [.pointer (some ⟨bi, 0, none⟩), .int .i64 0]) Tryz.func148 rfl rfl ?_
  intro a H
  replace H : Hd a 13 [] [(0, .pointer (some ⟨bi, 0, none⟩)), (1, .int .i64 0)] := H
  refine wp_region_lit (l := [_, _, _, _, _, _, _, _, _, _]) (wl H (Ez.mv H rfl) rfl (kM rfl rfl (kN rfl rfl (kL (fun a H => Ez.fa175_0 H rfl) rfl (kL (fun a H => Ez.ld79 H rfl (by assumption)) rfl (kM rfl rfl (kL (fun a H => Ez.slH79 H rfl rfl 0 rfl (Nat.zero_le _)) rfl (kN rfl rfl (kL (fun a H => Ez.fa175_0 H rfl) rfl ?_))))))))); clear H a; intro a H
  refine wls H (Ez.st79 H rfl rfl rfl hc hf) ?_; clear H; intro H
  replace H : Hd a 13 [] [] := H.pick []
  refine wpList_nil ?_
  refine rtn0 H rfl ?_
  exact ⟨rfl, rfl⟩
theorem Stk.setI {B : Nat} {w : World} {bs bi : Nat} {q : Option Addr} {n c n' : Nat} (h1 : w.cell? ⟨bs, 0, none⟩ = some (.pointer (some ⟨bi, 0, none⟩))) (h2 : B ≤ bi) (h3 : bi ≠ bs) (h4 : w.cell? ⟨bi, 0, none⟩ = some (.slice q n c)) (h5 : w.frozen? ⟨bi, 0, none⟩ = false) :
    Stk B (w.setCell ⟨bi, 0, none⟩ (.slice q n' c)) bs ∧ Fr (Hi B) w (w.setCell ⟨bi, 0, none⟩ (.slice q n' c)) := by
  refine ⟨.inr ⟨bi, q, n', c, ?_, h2, h3, ?_, ?_⟩, (Fr.refl (Hi B) w).setCell (fun _ => h2) _⟩
  · rw [World.cell?_setCell_other _ _ _ _ (by intro e; injection e with e; exact h3 e)]; exact h1
  · exact World.cell?_setCell_same _ _ _ (by rw [h4])
  rw [World.frozen?_setCell]; exact h5
def Kp (w w' : World) : Prop := ∀ b c X, 0 < c → Wk w b c X → Wk w' b c X
theorem Kp.refl (w : World) : Kp w w := fun _ _ _ _ h => h
theorem Kp.setS {w : World} {bi : Nat} {q : Option Addr} {n c : Nat} {v : Value} (h : w.cell? ⟨bi, 0, none⟩ = some (.slice q n c)) : Kp w (w.setCell ⟨bi, 0, none⟩ v) := fun b c X hc hW => hW.other (p := ⟨bi, 0, none⟩) (fun e => by
  have e : b = bi := e
  subst e
  rw [hW.cell (j := 0) hc] at h; cases h) v
theorem Sl.kp {w w' : World} {q : Option Addr} {n c : Nat} {X : Nat → Int} (h : Sl w q n c X) (hk : Kp w w') : Sl w' q n c X := by
  rcases h with h | ⟨b, h0, h1, hc, h2⟩
  · exact .inl h
  exact .inr ⟨b, h0, h1, hc, hk _ _ _ hc h2⟩
theorem stkFree (bs B : Nat) (w : World) (hS : Stk B w bs) :
    CallsD Tryz.prog 118 #[.pointer (some ⟨bs, 0, none⟩)] .returning w fun e u w' => u = .returning ∧ e = .returned (.tuple #[]) ∧ Fr (Hi B) w w' ∧ Kp w w' := by
  refine enterX (vs := [.pointer (some ⟨bs, 0, none⟩)]) Tryz.func118 rfl rfl ?_
  intro a H
  replace H : Hd a 11 [] [(0, .pointer (some ⟨bs, 0, none⟩))] := H
  refine wp_seq ?_
  rcases hS with ⟨hc, hfz⟩ | ⟨bi, q, n, c, hc, hB, hne, hci, hfi⟩
  · refine wp_region_lit (l := [_, _, _, _, _]) (wl H (Ez.mv H rfl) rfl (kN rfl rfl (kL (fun a H => Ez.fa156_0 H rfl) rfl (kL (fun a H => Ez.ld154 H rfl (hc)) rfl (kA rfl rfl (kP [(2, _)] rfl (kW (kS (kR [_, _] (kM rfl rfl (kL (fun a H => Ez.neN H (.inr rfl) rfl rfl (r := false) rfl) rfl (kP [(2, _), (8, _)] rfl (kW ?_))))))))))))); clear H a; intro a H
    refine wp_cond_false (H.o rfl) (wp_skip ?_)
    refine rtn0 H rfl ?_
    exact ⟨rfl, Fr.refl _ _, Kp.refl _⟩
  refine wp_region_lit (l := [_, _, _, _, _]) (wl H (Ez.mv H rfl) rfl (kN rfl rfl (kL (fun a H => Ez.fa156_0 H rfl) rfl (kL (fun a H => Ez.ld154 H rfl (hc)) rfl (kA rfl rfl (kP [(2, _)] rfl (kW (kS (kR [_, _] (kM rfl rfl (kL (fun a H => Ez.neN H (.inr rfl) rfl rfl (r := true) rfl) rfl (kP [(2, _), (8, _)] rfl (kW ?_))))))))))))); clear H a; intro a H
  refine wp_cond_true (H.o rfl) (wp_region_lit (l := [_, _]) (wl H (Ez.mv H rfl) rfl ?_)); clear H a; intro a H
  refine wk H cf129 (siFree bi n c q w hci hfi) rfl rfl ?_
  rintro _ w1 ⟨rfl, rfl⟩
  refine ⟨_, rfl, ?_⟩; clear H a; intro a H
  replace H : Hd a 11 [] [] := H.pick []
  refine wpList_nil ?_
  refine rtn0 H rfl ?_
  exact ⟨rfl, (Stk.setI hc hB hne hci hfi).2, Kp.setS hci⟩
theorem stkRestore (bs B : Nat) (w : World) (hS : Stk B w bs) :
    CallsD Tryz.prog 130 #[.pointer (some ⟨bs, 0, none⟩), .int .i64 0] .returning w fun e u w' => u = .returning ∧ e = .returned (.tuple #[]) ∧ Stk B w' bs ∧ Fr (Hi B) w w' ∧ Kp w w' := by
  refine enterX (vs := [.pointer (some ⟨bs, 0, none⟩), .int .i64 0]) Tryz.func130 rfl rfl ?_
  intro a H
  replace H : Hd a 14 [] [(0, .pointer (some ⟨bs, 0, none⟩)), (1, .int .i64 0)] := H
  refine wp_seq ?_
  rcases hS with ⟨hc, hfz⟩ | ⟨bi, q, n, c, hc, hB, hne, hci, hfi⟩
  · refine wp_region_lit (l := [_, _, _, _, _]) (wl H (Ez.mv H rfl) rfl (kN rfl rfl (kL (fun a H => Ez.fa156_0 H rfl) rfl (kL (fun a H => Ez.ld154 H rfl (hc)) rfl (kA rfl rfl (kP [(1, _), (4, _)] rfl (kW (kS (kS (kR [_, _] (kM rfl rfl (kL (fun a H => Ez.eqN H (.inr rfl) rfl rfl (r := true) rfl) rfl (kP [(1, _), (4, _), (10, _)] rfl (kW ?_)))))))))))))); clear H a; intro a H
    refine wp_cond_true (H.o rfl) (wp_ret (thr ?_))
    refine rt0 H rfl ?_
    exact ⟨rfl, .inl ⟨hc, hfz⟩, Fr.refl _ _, Kp.refl _⟩
  refine wp_region_lit (l := [_, _, _, _, _]) (wl H (Ez.mv H rfl) rfl (kN rfl rfl (kL (fun a H => Ez.fa156_0 H rfl) rfl (kL (fun a H => Ez.ld154 H rfl (hc)) rfl (kA rfl rfl (kP [(1, _), (4, _)] rfl (kW (kS (kS (kR [_, _] (kM rfl rfl (kL (fun a H => Ez.eqN H (.inr rfl) rfl rfl (r := false) rfl) rfl (kP [(1, _), (4, _), (10, _)] rfl (kW ?_)))))))))))))); clear H a; intro a H
  refine wp_cond_false (H.o rfl) (wp_skip (thn (wp_region_lit (l := [_, _, _]) (wl H (Ez.mv H rfl) rfl (kM rfl rfl ?_))))); clear H a; intro a H
  refine wk H cf148 (siRestore bi n c q w hci hfi) rfl rfl ?_
  rintro _ w1 ⟨rfl, rfl⟩
  refine ⟨_, rfl, ?_⟩; clear H a; intro a H
  replace H : Hd a 14 [] [] := H.pick []
  refine wpList_nil ?_
  refine rtn0 H rfl ?_
  exact ⟨rfl, (Stk.setI hc hB hne hci hfi).1, (Stk.setI hc hB hne hci hfi).2, Kp.setS hci⟩
theorem stkSave (bs : Nat) (w : World) (hS : StN w bs) :
    Calls Tryz.prog 131 #[.pointer (some ⟨bs, 0, none⟩)] w fun e w' => e = .returned (.int .i64 0) ∧ w = w' := by
  refine enterE (vs := [.pointer (some ⟨bs, 0, none⟩)]) Tryz.func131 rfl rfl ?_
  intro a H
  replace H : Hd a 12 [] [(0, .pointer (some ⟨bs, 0, none⟩))] := H
  refine wp_seq (wp_region_lit (l := [_]) (wl H (Ez.asn H rfl) rfl (kW (kS (kR [_, _, _, _, _] (kM rfl rfl (kN rfl rfl (kL (fun a H => Ez.fa156_0 H rfl) rfl (kL (fun a H => Ez.ld154 H rfl (hS.1)) rfl (kA rfl rfl (kP [(2, _), (3, _)] rfl (kW (kS (kS (kR [_, _] (kM rfl rfl (kL (fun a H => Ez.eqN H (.inr rfl) rfl rfl (r := true) rfl) rfl (kP [(2, _), (3, _), (9, _)] rfl (kW ?_))))))))))))))))))); clear H a; intro a H
  refine wp_cond_true (H.o rfl) (wp_seq (wp_region_lit (l := [_]) (wl H (Ez.asn H rfl) rfl (kP [(2, _), (3, _)] rfl (kW ?_))))); clear H a; intro a H
  refine wp_ret (thr ?_)
  refine rt1 H rfl rfl ?_
  exact ⟨rfl, rfl⟩
theorem grow80 (n : Nat) (w : World) (h0 : 0 < n) (hn : n < 1000000) :
    Calls Tryz.prog 150 #[.slice none 0 0, .int .i64 n] w fun e w' => ∃ b c, e = .returned (.slice (some ⟨b, 0, none⟩) 0 c) ∧ w.heap.size ≤ b ∧ n ≤ c ∧ Wk w' b c (fun _ => 0) ∧ Fr NoT w w' := by
  refine enterE (vs := [.slice none 0 0, .int .i64 n]) Tryz.func150 rfl rfl ?_
  intro a H
  replace H : Hd a 27 [] [(0, .slice none 0 0), (1, .int .i64 n)] := H
  refine wp_seq (wp_region_lit (l := [_]) (wl H (Ez.asn H rfl) rfl (kW (kS (kS (kR [_, _] (kM rfl rfl (kL (fun a H => Ez.lss (r := false) H rfl rfl (by (simp))) rfl (kP [(0, _), (1, _), (4, _), (6, _)] rfl (kW ?_)))))))))); clear H a; intro a H
  refine wp_cond_false (H.o rfl) (wp_skip (thn (wp_seq (wp_seq (wp_region_lit (l := [_, _, _, _, _, _, _, _]) (wl H (Ez.mv H rfl) rfl (kM rfl rfl (kL (fun a H => Ez.cap80 H rfl) rfl (kM rfl rfl (kL (fun a H => Ez.len80 H rfl) rfl (kL (fun a H => Ez.subI (r := (0 : Int)) H rfl rfl (by omega) (by omega)) rfl (kL (fun a H => Ez.subI (r := (n : Int)) H rfl rfl (by omega) (by omega)) rfl (kA rfl rfl (kP [(0, _), (1, _), (4, _)] rfl (kW (kS (kR [_, _] (kM rfl rfl (kL (fun a H => Ez.gtr (r := true) H rfl rfl (by (simp; omega))) rfl (kP [(0, _), (1, _), (4, _), (16, _)] rfl (kW ?_))))))))))))))))))))); clear H a; intro a H
  refine wp_cond_true (H.o rfl) (wp_region_lit (l := [_, _, _, _, _, _, _, _, _, _]) (wl H (Ez.mv H rfl) rfl (kM rfl rfl (kL (fun a H => Ez.cap80 H rfl) rfl (kL (fun a H => Ez.slH80 H rfl rfl 0 rfl (Nat.zero_le _)) rfl (kM rfl rfl ?_)))))); clear H a; intro a H
  obtain ⟨w2, c, e2, hc, hW, hF⟩ := Ez.apz (x := .tmp 20) (y := .tmp 21) (T := 80) (d := some 22) (ty := 80) (pos := _) (after := _) (g := none) H (.inr rfl) rfl rfl n rfl h0 (by omega)
  refine wl H (e2) rfl ?_; clear e2 H a; intro a H
  refine wl H (Ez.mv H rfl) rfl (kL (fun a H => Ez.len80 H rfl) rfl (kL (fun a H => Ez.slH80 H rfl rfl 0 rfl (Nat.zero_le _)) rfl (kA rfl rfl (kP [(0, _), (4, _)] rfl (kW (kS (kR [_, _] (kM rfl rfl (kA rfl rfl (kP [(4, _)] rfl (kW ?_))))))))))); clear H a; intro a H
  refine wp_ret ?_
  refine rt1 H rfl rfl ?_
  exact ⟨_, c, rfl, Nat.le_refl _, hc, hW, hF⟩
theorem grow79 (n : Nat) (w : World) (h0 : 0 < n) (hn : n < 1000000) :
    Calls Tryz.prog 170 #[.slice none 0 0, .int .i64 n] w fun e w' => ∃ b c, e = .returned (.slice (some ⟨b, 0, none⟩) 0 c) ∧ w.heap.size ≤ b ∧ n ≤ c ∧ Wk w' b c (fun _ => 0) ∧ Fr NoT w w' := by
  refine enterE (vs := [.slice none 0 0, .int .i64 n]) Tryz.func170 rfl rfl ?_
  intro a H
  replace H : Hd a 27 [] [(0, .slice none 0 0), (1, .int .i64 n)] := H
  refine wp_seq (wp_region_lit (l := [_]) (wl H (Ez.asn H rfl) rfl (kW (kS (kS (kR [_, _] (kM rfl rfl (kL (fun a H => Ez.lss (r := false) H rfl rfl (by (simp))) rfl (kP [(0, _), (1, _), (4, _), (6, _)] rfl (kW ?_)))))))))); clear H a; intro a H
  refine wp_cond_false (H.o rfl) (wp_skip (thn (wp_seq (wp_seq (wp_region_lit (l := [_, _, _, _, _, _, _, _]) (wl H (Ez.mv H rfl) rfl (kM rfl rfl (kL (fun a H => Ez.cap79 H rfl) rfl (kM rfl rfl (kL (fun a H => Ez.len79 H rfl) rfl (kL (fun a H => Ez.subI (r := (0 : Int)) H rfl rfl (by omega) (by omega)) rfl (kL (fun a H => Ez.subI (r := (n : Int)) H rfl rfl (by omega) (by omega)) rfl (kA rfl rfl (kP [(0, _), (1, _), (4, _)] rfl (kW (kS (kR [_, _] (kM rfl rfl (kL (fun a H => Ez.gtr (r := true) H rfl rfl (by (simp; omega))) rfl (kP [(0, _), (1, _), (4, _), (16, _)] rfl (kW ?_))))))))))))))))))))); clear H a; intro a H
  refine wp_cond_true (H.o rfl) (wp_region_lit (l := [_, _, _, _, _, _, _, _, _, _]) (wl H (Ez.mv H rfl) rfl (kM rfl rfl (kL (fun a H => Ez.cap79 H rfl) rfl (kL (fun a H => Ez.slH79 H rfl rfl 0 rfl (Nat.zero_le _)) rfl (kM rfl rfl ?_)))))); clear H a; intro a H
  obtain ⟨w2, c, e2, hc, hW, hF⟩ := Ez.apz (x := .tmp 20) (y := .tmp 21) (T := 79) (d := some 22) (ty := 79) (pos := _) (after := _) (g := none) H (.inl rfl) rfl rfl n rfl h0 (by omega)
  refine wl H (e2) rfl ?_; clear e2 H a; intro a H
  refine wl H (Ez.mv H rfl) rfl (kL (fun a H => Ez.len79 H rfl) rfl (kL (fun a H => Ez.slH79 H rfl rfl 0 rfl (Nat.zero_le _)) rfl (kA rfl rfl (kP [(0, _), (4, _)] rfl (kW (kS (kR [_, _] (kM rfl rfl (kA rfl rfl (kP [(4, _)] rfl (kW ?_))))))))))); clear H a; intro a H
  refine wp_ret ?_
  refine rt1 H rfl rfl ?_
  exact ⟨_, c, rfl, Nat.le_refl _, hc, hW, hF⟩
theorem siNat5 (bi : Nat) (w : World) (hc : w.cell? ⟨bi, 0, none⟩ = some (.slice none 0 0)) (hf : w.frozen? ⟨bi, 0, none⟩ = false) :
    Calls Tryz.prog 151 #[.pointer (some ⟨bi, 0, none⟩), .int .i64 5] w fun e w' => ∃ b c q n' c2 X, e = .returned (.slice (some ⟨b, 0, none⟩) 5 5) ∧ w.heap.size ≤ b ∧ 5 ≤ c ∧ Wk w' b c X ∧ w'.cell? ⟨bi, 0, none⟩ = some (.slice q n' c2) ∧ Fr (Bl bi) w w' := by
  refine enterE (vs := [.pointer (some ⟨bi, 0, none⟩), .int .i64 5]) Tryz.func151 rfl rfl ?_
  intro a H
  replace H : Hd a 53 [] [(0, .pointer (some ⟨bi, 0, none⟩)), (1, .int .i64 5)] := H
  refine wp_seq (wp_region_lit (l := [_]) (wl H (Ez.asn H rfl) rfl (kW (kS (kR [_, _, _, _] (kM rfl rfl (kL (fun a H => Ez.addI (r := (8 : Int)) H rfl rfl (by omega) (by omega)) rfl (kL (fun a H => Ez.andNot (r := (8 : Int)) H rfl rfl (by rfl)) rfl (kA rfl rfl (kP [(0, _), (1, _), (4, _), (5, _)] rfl (kW (kS (kR [_, _, _, _, _, _] (kM rfl rfl (kN rfl rfl (kL (fun a H => Ez.fa175_0 H rfl) rfl (kL (fun a H => Ez.ld79 H rfl (by assumption)) rfl (kL (fun a H => Ez.len79 H rfl) rfl (kA rfl rfl (kP [(0, _), (1, _), (4, _), (5, _), (6, _)] rfl (kW (kS (kR [_, _, _, _, _, _, _, _, _, _] (kM rfl rfl (kM rfl rfl (kN rfl rfl (kL (fun a H => Ez.fa175_0 H rfl) rfl ?_))))))))))))))))))))))))))); clear H a; intro a H
  refine wl H (Ez.ld79 H rfl (by assumption)) rfl (kM rfl rfl ?_); clear H a; intro a H
  refine wk H cf170 (grow79 8 w (by omega) (by omega)) rfl rfl ?_
  rintro _ w1 ⟨b, c, rfl, hb, hcc, hW, hF⟩
  refine ⟨_, rfl, ?_⟩; clear H a; intro a H
  have hbi := World.block_lt_of_cell? w _ hc
  have hc1 := hF.someCell hc (fun f => f)
  have hf1 := (hF.frozen bi 0 hbi).trans hf
  have hbb : b ≠ bi := by have : bi < w.heap.size := hbi; omega
  refine wl H (Ez.nc H rfl) rfl (kL (fun a H => Ez.fa175_0 H rfl) rfl ?_); clear H a; intro a H
  refine wls H (Ez.st79 H rfl rfl rfl hc1 hf1) ?_; clear H; intro H
  refine kP [(0, _), (1, _), (4, _), (5, _), (6, _)] rfl (kW ?_) a H; clear H a; intro a H
  have hW2 := hW.other (p := ⟨bi, 0, none⟩) hbb (.slice (some ⟨b, 0, none⟩) 0 c)
  have hF2 : Fr (Bl bi) w (w1.setCell ⟨bi, 0, none⟩ (.slice (some ⟨b, 0, none⟩) 0 c)) := hF.noT.trans (Fr.bl _)
  have hc2 := World.cell?_setCell_same w1 ⟨bi, 0, none⟩ (.slice (some ⟨b, 0, none⟩) 0 c) (by rw [hc1])
  have hf2 : (w1.setCell ⟨bi, 0, none⟩ (.slice (some ⟨b, 0, none⟩) 0 c)).frozen? ⟨bi, 0, none⟩ = false := by rw [World.frozen?_setCell]; exact hf1
  generalize w1.setCell ⟨bi, 0, none⟩ (.slice (some ⟨b, 0, none⟩) 0 c) = w2 at hW2 hF2 hc2 hf2
  refine wp_seq (wp_region_lit (l := [_, _, _, _, _, _, _, _, _, _, _, _]) (wl H (Ez.mv H rfl) rfl (kM rfl rfl (kN rfl rfl (kL (fun a H => Ez.fa175_0 H rfl) rfl (kL (fun a H => Ez.ld79 H rfl (by assumption)) rfl (kM rfl rfl (kM rfl rfl (kL (fun a H => Ez.addI (r := (8 : Int)) H rfl rfl (by omega) (by omega)) rfl (kL (fun a H => Ez.slH79 H rfl rfl 8 rfl hcc) rfl (kN rfl rfl (kL (fun a H => Ez.fa175_0 H rfl) rfl ?_)))))))))))); clear H a; intro a H
  refine wls H (Ez.st79 H rfl rfl rfl hc2 hf2) ?_; clear H; intro H
  refine kP [(0, _), (1, _), (4, _), (6, _)] rfl (kW ?_) a H; clear H a; intro a H
  have hW3 := hW2.other (p := ⟨bi, 0, none⟩) hbb (.slice (some ⟨b, 0, none⟩) 8 c)
  have hF3 := hF2.trans (Fr.bl (b := bi) (j := 0) (.slice (some ⟨b, 0, none⟩) 8 c))
  have hc3 := World.cell?_setCell_same w2 ⟨bi, 0, none⟩ (.slice (some ⟨b, 0, none⟩) 8 c) (by rw [hc2])
  generalize w2.setCell ⟨bi, 0, none⟩ (.slice (some ⟨b, 0, none⟩) 8 c) = w3 at hW3 hF3 hc3
  refine wp_seq (wp_region_lit (l := [_, _, _, _, _, _, _, _, _, _, _, _, _]) (wl H (Ez.mv H rfl) rfl (kN rfl rfl (kL (fun a H => Ez.fa175_0 H rfl) rfl (kL (fun a H => Ez.ld79 H rfl (by assumption)) rfl (kM rfl rfl (kM rfl rfl (kM rfl rfl (kL (fun a H => Ez.addI (r := (5 : Int)) H rfl rfl (by omega) (by omega)) rfl (kM rfl rfl (kM rfl rfl (kL (fun a H => Ez.addI (r := (5 : Int)) H rfl rfl (by omega) (by omega)) rfl (kL (fun a H => Ez.slLHM79 H rfl rfl rfl rfl rfl 5 rfl rfl (by omega) (by omega)) rfl (kA rfl rfl (kP [(1, _), (4, _), (7, _)] rfl (kW (kS (kS (kR [_, _] (kM rfl rfl (kL (fun a H => Ez.gtr (r := true) H rfl rfl (by simp)) rfl (kP [(4, _), (7, _), (49, _)] rfl (kW ?_))))))))))))))))))))))); clear H a; intro a H
  refine wp_cond_true (H.o rfl) (wp_region_lit (l := [_, _, _]) (wl H (Ez.mv H rfl) rfl (kL (fun a H => Ez.ix79 H rfl rfl 0 rfl (by omega)) rfl ?_))); clear H a; intro a H
  refine wls H (Ez.st103 H rfl rfl rfl (hW3.cell (by omega)) (hW3.fz _)) ?_; clear H; intro H
  refine kP [(4, _), (7, _)] rfl (kW (kS (kR [_, _] (kM rfl rfl (kA rfl rfl (kP [(4, _)] rfl (kW ?_))))))) a H; clear H a; intro a H
  refine wp_ret ?_
  refine rt1 H rfl rfl ?_
  refine ⟨b, c, some ⟨b, 0, none⟩, 8, c, _, rfl, hb, by omega, hW3.set (j := 0 + 0) (by omega) ⟨by decide, by decide⟩, ?_, hF3.setCell (fun h => absurd h (by omega)) _⟩
  · rw [World.cell?_setCell_other _ _ _ _ (by intro e; injection e with e; exact hbb e)]; exact hc3
theorem stkNat (bs n : Nat) (w : World) (hS : StN w bs) (h0 : 0 < n) (hn : n ≤ 5) :
    Calls Tryz.prog 132 #[.pointer (some ⟨bs, 0, none⟩), .int .i64 n] w fun e w' => ∃ b c c' X, e = .returned (.slice (some ⟨b, 0, none⟩) n c') ∧ w.heap.size ≤ b ∧ n ≤ c' ∧ c' ≤ c ∧ Wk w' b c X ∧ Stk w.heap.size w' bs ∧ Fr (Bl bs) w w' ∧ (n ≤ 4 → Fr NoT w w') := by
  refine enterE (vs := [.pointer (some ⟨bs, 0, none⟩), .int .i64 n]) Tryz.func132 rfl rfl ?_
  intro a H
  replace H : Hd a 33 [] [(0, .pointer (some ⟨bs, 0, none⟩)), (1, .int .i64 n)] := H
  refine wp_seq (wp_region_lit (l := [_]) (wl H (Ez.asn H rfl) rfl (kW (kS (kR [_, _, _, _, _] (kM rfl rfl (kN rfl rfl (kL (fun a H => Ez.fa156_0 H rfl) rfl (kL (fun a H => Ez.ld154 H rfl (hS.1)) rfl (kA rfl rfl (kP [(0, _), (1, _), (4, _), (5, _)] rfl (kW (kS (kS (kR [_, _] (kM rfl rfl (kL (fun a H => Ez.eqN H (.inr rfl) rfl rfl (r := true) rfl) rfl (kP [(0, _), (1, _), (4, _), (5, _), (12, _)] rfl (kW ?_))))))))))))))))))); clear H a; intro a H
  refine wp_cond_true (H.o rfl) (wp_seq (wp_seq ?_))
  by_cases h4 : n ≤ 4
  · refine wp_region_lit (l := [_, _]) (wl H (Ez.mv H rfl) rfl (kL (fun a H => Ez.leq (r := true) H rfl rfl (by (simp; omega))) rfl (kP [(0, _), (1, _), (4, _), (5, _), (14, _)] rfl (kW ?_)))); clear H a; intro a H
    refine wp_cond_true (H.o rfl) (wp_seq (wp_region_lit (l := [_, _, _]) (wl H (Ez.mv H rfl) rfl ?_))); clear H a; intro a H
    refine wk H cf150 (grow80 n w (by omega) (by omega)) rfl rfl ?_
    rintro _ w1 ⟨b, c, rfl, hb, hcc, hW, hF⟩
    refine ⟨_, rfl, ?_⟩; clear H a; intro a H
    refine wl H (Ez.asn H rfl) rfl (kP [(0, _), (1, _), (4, _), (5, _), (6, _)] rfl (kW (kS (kR [_, _, _, _] (kM rfl rfl (kM rfl rfl (kL (fun a H => Ez.slH80 H rfl rfl n rfl hcc) rfl (kA rfl rfl (kP [(0, _), (1, _), (4, _), (5, _), (6, _)] rfl (kW (kS (kS (kR [_, _] (kM rfl rfl (kL (fun a H => Ez.gtr (r := true) H rfl rfl (by (simp; omega))) rfl (kP [(0, _), (1, _), (4, _), (5, _), (6, _), (21, _)] rfl (kW ?_))))))))))))))))); clear H a; intro a H
    refine wp_cond_true (H.o rfl) (wp_region_lit (l := [_, _, _]) (wl H (Ez.mv H rfl) rfl (kL (fun a H => Ez.ix80 H rfl rfl 0 rfl (by omega)) rfl ?_))); clear H a; intro a H
    refine wls H (Ez.st103 H rfl rfl rfl (hW.cell (by omega)) (hW.fz _)) ?_; clear H; intro H
    refine kP [(0, _), (1, _), (4, _), (5, _), (6, _)] rfl (kW (kS (kR [_, _] (kM rfl rfl (kA rfl rfl (kP [(0, _), (1, _), (4, _), (5, _)] rfl (kW ?_))))))) a H; clear H a; intro a H
    refine wp_ret (thr (thr ?_))
    refine rt1 H rfl rfl ?_
    have hF2 : Fr NoT w (w1.setCell ⟨b, 0 + 0, none⟩ (.int .u64 11259375)) := hF.setCell (fun h => absurd h (by omega)) _
    exact ⟨b, c, c, _, rfl, hb, hcc, Nat.le_refl _, hW.set (j := 0 + 0) (by omega) ⟨by decide, by decide⟩, .inl (hS.fr hF2 (fun f => f)), hF2.noT, fun _ => hF2⟩
  refine wp_region_lit (l := [_, _]) (wl H (Ez.mv H rfl) rfl (kL (fun a H => Ez.leq (r := false) H rfl rfl (by (simp; omega))) rfl (kP [(0, _), (1, _), (4, _), (5, _), (14, _)] rfl (kW ?_)))); clear H a; intro a H
  refine wp_cond_false (H.o rfl) (wp_skip (thn (wp_seq ?_)))
  have h5 : n = 5 := by omega
  subst h5
  have hbs : bs < w.heap.size := World.block_lt_of_cell? w _ hS.1
  refine wp_region_lit (l := [_, _]) (wl H (Ez.al175) rfl (kA rfl rfl (kP [(0, _), (1, _), (4, _), (5, _)] rfl (kW (kR [_, _, _, _, _] (kM rfl rfl (kM rfl rfl (kN rfl rfl (kL (fun a H => Ez.fa156_0 H rfl) rfl ?_))))))))); clear H a; intro a H
  refine wls H (Ez.st154 H rfl rfl rfl (((Fr.refl NoT w).alloc _).someCell hS.1 (fun f => f)) ((((Fr.refl NoT w).alloc _).frozen _ _ hbs).trans hS.2)) ?_; clear H; intro H
  refine kP [(1, _), (4, _), (5, _)] rfl (kW ?_) a H; clear H a; intro a H
  obtain ⟨bi, hbi⟩ : ∃ bi, bi = w.heap.size := ⟨_, rfl⟩
  have hF1 : Fr (Bl bs) w ((w.alloc (.cells #[.slice none 0 0] 175)).setCell ⟨bs, 0, none⟩ (.pointer (some ⟨w.heap.size, 0, none⟩))) := (((Fr.refl (Bl bs) w).alloc _)).trans (Fr.bl _)
  have hne : bi ≠ bs := by omega
  have hci : ((w.alloc (.cells #[.slice none 0 0] 175)).setCell ⟨bs, 0, none⟩ (.pointer (some ⟨w.heap.size, 0, none⟩))).cell? ⟨bi, 0, none⟩ = some (.slice none 0 0) := by
    rw [World.cell?_setCell_other _ _ _ _ (by intro e; injection e with e; exact hne e.symm)]; exact (newCell w _ _ hbi).1
  have hfi : ((w.alloc (.cells #[.slice none 0 0] 175)).setCell ⟨bs, 0, none⟩ (.pointer (some ⟨w.heap.size, 0, none⟩))).frozen? ⟨bi, 0, none⟩ = false := by
    rw [World.frozen?_setCell]; exact (newCell w _ _ hbi).2
  have hcs : ((w.alloc (.cells #[.slice none 0 0] 175)).setCell ⟨bs, 0, none⟩ (.pointer (some ⟨w.heap.size, 0, none⟩))).cell? ⟨bs, 0, none⟩ = some (.pointer (some ⟨bi, 0, none⟩)) := by
    rw [World.cell?_setCell_same _ _ _ (by rw [((Fr.refl NoT w).alloc _).someCell hS.1 (fun f => f)]), hbi]
  rw [← hbi] at H
  have hbz : bi < ((w.alloc (.cells #[.slice none 0 0] 175)).setCell ⟨bs, 0, none⟩ (.pointer (some ⟨w.heap.size, 0, none⟩))).heap.size := World.block_lt_of_cell? _ _ hci
  generalize (w.alloc (.cells #[.slice none 0 0] 175)).setCell ⟨bs, 0, none⟩ (.pointer (some ⟨w.heap.size, 0, none⟩)) = w2 at hF1 hci hfi hcs hbz
  refine wp_seq (wp_region_lit (l := [_, _, _, _]) (wl H (Ez.mv H rfl) rfl (kM rfl rfl ?_))); clear H a; intro a H
  refine wk H cf151 (siNat5 bi w2 hci hfi) rfl rfl ?_
  rintro _ w1 ⟨b, c, q, n', c2, X, rfl, hb, hcc, hW, hc9, hF⟩
  refine ⟨_, rfl, ?_⟩; clear H a; intro a H
  refine wl H (Ez.asn H rfl) rfl (kP [(4, _)] rfl (kW ?_)); clear H a; intro a H
  refine wp_ret ?_
  refine rt1 H rfl rfl ?_
  refine ⟨b, c, 5, X, rfl, Nat.le_trans hF1.size hb, by omega, by omega, hW, .inr ⟨bi, q, n', c2, hF.someCell hcs (fun h => hne h.symm), by omega, hne, hc9, ?_⟩, hF1.plus hF (by omega), fun h => absurd h (by omega)⟩
  · rw [hF.frozen _ _ hbz]; exact hfi
end
section
set_option maxRecDepth 8000
section
variable {B P T V Q R N a b u2 vl : Int}
theorem kd_step (hP : 0 < P) (hV : (a * B + b) * P ≤ V) (hT : T < (N * B + u2 + 1) * P) (hQ : 0 ≤ Q) (hqr : Q * a + R = N) (hgt : R * B + u2 < Q * b) : T < Q * V := by
  have h1 : Q * ((a * B + b) * P) ≤ Q * V := Int.mul_le_mul_of_nonneg_left hV hQ
  have h2 : N * B + u2 + 1 ≤ Q * (a * B + b) := by
    have e : Q * (a * B + b) = (Q * a) * B + Q * b := by rw [Int.mul_add, Int.mul_assoc]
    have e2 : N * B = (Q * a) * B + R * B := by rw [← hqr, Int.add_mul]
    omega
  have h3 := Int.mul_le_mul_of_nonneg_right h2 (Int.le_of_lt hP)
  rw [Int.mul_assoc] at h3
  omega
theorem kd_exit (hP : 0 < P) (hV0 : 0 ≤ V) (hV : V ≤ (a * B + b + 1) * P) (hT : (N * B + u2) * P ≤ T) (hT0 : 0 ≤ T) (hQ : 0 ≤ Q) (hQa : Q ≤ a * B + b + 1) (hqr : Q * a + R = N) (hle : Q * b ≤ R * B + u2) : (Q - 1) * V ≤ T := by
  by_cases h0 : Q = 0
  · subst h0; simp; omega
  have h1 : (Q - 1) * V ≤ (Q - 1) * ((a * B + b + 1) * P) := Int.mul_le_mul_of_nonneg_left hV (by omega)
  have h2 : (Q - 1) * (a * B + b + 1) ≤ N * B + u2 := by
    have e : (Q - 1) * (a * B + b + 1) = (Q * a) * B + Q * b + Q - (a * B + b + 1) := by
      rw [Int.sub_mul, Int.mul_add, Int.mul_add, Int.mul_assoc]; omega
    have e2 : N * B = (Q * a) * B + R * B := by rw [← hqr, Int.add_mul]
    omega
  have h3 := Int.mul_le_mul_of_nonneg_right h2 (Int.le_of_lt hP)
  rw [Int.mul_assoc] at h3
  omega
theorem kd_first (hP : 0 < P) (hB : 0 < B) (ha : 0 < a) (hb : 0 ≤ b) (hV : (a * B + b) * P ≤ V) (hT : T < (N * B + u2 + 1) * P) (hu : u2 < B) (hN : 0 ≤ N) : T < (N / a + 1) * V := by
  have h1 : N + 1 ≤ (N / a + 1) * a := by
    have := Int.mul_ediv_add_emod N a
    have := Int.emod_lt_of_pos N ha
    rw [Int.add_mul, Int.one_mul, Int.mul_comm]; omega
  have h2 : N * B + u2 + 1 ≤ (N + 1) * B := by rw [Int.add_mul, Int.one_mul]; omega
  have h3 : (N + 1) * B ≤ ((N / a + 1) * a) * B := Int.mul_le_mul_of_nonneg_right h1 (Int.le_of_lt hB)
  have h4 := Int.mul_le_mul_of_nonneg_right (Int.le_trans h2 h3) (Int.le_of_lt hP)
  have h5 : (a * B) * P ≤ V := by
    have : (a * B) * P ≤ (a * B + b) * P := Int.mul_le_mul_of_nonneg_right (by omega) (Int.le_of_lt hP)
    omega
  have h6 : 0 ≤ N / a := Int.ediv_nonneg hN (by omega)
  have h7 := Int.mul_le_mul_of_nonneg_left h5 (show 0 ≤ N / a + 1 by omega)
  rw [Int.mul_assoc (N / a + 1), Int.mul_assoc (N / a + 1)] at h4
  omega
theorem kd_top (hP : 0 < P) (hB : 2 ≤ B) (h2a : B ≤ 2 * a + 2) (hb : b < B) (hV : V ≤ (a * B + b + 1) * P) (u1 : Int) (hu1 : 0 ≤ u1) (hu2 : 0 ≤ u2) (hT : ((a * B + u1) * B + u2) * P ≤ T) : (B - 2) * V ≤ T := by
  have h1 : V ≤ ((a + 1) * B) * P := by
    have : (a * B + b + 1) * P ≤ ((a + 1) * B) * P := Int.mul_le_mul_of_nonneg_right (by rw [Int.add_mul, Int.one_mul]; omega) (Int.le_of_lt hP)
    omega
  have h2 := Int.mul_le_mul_of_nonneg_left h1 (show 0 ≤ B - 2 by omega)
  have h3 : (B - 2) * (a + 1) ≤ a * B := by
    rw [Int.sub_mul, Int.mul_add, Int.mul_one, Int.mul_comm B a]; omega
  have h4 := Int.mul_le_mul_of_nonneg_right h3 (show 0 ≤ B by omega)
  have h5 : (a * B) * B ≤ (a * B + u1) * B + u2 := by
    have := Int.mul_nonneg hu1 (show 0 ≤ B by omega)
    rw [Int.add_mul]; omega
  have h6 := Int.mul_le_mul_of_nonneg_right (Int.le_trans h4 h5) (Int.le_of_lt hP)
  have e : (B - 2) * ((a + 1) * B * P) = (B - 2) * (a + 1) * B * P := by simp only [Int.mul_assoc]
  omega
end
theorem nvo_two {X : Nat → Int} {j n : Nat} (hn : 2 ≤ n) (hX : ∀ i, i < n → U64 (X (j + i))) (u0 : Int) :
    ((u0 * BB + X (j + n - 1)) * BB + X (j + n - 2)) * BB ^ (n - 2) ≤ nvo X j n + u0 * BB ^ n ∧ nvo X j n + u0 * BB ^ n < ((u0 * BB + X (j + n - 1)) * BB + X (j + n - 2) + 1) * BB ^ (n - 2) := by
  obtain ⟨k, rfl⟩ : ∃ k, n = k + 2 := ⟨n - 2, by omega⟩
  have h1 := nvo_nonneg (X := X) (o := j) (n := k) (fun i hi => hX i (by omega))
  have h2 := nvo_lt (X := X) (o := j) (n := k) (fun i hi => hX i (by omega))
  rw [show j + (k + 2) - 1 = j + (k + 1) by omega, show j + (k + 2) - 2 = j + k by omega, show k + 2 - 2 = k by omega, nvo_succ X j (k + 1), nvo_succ X j k]
  have e1 : BB ^ (k + 1) = BB * BB ^ k := by rw [Int.pow_succ, Int.mul_comm]
  have e2 : BB ^ (k + 2) = BB * (BB * BB ^ k) := by rw [show k + 2 = (k + 1) + 1 by omega, Int.pow_succ, Int.mul_comm, e1]
  rw [e1, e2]
  generalize BB ^ k = p at *
  have e3 : ((u0 * BB + X (j + (k + 1))) * BB + X (j + k)) * p = u0 * (BB * (BB * p)) + X (j + (k + 1)) * (BB * p) + X (j + k) * p := by
    simp only [Int.add_mul, Int.mul_assoc]
  constructor
  · omega
  rw [Int.add_mul _ 1 p, e3]; omega
def D3 (a b c : Nat) : Nat → Nat → Prop := fun k _ => k = a ∨ k = b ∨ k = c
theorem Stk.frW {w w' : World} {B bs b c : Nat} {X : Nat → Int} (h : Stk B w bs) (hW : Wk w b c X) (hc : 0 < c) (hF : Fr (Bl b) w w') : Stk B w' bs := by
  have hcell := hW.cell (j := 0) hc
  have key : ∀ k v, w.cell? ⟨k, 0, none⟩ = some v → (∀ kk x, v ≠ .int kk x) → ¬ Bl b k 0 := fun k v hk hv e => by
    have : k = b := e
    subst this
    rw [hcell] at hk
    exact hv _ _ (Option.some.inj hk).symm
  rcases h with h | ⟨bi, q, n, c', h1, h2, h3, h4, h5⟩
  · exact .inl (h.fr hF (key bs _ h.1 (by intro _ _ e; cases e)))
  have hlt := World.block_lt_of_cell? w _ h4
  exact .inr ⟨bi, q, n, c', hF.someCell h1 (key _ _ h1 (by intro _ _ e; cases e)), h2, h3, hF.someCell h4 (key _ _ h4 (by intro _ _ e; cases e)), by rw [hF.frozen _ _ hlt]; exact h5⟩
theorem StN.ne {w : World} {bs b c : Nat} {X : Nat → Int} (h : StN w bs) (hW : Wk w b c X) (hc : 0 < c) : b ≠ bs := by
  rintro rfl
  have := hW.cell (j := 0) hc
  rw [h.1] at this; cases this
structure DS (w0 : World) (bq bu bv bh bs cq cu cv ch : Nat) (V : Nat → Int) (w : World) (Q X Y : Nat → Int) : Prop where
  q : Wk w bq cq Q
  u : Wk w bu cu X
  v : Wk w bv cv V
  h : Wk w bh ch Y
  s : Stk w0.heap.size w bs
  f : Fr (D3 bq bu bs) w0 w
  nqu : bq ≠ bu
  nqv : bq ≠ bv
  nuv : bu ≠ bv
  nqh : bq ≠ bh
  nuh : bu ≠ bh
  nvh : bv ≠ bh
  nh : w0.heap.size ≤ bh
  c : 0 < cq ∧ 0 < cu ∧ 0 < cv ∧ 0 < ch
section
variable {w0 w w' : World} {bq bu bv bh bs cq cu cv ch : Nat} {V Q X Y Z : Nat → Int}
theorem DS.wq (h : DS w0 bq bu bv bh bs cq cu cv ch V w Q X Y) (hW : Wk w' bq cq Z) (hF : Fr (Bl bq) w w') : DS w0 bq bu bv bh bs cq cu cv ch V w' Z X Y :=
  ⟨hW, h.u.fr hF (fun _ e => h.nqu (Eq.symm e)), h.v.fr hF (fun _ e => h.nqv (Eq.symm e)), h.h.fr hF (fun _ e => h.nqh (Eq.symm e)), h.s.frW h.q h.c.1 hF, h.f.trans (hF.mono fun k o _ e => .inl e), h.nqu, h.nqv, h.nuv, h.nqh, h.nuh, h.nvh, h.nh, h.c⟩
theorem DS.wu (h : DS w0 bq bu bv bh bs cq cu cv ch V w Q X Y) (hW : Wk w' bu cu Z) (hF : Fr (Bl bu) w w') : DS w0 bq bu bv bh bs cq cu cv ch V w' Q Z Y :=
  ⟨h.q.fr hF (fun _ e => h.nqu e), hW, h.v.fr hF (fun _ e => h.nuv (Eq.symm e)), h.h.fr hF (fun _ e => h.nuh (Eq.symm e)), h.s.frW h.u h.c.2.1 hF, h.f.trans (hF.mono fun k o _ e => .inr (.inl e)), h.nqu, h.nqv, h.nuv, h.nqh, h.nuh, h.nvh, h.nh, h.c⟩
theorem DS.wh (h : DS w0 bq bu bv bh bs cq cu cv ch V w Q X Y) (hW : Wk w' bh ch Z) (hF : Fr (Bl bh) w w') : DS w0 bq bu bv bh bs cq cu cv ch V w' Q X Z :=
  ⟨h.q.fr hF (fun _ e => h.nqh e), h.u.fr hF (fun _ e => h.nuh e), h.v.fr hF (fun _ e => h.nvh e), hW, h.s.frW h.h h.c.2.2.2 hF, h.f.plus hF h.nh, h.nqu, h.nqv, h.nuv, h.nqh, h.nuh, h.nvh, h.nh, h.c⟩
theorem DS.cd (h : DS w0 bq bu bv bh bs cq cu cv ch V w Q X Y) (hC : Cd w w') : DS w0 bq bu bv bh bs cq cu cv ch V w' Q X Y :=
  ⟨h.q.heq hC.heap, h.u.heq hC.heap, h.v.heq hC.heap, h.h.heq hC.heap, h.s.fr (hC.fr NoT) (fun f => f) (fun _ _ _ f => f), h.f.trans (hC.fr _), h.nqu, h.nqv, h.nuv, h.nqh, h.nuh, h.nvh, h.nh, h.c⟩
end
def KQ (T V q : Int) : Prop := 0 ≤ q ∧ q < 18446744073709551616 ∧ T < (q + 1) * V ∧ (q - 1) * V ≤ T
theorem kd_zero {q y r N : Int} (hq : 0 ≤ q) (hr : 0 ≤ r) (hy : 0 < y) (h : q * y + r = N) (hN : N < y) : q = 0 := by
  by_cases h1 : 1 ≤ q
  · have := Int.mul_le_mul_of_nonneg_right h1 (Int.le_of_lt hy)
    omega
  omega
theorem kd_x {x1 x2 q b : Int} (h : x1 * 18446744073709551616 + x2 = q * b) (hx1 : U64 x1) (hx2 : U64 x2) (hb : U64 b) (hq : 1 ≤ q) :
    (x2 < b → U64 ((x1 - 1) % 18446744073709551616) ∧ U64 ((x2 - b) % 18446744073709551616) ∧ (x1 - 1) % 18446744073709551616 * 18446744073709551616 + (x2 - b) % 18446744073709551616 = (q - 1) * b) ∧
    (¬ x2 < b → U64 x1 ∧ U64 ((x2 - b) % 18446744073709551616) ∧ x1 * 18446744073709551616 + (x2 - b) % 18446744073709551616 = (q - 1) * b) := by
  unfold U64 at *
  have h1 := Int.mul_le_mul_of_nonneg_right hq hb.1
  rw [Int.one_mul] at h1
  have e : (q - 1) * b = q * b - b := by rw [Int.sub_mul, Int.one_mul]
  rw [e, ← h]
  constructor <;> intro hlt <;> (refine ⟨by omega, by omega, by omega⟩)
theorem kd_facts {X V : Nat → Int} {j n m : Nat} {y u0 : Int} (hn : 2 ≤ n) (hX : ∀ k, k < m + n → U64 (X k)) (hV : ∀ k, k < n → U64 (V k)) (hy : V (n - 1) = y) (hy0 : 0 < y) (hj : j ≤ m) (hR : nvo X (j + 1) (m + n - (j + 1)) < nv V n)
    (hu0 : (j = m ∧ u0 = 0) ∨ (j < m ∧ u0 = X (j + n))) :
    ∃ T, 0 ≤ T ∧ T < 18446744073709551616 * nv V n ∧ U64 u0 ∧ u0 ≤ y ∧ (∀ rr, ((j < m ∧ rr = n + 1) ∨ (j = m ∧ rr = n)) → T = nvo X j rr ∧ nvo X (j + rr) (m + n - (j + rr)) = 0) ∧
      ((u0 * 18446744073709551616 + X (j + n - 1)) * 18446744073709551616 + X (j + n - 2)) * BB ^ (n - 2) ≤ T ∧ T < ((u0 * 18446744073709551616 + X (j + n - 1)) * 18446744073709551616 + X (j + n - 2) + 1) * BB ^ (n - 2) ∧
      (y * 18446744073709551616 + V (n - 2)) * BB ^ (n - 2) ≤ nv V n ∧ nv V n ≤ (y * 18446744073709551616 + V (n - 2) + 1) * BB ^ (n - 2) ∧ 0 < nv V n := by
  have tX := nvo_two (X := X) (j := j) hn (fun i hi => hX _ (by omega)) u0
  have tV := nvo_two (X := V) (j := 0) hn (fun i hi => hV _ (by omega)) 0
  rw [Nat.zero_add, nvo_zero, hy] at tV
  simp only [Int.zero_mul, Int.zero_add, Int.add_zero] at tV
  have hP := BBn_pos (n - 2)
  have hVp : 0 < nv V n := by
    have := nv_ge (X := V) (n := n) (by omega) hV (by rw [hy]; omega)
    have := BBn_pos (n - 1)
    omega
  have hu0u : U64 u0 := by
    rcases hu0 with ⟨_, h⟩ | ⟨h1, h⟩
    · rw [h]; exact ⟨by decide, by decide⟩
    rw [h]; exact hX _ (by omega)
  have hnn := nvo_nonneg (X := X) (o := j) (n := n) (fun i hi => hX _ (by omega))
  have hT0 : 0 ≤ nvo X j n + u0 * BB ^ n := by
    have := Int.mul_nonneg hu0u.1 (Int.le_of_lt (BBn_pos n))
    omega
  have hrr : ∀ rr, ((j < m ∧ rr = n + 1) ∨ (j = m ∧ rr = n)) → nvo X j n + u0 * BB ^ n = nvo X j rr ∧ nvo X (j + rr) (m + n - (j + rr)) = 0 := by
    intro rr h
    rcases h with ⟨h1, rfl⟩ | ⟨h1, rfl⟩
    · rcases hu0 with ⟨h2, _⟩ | ⟨_, h2⟩
      · omega
      refine ⟨by rw [nvo_succ, h2], ?_⟩
      have e := nvo_add X (j + 1) n (m + n - (j + (n + 1)))
      rw [show n + (m + n - (j + (n + 1))) = m + n - (j + 1) by omega] at e
      rw [e] at hR
      have h3 := nv_lt n hV
      have h4 := nvo_nonneg (X := X) (o := j + 1) (n := n) (fun i hi => hX _ (by omega))
      have h5 := nvo_nonneg (X := X) (o := j + (n + 1)) (n := m + n - (j + (n + 1))) (fun i hi => hX _ (by omega))
      rw [show j + 1 + n = j + (n + 1) by omega] at hR
      by_cases h6 : nvo X (j + (n + 1)) (m + n - (j + (n + 1))) = 0
      · exact h6
      have := Int.mul_le_mul_of_nonneg_right (show 1 ≤ nvo X (j + (n + 1)) (m + n - (j + (n + 1))) by omega) (Int.le_of_lt (BBn_pos n))
      omega
    rcases hu0 with ⟨_, h2⟩ | ⟨h2, _⟩
    · refine ⟨by rw [h2]; simp, ?_⟩
      rw [show m + rr - (j + rr) = 0 by omega]; rfl
    omega
  have hTB : nvo X j n + u0 * BB ^ n < 18446744073709551616 * nv V n := by
    have key : ∀ s, nvo X (j + 1) s < nv V n → nvo X j (s + 1) < 18446744073709551616 * nv V n := by
      intro s hs
      rw [nvo_cons]
      have h1 := hX j (by omega)
      unfold U64 at h1
      unfold BB
      omega
    rcases hu0 with ⟨h1, h2⟩ | ⟨h1, h2⟩
    · rw [(hrr n (.inr ⟨h1, rfl⟩)).1]
      have := key (n - 1) (by rw [show m + n - (j + 1) = n - 1 by omega] at hR; exact hR)
      rwa [show n - 1 + 1 = n by omega] at this
    have h3 := hrr (n + 1) (.inl ⟨h1, rfl⟩)
    rw [h3.1]
    refine key n ?_
    have e := nvo_add X (j + 1) n (m + n - (j + (n + 1)))
    rw [show n + (m + n - (j + (n + 1))) = m + n - (j + 1) by omega, show j + 1 + n = j + (n + 1) by omega, h3.2] at e
    omega
  refine ⟨_, hT0, hTB, hu0u, ?_, hrr, tX.1, tX.2, tV.1, Int.le_of_lt tV.2, hVp⟩
  by_cases hle : u0 ≤ y
  · exact hle
  exfalso
  have h1 : nv V n ≤ (y + 1) * BB ^ (n - 1) := by
    have e : BB ^ (n - 1) = 18446744073709551616 * BB ^ (n - 2) := by rw [show n - 1 = (n - 2) + 1 by omega, Int.pow_succ, Int.mul_comm]; rfl
    have hb := hV (n - 2) (by omega)
    unfold U64 at hb
    rw [e, ← Int.mul_assoc]
    have := Int.mul_le_mul_of_nonneg_right (show y * 18446744073709551616 + V (n - 2) + 1 ≤ (y + 1) * 18446744073709551616 by omega) (Int.le_of_lt hP)
    have h9 := tV.2
    unfold BB at h9 this ⊢
    omega
  have h2 := Int.mul_le_mul_of_nonneg_right (show y + 1 ≤ u0 by omega) (Int.le_of_lt (BBn_pos n))
  have e : BB ^ n = 18446744073709551616 * BB ^ (n - 1) := by rw [show n = (n - 1) + 1 by omega, Int.pow_succ, Int.mul_comm]; rfl
  have h3 : (y + 1) * BB ^ n = 18446744073709551616 * ((y + 1) * BB ^ (n - 1)) := by rw [e, ← Int.mul_assoc, Int.mul_comm (y + 1), Int.mul_assoc]
  omega
theorem kd_next {X X4 Q1 U Qn : Nat → Int} {j m n rr : Nat} {q2 T Vn : Int} (hj : j ≤ m) (hrr : (j < m ∧ rr = n + 1) ∨ (j = m ∧ rr = n)) (hup : nvo X (j + rr) (m + n - (j + rr)) = 0) (hT : T = nvo X j rr) (h1 : nvo X4 j rr = T - q2 * Vn) (hlt : nvo X4 j rr < Vn)
    (hout : ∀ k, k < j ∨ j + rr ≤ k → X4 k = X k) (hsum : nvo Q1 (j + 1) (m - (j + 1)) * BB ^ (j + 1) * Vn + nv X (m + n) = nv U (m + n)) (hQ : (j < m ∧ Qn j = q2 ∧ ∀ k, j < k → Qn k = Q1 k) ∨ (j = m ∧ q2 = 0)) :
    nvo X4 j (m + n - j) < Vn ∧ nvo Qn j (m - j) * BB ^ j * Vn + nv X4 (m + n) = nv U (m + n) := by
  have hs : rr + (m + n - (j + rr)) = m + n - j := by omega
  have e1 := nvo_add X4 j rr (m + n - (j + rr))
  have e2 := nvo_add X j rr (m + n - (j + rr))
  have e3 : nvo X4 (j + rr) (m + n - (j + rr)) = nvo X (j + rr) (m + n - (j + rr)) := nvo_congr fun i hi => hout _ (.inr (by omega))
  rw [hs] at e1 e2
  rw [e3, hup] at e1
  rw [hup] at e2
  have e4 := nvo_add X4 0 j (m + n - j)
  have e5 := nvo_add X 0 j (m + n - j)
  rw [show j + (m + n - j) = m + n by omega, nvo_zero, nvo_zero, Nat.zero_add] at e4 e5
  have e6 : nv X4 j = nv X j := nv_congr j fun i hi => hout _ (.inl hi)
  refine ⟨by omega, ?_⟩
  have e7 : nvo X4 j (m + n - j) * BB ^ j = nvo X j (m + n - j) * BB ^ j - q2 * BB ^ j * Vn := by
    have h0 : nvo X4 j (m + n - j) = nvo X j (m + n - j) - q2 * Vn := by omega
    rw [h0, Int.sub_mul, Int.mul_assoc q2, Int.mul_comm Vn, ← Int.mul_assoc]
  rcases hQ with ⟨hlt', hq, hk⟩ | ⟨hjm, hq⟩
  · have e8 : nvo Qn j (m - j) = q2 + BB * nvo Q1 (j + 1) (m - (j + 1)) := by
      rw [show m - j = (m - (j + 1)) + 1 by omega, nvo_cons, hq]
      congr 2
      exact nvo_congr fun i hi => hk _ (by omega)
    have e9 : BB * nvo Q1 (j + 1) (m - (j + 1)) * BB ^ j = nvo Q1 (j + 1) (m - (j + 1)) * BB ^ (j + 1) := by
      rw [Int.mul_comm BB, Int.mul_assoc, Int.pow_succ, Int.mul_comm BB]
    rw [e8, Int.add_mul, Int.add_mul, e9]
    omega
  subst hjm
  subst hq
  have z1 : nvo Qn j (j - j) = 0 := by rw [Nat.sub_self]; rfl
  have z2 : nvo Q1 (j + 1) (j - (j + 1)) = 0 := by rw [show j - (j + 1) = 0 by omega]; rfl
  rw [z1]; rw [z2] at hsum
  simp only [Int.zero_mul, Int.zero_add] at hsum e7 ⊢
  omega
end
section
set_option maxRecDepth 8000
set_option maxHeartbeats 2000000 in
theorem divBasic (bq bu bv bs cq cu cv m n mv : Nat) (Q U V : Nat → Int) (w : World) (hq : Wk w bq cq Q) (hu : Wk w bu cu U) (hv : Wk w bv cv V) (hS : StN w bs) (hqu : bq ≠ bu) (hqv : bq ≠ bv) (huv : bu ≠ bv) (hm : 1 ≤ m) (hn : 2 ≤ n) (hn4 : n ≤ 4) (hm40 : m < 40) (hcq : m ≤ cq) (hcu : m + n ≤ cu) (hcv : n ≤ cv) (hV : 9223372036854775808 ≤ V (n - 1)) (htop : U (m + n - 1) < V (n - 1)) :
    Calls Tryz.prog 134 #[.slice (some ⟨bq, 0, none⟩) m cq, .pointer (some ⟨bs, 0, none⟩), .slice (some ⟨bu, 0, none⟩) (m + n) cu, .slice (some ⟨bv, 0, none⟩) n mv] w fun e w' => ∃ Xq Xu, e = .returned (.tuple #[]) ∧ Wk w' bq cq Xq ∧ Wk w' bu cu Xu ∧ nv Xq m * nv V n + nv Xu (m + n) = nv U (m + n) ∧ nv Xu (m + n) < nv V n ∧ Stk w.heap.size w' bs ∧ Fr (D3 bq bu bs) w w' := by
  obtain ⟨w0, hw0⟩ : ∃ w0, w0 = w := ⟨w, rfl⟩
  rw [← hw0]
  rw [← hw0] at hq hu hv hS
  clear hw0 w
  refine enterD (vs := [.slice (some ⟨bq, 0, none⟩) m cq, .pointer (some ⟨bs, 0, none⟩), .slice (some ⟨bu, 0, none⟩) (m + n) cu, .slice (some ⟨bv, 0, none⟩) n mv]) Tryz.func134 rfl rfl ?_
  intro a H
  replace H : Hd a 201 [] [(0, .slice (some ⟨bq, 0, none⟩) m cq), (1, .pointer (some ⟨bs, 0, none⟩)), (2, .slice (some ⟨bu, 0, none⟩) (m + n) cu), (3, .slice (some ⟨bv, 0, none⟩) n mv)] := H
  refine wp_seq (wp_region_lit (l := [_, _, _]) (wl H (Ez.mv H rfl) rfl (kL (fun a H => Ez.len80 H rfl) rfl (kA rfl rfl (kP [(0, _), (1, _), (2, _), (3, _), (8, _)] rfl (kW (kS (kR [_, _, _, _, _] (kM rfl rfl (kL (fun a H => Ez.len80 H rfl) rfl (kM rfl rfl (kL (fun a H => Ez.subI (r := (m : Int)) H rfl rfl (by omega) (by omega)) rfl (kA rfl rfl (kP [(0, _), (1, _), (2, _), (3, _), (8, _), (9, _)] rfl (kW (kS (kR [_, _, _, _] (kM rfl rfl (kM rfl rfl ?_))))))))))))))))))); clear H a; intro a H
  refine wk H cf131 (stkSave bs w0 hS) rfl rfl ?_
  rintro _ w1 ⟨rfl, rfl⟩
  refine ⟨_, rfl, ?_⟩; clear H a; intro a H
  refine wld H (Ez.dfr H (vs := [_, _]) rfl) ?_; clear H a; intro a H
  refine kP [(0, _), (1, _), (2, _), (3, _), (8, _), (9, _)] rfl (kW (kS (kR [_, _, _, _, _] (kM rfl rfl (kM rfl rfl (kL (fun a H => Ez.addI (r := ((n + 1 : Nat) : Int)) H rfl rfl (by omega) (by omega)) rfl ?_)))))) a H; clear H a; intro a H
  refine wk H cf132 (stkNat bs (n + 1) w0 hS (by omega) (by omega)) rfl rfl ?_
  rintro _ w1 ⟨bh, ch, ch', Y, rfl, g1, g2, g3, g4, g5, g6, _⟩
  refine ⟨_, rfl, ?_⟩; clear H a; intro a H
  have hD : DS w0 bq bu bv bh bs cq cu cv ch V w1 Q U Y := ⟨hq.fr g6 (fun _ e => hS.ne hq (by omega) e), hu.fr g6 (fun _ e => hS.ne hu (by omega) e), hv.fr g6 (fun _ e => hS.ne hv (by omega) e), g4, g5, g6.mono (fun k o _ e => .inr (.inr e)), hqu, hqv, huv, by have := hq.lt; omega, by have := hu.lt; omega, by have := hv.lt; omega, g1, by omega, by omega, by omega, by omega⟩
  clear g4 g5 g6
  refine wl H (Ez.asn H rfl) rfl (kP [(0, _), (2, _), (3, _), (8, _), (9, _), (10, _)] rfl (kW (kS (kR [_, _, _, _, _, _] (kM rfl rfl (kM rfl rfl (kL (fun a H => Ez.subI (r := ((n - 1 : Nat) : Int)) H rfl rfl (by omega) (by omega)) rfl (kL (fun a H => Ez.ix80 H rfl rfl (n - 1) rfl (by omega)) rfl (kL (fun a H => Ez.ld103 H rfl ((by rw [Nat.zero_add]; exact hD.v.cell (by omega)))) rfl (kA rfl rfl (kP [(0, _), (2, _), (3, _), (8, _), (9, _), (10, _), (11, _)] rfl (kW (kS ?_))))))))))))); clear H a; intro a H
  have hVu : ∀ k, k < n → U64 (V k) := fun k hk => hv.u k (by omega)
  obtain ⟨y, hy⟩ := Int.eq_ofNat_of_zero_le (hVu (n - 1) (by omega)).1
  have hyB := (hVu (n - 1) (by omega)).2
  rw [hy] at H hV htop hyB
  refine wp_region_lit (l := [_, _, _]) (wl H (Ez.mv H rfl) rfl ?_); clear H a; intro a H
  refine wk H cf146 (reciprocalWord y (by omega) (by omega) w1) rfl rfl ?_
  rintro _ w1 ⟨rm, rfl, hRP, hC⟩
  refine ⟨_, rfl, ?_⟩; clear H a; intro a H
  have hD := hD.cd hC
  refine wl H (Ez.asn H rfl) rfl (kP [(0, _), (2, _), (3, _), (8, _), (9, _), (10, _), (11, _), (12, _)] rfl (kW (kS (kR [_] (kA rfl rfl (kW (kS (kR [_, _] (kM rfl rfl (kA rfl rfl (kP [(0, _), (2, _), (3, _), (8, _), (9, _), (10, _), (11, _), (12, _), (13, _), (14, _)] rfl (kW ?_)))))))))))); clear H a; intro a H
  refine wp_block ?_
  refine wp_loopN (fun mm a w => ∃ (i : Nat) (j0 u0 : Int) (Q1 X Y1 : Nat → Int), mm = i ∧ i ≤ m + 1 ∧ Hd a 201 [⟨.fn (.func 130) #[], #[.pointer (some ⟨bs, 0, none⟩), .int .i64 0]⟩] [(0, .slice (some ⟨bq, 0, none⟩) m cq), (2, .slice (some ⟨bu, 0, none⟩) (m + n) cu), (3, .slice (some ⟨bv, 0, none⟩) n mv), (8, .int .i64 n), (9, .int .i64 m), (10, .slice (some ⟨bh, 0, none⟩) (n + 1) ch'), (11, .int .u64 y), (12, .int .u64 rm), (13, .int .u64 u0), (14, .int .i64 j0)] ∧ j0 = (i : Int) - 1 ∧ DS w0 bq bu bv bh bs cq cu cv ch V w Q1 X Y1 ∧ ((i = m + 1 ∧ u0 = 0 ∧ X (m + n - 1) < y) ∨ (i ≤ m ∧ (1 ≤ i → u0 = X (i - 1 + n)))) ∧ nvo X i (m + n - i) < nv V n ∧ nvo Q1 i (m - i) * BB ^ i * nv V n + nv X (m + n) = nv U (m + n)) (m + 1) ?_ ?_
  · replace H : Hd a 201 [_] [(0, _), (2, _), (3, _), (8, _), (9, _), (10, _), (11, _), (12, _), (13, _), (14, _)] := H.pick [0, 2, 3, 8, 9, 10, 11, 12, 13, 14]
    refine ⟨m + 1, _, _, Q, U, Y, rfl, Nat.le_refl _, H, by omega, hD, .inl ⟨rfl, rfl, htop⟩, ?_, ?_⟩
    · have h1 := nvo_lt (X := U) (o := m + 1) (n := n - 1) (fun i hi => hD.u.u _ (by omega))
      have h2 := nv_ge (X := V) (n := n) (by omega) hVu (by rw [hy]; omega)
      rw [show m + n - (m + 1) = n - 1 by omega]; omega
    rw [show m - (m + 1) = 0 by omega]; simp [nvo, nv]
  clear H a
  intro mm a w hI
  obtain ⟨i, j0, u0, Q1, X, Y1, hmm, hi, H, hj0, hD, hu0, hR, hsum⟩ := hI
  obtain ⟨wL, rfl⟩ : ∃ wL, wL = w := ⟨w, rfl⟩
  refine wp_seq (wp_seq (wp_region_lit (l := [_, _]) (wl H (Ez.mv H rfl) rfl (kL (fun a H => Ez.geq H rfl rfl (rfl)) rfl (kP [(0, _), (2, _), (3, _), (8, _), (9, _), (10, _), (11, _), (12, _), (13, _), (14, _), (46, _)] rfl (kW ?_)))))); clear H a; intro a H
  refine wp_cond_split (H.o rfl) (fun hb0 => ?_) (fun hb0 => ?_)
  · have hi1 : 1 ≤ i := by have := of_decide_eq_true hb0; omega
    obtain ⟨j, rfl⟩ : ∃ j, i = j + 1 := ⟨i - 1, by omega⟩
    have hj1 : j0 = (j : Int) := by omega
    subst hj1
    have hXu : ∀ k, k < m + n → U64 (X k) := fun k hk => hD.u.u k (by omega)
    have hu0' : (j = m ∧ u0 = 0) ∨ (j < m ∧ u0 = X (j + n)) := by
      rcases hu0 with ⟨h1, h2, _⟩ | ⟨h1, h2⟩
      · exact .inl ⟨by omega, h2⟩
      exact .inr ⟨by omega, by rw [h2 (by omega)]; congr 1⟩
    obtain ⟨T, hT0, hTB, hu0u, hu0y, hTr, hTlo, hThi, hVlo, hVhi, hVp⟩ := kd_facts (y := y) hn hXu hVu hy (by omega) (by omega) hR hu0'
    have hjt : j = m → u0 = 0 ∧ X (j + n - 1) < y := by
      intro hjm
      rcases hu0 with ⟨h1, h2, h3⟩ | ⟨h1, h2⟩
      · exact ⟨h2, by rw [hjm]; exact h3⟩
      omega
    have hP := BBn_pos (n - 2)
    have hb2u := hVu (n - 2) (by omega)
    have hx2u := hXu (j + n - 2) (by omega)
    have hx1u := hXu (j + n - 1) (by omega)
    refine wp_skip (thn (wp_seq (wp_block (wp_seq (wp_region_lit (l := [_]) (wl H (Ez.asn H rfl) rfl (kP [(0, _), (2, _), (3, _), (8, _), (9, _), (10, _), (11, _), (12, _), (13, _), (14, _), (15, _)] rfl (kW ?_)))))))); clear H a; intro a H
    refine wp_cut (fun a w => ∃ q : Int, Hd a 201 [⟨.fn (.func 130) #[], #[.pointer (some ⟨bs, 0, none⟩), .int .i64 0]⟩] [(0, .slice (some ⟨bq, 0, none⟩) m cq), (2, .slice (some ⟨bu, 0, none⟩) (m + n) cu), (3, .slice (some ⟨bv, 0, none⟩) n mv), (8, .int .i64 n), (9, .int .i64 m), (10, .slice (some ⟨bh, 0, none⟩) (n + 1) ch'), (11, .int .u64 y), (12, .int .u64 rm), (14, .int .i64 (j : Int)), (15, .int .u64 q)] ∧ KQ T (nv V n) q ∧ (j = m → q = 0) ∧ wL = w) ?_ ?_
    · refine wp_seq (wp_region_lit (l := [_, _, _]) (wl H (Ez.mv H rfl) rfl (kM rfl rfl (kL (fun a H => Ez.neq H rfl rfl (rfl)) rfl (kP [(0, _), (2, _), (3, _), (8, _), (9, _), (10, _), (11, _), (12, _), (13, _), (14, _), (15, _), (51, _)] rfl (kW ?_)))))); clear H a; intro a H
      refine wp_cond_split (H.o rfl) (fun hb1 => ?_) (fun hb1 => ?_)
      · have hne : u0 ≠ y := by simpa using hb1
        refine wp_seq (wp_region_lit (l := [_]) (wl H (Ez.asn H rfl) rfl (kP [(0, _), (2, _), (3, _), (8, _), (9, _), (10, _), (11, _), (12, _), (13, _), (14, _), (15, _), (16, _)] rfl (kW (kS (kR [_, _, _, _, _, _, _, _, _, _, _, _, _, _, _, _] (kM rfl rfl (kM rfl rfl (kM rfl rfl (kM rfl rfl (kL (fun a H => Ez.addI (r := ((j + n : Nat) : Int)) H rfl rfl (by omega) (by omega)) rfl (kL (fun a H => Ez.subI (r := ((j + n - 1 : Nat) : Int)) H rfl rfl (by omega) (by omega)) rfl (kL (fun a H => Ez.ix80 H rfl rfl (j + n - 1) rfl (by omega)) rfl (kL (fun a H => Ez.ld103 H rfl ((by rw [Nat.zero_add]; exact hD.u.cell (by omega)))) rfl (kM rfl rfl (kM rfl rfl ?_)))))))))))))))); clear H a; intro a H
        refine wk H cf147 (divWW u0 (X (j + n - 1)) rm y hu0u hx1u (by omega) (by omega) hRP wL) rfl rfl ?_
        rintro _ w1 ⟨rfl, rfl⟩
        refine ⟨_, rfl, ?_⟩; clear H a; intro a H
        refine wl H (Ez.mv H rfl) rfl (kL (fun a H => Ez.ext0 H rfl) rfl (kL (fun a H => Ez.ext1 H rfl) rfl (kA rfl rfl (kA rfl rfl (kP [(0, _), (2, _), (3, _), (8, _), (9, _), (10, _), (11, _), (12, _), (13, _), (14, _), (15, _), (16, _)] rfl (kW ?_)))))); clear H a; intro a H
        obtain ⟨N, hN⟩ : ∃ N, N = u0 * 18446744073709551616 + X (j + n - 1) := ⟨_, rfl⟩
        rw [← hN] at H hTlo hThi
        obtain ⟨q0, hq0⟩ : ∃ q0, q0 = N / (y : Int) := ⟨_, rfl⟩
        obtain ⟨r0, hr0⟩ : ∃ r0, r0 = N % (y : Int) := ⟨_, rfl⟩
        rw [← hq0, ← hr0] at H
        unfold U64 at hu0u hx1u hx2u hb2u
        have hN0 : 0 ≤ N := by omega
        have hq0u : U64 q0 := by
          rw [hq0]
          refine ⟨Int.ediv_nonneg hN0 (by omega), Int.ediv_lt_of_lt_mul (by omega) ?_⟩
          have := Int.mul_le_mul_of_nonneg_left (show u0 + 1 ≤ y by omega) (show (0 : Int) ≤ 18446744073709551616 by decide)
          omega
        have hr0u : U64 r0 := by
          have h1 := Int.emod_nonneg N (show (y : Int) ≠ 0 by omega)
          have h2 := Int.emod_lt_of_pos N (show (0 : Int) < y by omega)
          exact ⟨by omega, by omega⟩
        have hqr0 : q0 * y + r0 = N := by rw [hq0, hr0, Int.mul_comm]; exact Int.mul_ediv_add_emod N y
        have hTq0 : T < (q0 + 1) * nv V n := by rw [hq0]; exact kd_first hP (B := 18446744073709551616) (by decide) (by omega) hb2u.1 hVlo hThi hx2u.2 hN0
        have hNy : j = m → N < y := fun hjm => by have := hjt hjm; omega
        refine wp_seq (wp_region_lit (l := [_, _, _, _, _, _]) (wl H (Ez.mv H rfl) rfl (kM rfl rfl (kL (fun a H => Ez.subI (r := ((n - 2 : Nat) : Int)) H rfl rfl (by omega) (by omega)) rfl (kL (fun a H => Ez.ix80 H rfl rfl (n - 2) rfl (by omega)) rfl (kL (fun a H => Ez.ld103 H rfl ((by rw [Nat.zero_add]; exact hD.v.cell (by omega)))) rfl (kA rfl rfl (kP [(0, _), (2, _), (3, _), (8, _), (9, _), (10, _), (11, _), (12, _), (13, _), (14, _), (15, _), (16, _), (17, _)] rfl (kW (kS (kR [_, _, _, _, _, _, _, _] (kM rfl rfl (kM rfl rfl ?_))))))))))))); clear H a; intro a H
        refine wk H cf153 (mulWW q0 (V (n - 2)) hq0u hb2u wL) rfl rfl ?_
        rintro _ w1 ⟨rfl, rfl⟩
        refine ⟨_, rfl, ?_⟩; clear H a; intro a H
        refine wl H (Ez.mv H rfl) rfl (kL (fun a H => Ez.ext0 H rfl) rfl (kL (fun a H => Ez.ext1 H rfl) rfl (kA rfl rfl (kA rfl rfl (kP [(0, _), (2, _), (3, _), (8, _), (9, _), (10, _), (11, _), (12, _), (13, _), (14, _), (15, _), (16, _), (17, _), (18, _), (19, _)] rfl (kW (kS (kR [_, _, _, _, _, _, _, _] (kM rfl rfl (kM rfl rfl (kM rfl rfl (kL (fun a H => Ez.addI (r := ((j + n : Nat) : Int)) H rfl rfl (by omega) (by omega)) rfl (kL (fun a H => Ez.subI (r := ((j + n - 2 : Nat) : Int)) H rfl rfl (by omega) (by omega)) rfl (kL (fun a H => Ez.ix80 H rfl rfl (j + n - 2) rfl (by omega)) rfl (kL (fun a H => Ez.ld103 H rfl ((by rw [Nat.zero_add]; exact hD.u.cell (by omega)))) rfl (kA rfl rfl (kP [(0, _), (2, _), (3, _), (8, _), (9, _), (10, _), (11, _), (12, _), (13, _), (14, _), (15, _), (16, _), (17, _), (18, _), (19, _), (20, _)] rfl (kW ?_)))))))))))))))))); clear H a; intro a H
        refine wp_block ?_
        refine wp_loopN (fun mm a w => ∃ (q r x1 x2 : Int), mm = q.toNat ∧ Hd a 201 [⟨.fn (.func 130) #[], #[.pointer (some ⟨bs, 0, none⟩), .int .i64 0]⟩] [(0, .slice (some ⟨bq, 0, none⟩) m cq), (2, .slice (some ⟨bu, 0, none⟩) (m + n) cu), (3, .slice (some ⟨bv, 0, none⟩) n mv), (8, .int .i64 n), (9, .int .i64 m), (10, .slice (some ⟨bh, 0, none⟩) (n + 1) ch'), (11, .int .u64 y), (12, .int .u64 rm), (14, .int .i64 (j : Int)), (15, .int .u64 q), (16, .int .u64 r), (17, .int .u64 (V (n - 2))), (18, .int .u64 x1), (19, .int .u64 x2), (20, .int .u64 (X (j + n - 2)))] ∧ U64 q ∧ U64 r ∧ U64 x1 ∧ U64 x2 ∧ q * y + r = N ∧ x1 * 18446744073709551616 + x2 = q * V (n - 2) ∧ T < (q + 1) * nv V n ∧ wL = w) (q0.toNat) ?_ ?_
        · replace H : Hd a 201 [_] [(0, _), (2, _), (3, _), (8, _), (9, _), (10, _), (11, _), (12, _), (14, _), (15, _), (16, _), (17, _), (18, _), (19, _), (20, _)] := H.pick [0, 2, 3, 8, 9, 10, 11, 12, 14, 15, 16, 17, 18, 19, 20]
          obtain ⟨p, hp⟩ : ∃ p, p = q0 * V (n - 2) := ⟨_, rfl⟩
          have hp0 : 0 ≤ p := by rw [hp]; exact Int.mul_nonneg hq0u.1 hb2u.1
          have hp1 : p < 18446744073709551616 * 18446744073709551616 := by
            rw [hp]
            have h1 := Int.mul_le_mul_of_nonneg_left (Int.le_of_lt hb2u.2) hq0u.1
            have h2 := hq0u.2
            omega
          rw [← hp] at H
          refine ⟨q0, r0, _, _, rfl, H, hq0u, hr0u, ⟨by omega, by omega⟩, ⟨by omega, by omega⟩, hqr0, by rw [← hp]; omega, hTq0, rfl⟩
        clear H a
        intro mm a w hI
        obtain ⟨q, r, x1, x2, hmm1, H, hqu, hru, hx1, hx2, hqr, hx, hTq, rfl⟩ := hI
        refine wp_seq (wp_seq (wp_region_lit (l := [_, _, _, _, _]) (wl H (Ez.mv H rfl) rfl (kM rfl rfl (kM rfl rfl (kM rfl rfl ?_)))))); clear H a; intro a H
        refine wk H cf154 (greaterThan x1 x2 r (X (j + n - 2)) hx1 hx2 hru hx2u wL) rfl rfl ?_
        rintro _ w1 ⟨rfl, rfl⟩
        refine ⟨_, rfl, ?_⟩; clear H a; intro a H
        refine kP [(0, _), (2, _), (3, _), (8, _), (9, _), (10, _), (11, _), (12, _), (14, _), (15, _), (16, _), (17, _), (18, _), (19, _), (20, _), (88, _)] rfl (kW ?_) a H; clear H a; intro a H
        refine wp_cond_split (H.o rfl) (fun hb2 => ?_) (fun hb2 => ?_)
        · have hgt := of_decide_eq_true hb2
          rw [hx] at hgt
          have hq1 : 1 ≤ q := by
            by_cases h0 : 1 ≤ q
            · exact h0
            exfalso
            have : q = 0 := by have := hqu.1; omega
            rw [this] at hgt
            have := hru.1
            omega
          have hTs : T < q * nv V n := kd_step hP hVlo hThi (by omega) hqr hgt
          unfold U64 at hqu hru
          refine wp_skip (thn (wp_block (wp_seq (wp_region_lit (l := [_, _, _]) (wl H (Ez.mv H rfl) rfl (kL (fun a H => Ez.subU (r := (q - 1)) H rfl rfl (by omega)) rfl (kA rfl rfl (kP [(0, _), (2, _), (3, _), (8, _), (9, _), (10, _), (11, _), (12, _), (14, _), (15, _), (16, _), (17, _), (18, _), (19, _), (20, _)] rfl (kW (kS (kR [_, _, _, _] (kM rfl rfl (kM rfl rfl (kL (fun a H => Ez.addU H rfl rfl rfl) rfl (kA rfl rfl (kP [(0, _), (2, _), (3, _), (8, _), (9, _), (10, _), (11, _), (12, _), (14, _), (15, _), (16, _), (17, _), (18, _), (19, _), (20, _)] rfl (kW (kS (kS (kR [_, _, _] (kM rfl rfl (kM rfl rfl (kL (fun a H => Ez.lss H rfl rfl (rfl)) rfl (kP [(0, _), (2, _), (3, _), (8, _), (9, _), (10, _), (11, _), (12, _), (14, _), (15, _), (16, _), (17, _), (18, _), (19, _), (20, _), (96, _)] rfl (kW ?_))))))))))))))))))))))))); clear H a; intro a H
          refine wp_cond_split (H.o rfl) (fun hb3 => ?_) (fun hb3 => ?_)
          · have hov : 18446744073709551616 ≤ r + y := by have := of_decide_eq_true hb3; omega
            have hqr' : (q - 1) * y + (r + y) = N := by rw [Int.sub_mul]; omega
            have hK : KQ T (nv V n) (q - 1) := by
              refine ⟨by omega, by omega, by rw [Int.sub_add_cancel]; exact hTs, kd_exit hP (Int.le_of_lt hVp) hVhi hTlo hT0 (by omega) (by omega) hqr' ?_⟩
              have h1 := Int.mul_le_mul_of_nonneg_left (Int.le_of_lt hb2u.2) (show 0 ≤ q - 1 by omega)
              omega
            have hqz : j = m → q - 1 = 0 := fun hjm => kd_zero (by omega) (by omega) (by omega) hqr' (hNy hjm)
            refine wp_exit (thx (bxn rfl (thx (bxe (thn ?_)))))
            replace H : Hd a 201 [_] [(0, _), (2, _), (3, _), (8, _), (9, _), (10, _), (11, _), (12, _), (14, _), (15, _)] := H.pick [0, 2, 3, 8, 9, 10, 11, 12, 14, 15]
            exact ⟨_, H, hK, hqz, rfl⟩
          have hno : (r + y) % 18446744073709551616 = r + y := by have := of_decide_eq_false hb3; omega
          rw [hno] at H
          have hno2 : r + y < 18446744073709551616 := by omega
          refine wp_skip (thn (wp_seq (wp_seq (wp_region_lit (l := [_, _, _]) (wl H (Ez.mv H rfl) rfl (kM rfl rfl (kL (fun a H => Ez.gtr H rfl rfl (rfl)) rfl (kP [(0, _), (2, _), (3, _), (8, _), (9, _), (10, _), (11, _), (12, _), (14, _), (15, _), (16, _), (17, _), (18, _), (19, _), (20, _), (99, _)] rfl (kW ?_))))))))); clear H a; intro a H
          refine wp_cond_split (H.o rfl) (fun hb4 => ?_) (fun hb4 => ?_)
          · have hk := (kd_x hx hx1 hx2 hb2u hq1).1 (of_decide_eq_true hb4)
            refine wp_region_lit (l := [_, _, _]) (wl H (Ez.mv H rfl) rfl (kL (fun a H => Ez.subU H rfl rfl rfl) rfl (kA rfl rfl (kP [(0, _), (2, _), (3, _), (8, _), (9, _), (10, _), (11, _), (12, _), (14, _), (15, _), (16, _), (17, _), (18, _), (19, _), (20, _)] rfl (kW (kR [_, _, _, _] (kM rfl rfl (kM rfl rfl (kL (fun a H => Ez.subU H rfl rfl rfl) rfl (kA rfl rfl (kP [(0, _), (2, _), (3, _), (8, _), (9, _), (10, _), (11, _), (12, _), (14, _), (15, _), (16, _), (17, _), (18, _), (19, _), (20, _)] rfl ?_))))))))))); clear H a; intro a H
            refine wpList_nil ?_
            refine bn (thn ?_)
            replace H : Hd a 201 [_] [(0, _), (2, _), (3, _), (8, _), (9, _), (10, _), (11, _), (12, _), (14, _), (15, _), (16, _), (17, _), (18, _), (19, _), (20, _)] := H.pick [0, 2, 3, 8, 9, 10, 11, 12, 14, 15, 16, 17, 18, 19, 20]
            first
              | exact ⟨(q - 1).toNat, by omega, q - 1, r + y, _, _, rfl, H, ⟨by omega, by omega⟩, ⟨by omega, by omega⟩, hk.1, hk.2.1, by rw [Int.sub_mul]; omega, hk.2.2, by rw [Int.sub_add_cancel]; exact hTs, rfl⟩
          have hk := (kd_x hx hx1 hx2 hb2u hq1).2 (of_decide_eq_false hb4)
          refine wp_skip (thn (wp_region_lit (l := [_, _, _, _]) (wl H (Ez.mv H rfl) rfl (kM rfl rfl (kL (fun a H => Ez.subU H rfl rfl rfl) rfl (kA rfl rfl (kP [(0, _), (2, _), (3, _), (8, _), (9, _), (10, _), (11, _), (12, _), (14, _), (15, _), (16, _), (17, _), (18, _), (19, _), (20, _)] rfl ?_))))))); clear H a; intro a H
          refine wpList_nil ?_
          refine bn (thn ?_)
          replace H : Hd a 201 [_] [(0, _), (2, _), (3, _), (8, _), (9, _), (10, _), (11, _), (12, _), (14, _), (15, _), (16, _), (17, _), (18, _), (19, _), (20, _)] := H.pick [0, 2, 3, 8, 9, 10, 11, 12, 14, 15, 16, 17, 18, 19, 20]
          first
            | exact ⟨(q - 1).toNat, by omega, q - 1, r + y, _, _, rfl, H, ⟨by omega, by omega⟩, ⟨by omega, by omega⟩, hk.1, hk.2.1, by rw [Int.sub_mul]; omega, hk.2.2, by rw [Int.sub_add_cancel]; exact hTs, rfl⟩
        have hle := of_decide_eq_false hb2
        rw [hx] at hle
        unfold U64 at hqu hru
        have hK : KQ T (nv V n) q := ⟨hqu.1, hqu.2, hTq, kd_exit hP (Int.le_of_lt hVp) hVhi hTlo hT0 hqu.1 (by omega) hqr (by omega)⟩
        have hqz : j = m → q = 0 := fun hjm => kd_zero hqu.1 hru.1 (by omega) hqr (hNy hjm)
        refine wp_exit (thx (thx (bxe (thn ?_))))
        replace H : Hd a 201 [_] [(0, _), (2, _), (3, _), (8, _), (9, _), (10, _), (11, _), (12, _), (14, _), (15, _)] := H.pick [0, 2, 3, 8, 9, 10, 11, 12, 14, 15]
        exact ⟨_, H, hK, hqz, rfl⟩
      have hne : u0 = y := by simpa using hb1
      have hK : KQ T (nv V n) 18446744073709551615 := ⟨by decide, by decide, by omega, kd_top hP (B := 18446744073709551616) (by omega) (by omega) hb2u.2 hVhi (X (j + n - 1)) hx1u.1 hx2u.1 (by rw [hne] at hTlo; exact hTlo)⟩
      have hqz : j = m → (18446744073709551615 : Int) = 0 := fun hjm => by have := (hjt hjm).1; omega
      refine wp_skip (thn ?_)
      replace H : Hd a 201 [_] [(0, _), (2, _), (3, _), (8, _), (9, _), (10, _), (11, _), (12, _), (14, _), (15, _)] := H.pick [0, 2, 3, 8, 9, 10, 11, 12, 14, 15]
      exact ⟨_, H, hK, hqz, rfl⟩
    clear H a
    intro a w hJ
    obtain ⟨q, H, hK, hqz, rfl⟩ := hJ
    obtain ⟨hK0, hK1, hK2, hK3⟩ := hK
    refine wp_seq (wp_region_lit (l := [_, _, _, _, _, _, _, _, _, _]) (wl H (Ez.mv H rfl) rfl (kM rfl rfl (kM rfl rfl (kM rfl rfl (kL (fun a H => Ez.slZ80 H rfl rfl rfl n rfl (by omega)) rfl (kM rfl rfl (kM rfl rfl ?_)))))))); clear H a; intro a H
    refine wk H cf138 (mulAddVWW bh 0 ch bv 0 cv n ch' mv Y1 V q 0 wL hD.h hD.v (fun _ => rfl) (by omega) (by omega) (by omega) ⟨hK0, hK1⟩ ⟨by decide, by decide⟩) rfl rfl ?_
    rintro _ w1 ⟨k, Y2, rfl, a1, a2, a3, a4, a5⟩
    refine ⟨_, rfl, ?_⟩; clear H a; intro a H
    have hD := hD.wh a1 a5
    refine wl H (Ez.ix80 H rfl rfl n rfl (by omega)) rfl ?_; clear H a; intro a H
    refine wls H (Ez.st103 H rfl rfl rfl (hD.h.cell (by omega)) (hD.h.fz _)) ?_; clear H; intro H
    refine kP [(0, _), (2, _), (3, _), (8, _), (9, _), (10, _), (11, _), (12, _), (14, _), (15, _)] rfl (kW ?_) a H; clear H a; intro a H
    have hD := hD.wh (hD.h.set (j := 0 + n) (by omega) a4) (Fr.bl _)
    obtain ⟨Y3, hY3⟩ : ∃ Y3, Y3 = up Y2 (0 + n) k := ⟨_, rfl⟩
    rw [← hY3] at hD
    have hY3v : nvo Y3 0 (n + 1) = nv V n * q := by
      rw [hY3, nvo_succ, nvo_up_ge _ _ _ _ _ (Nat.le_refl _), up_eq, a3, nvo_zero]; simp
    have hY3k : Y3 (0 + n) = k := by rw [hY3, up_eq]
    have hY3k0 : j = m → k = 0 := fun hjm => by
      have e : nvo Y3 0 (n + 1) = 0 := by rw [hY3v, hqz hjm]; simp
      rw [nvo_succ, hY3k] at e
      have h1 := nvo_nonneg (X := Y3) (o := 0) (n := n) (fun i hi => hD.h.u _ (by omega))
      have h2 := a4.1
      by_cases h3 : k = 0
      · exact h3
      have := Int.mul_le_mul_of_nonneg_right (show 1 ≤ k by omega) (Int.le_of_lt (BBn_pos n))
      have := BBn_pos n
      omega
    clear hY3 a1 a2 a3 a5
    generalize w1.setCell ⟨bh, 0 + n, none⟩ (.int .u64 k) = w2 at hD
    refine wp_seq (wp_region_lit (l := [_, _, _]) (wl H (Ez.mv H rfl) rfl (kL (fun a H => Ez.len80 H rfl) rfl (kA rfl rfl (kP [(0, _), (2, _), (3, _), (8, _), (9, _), (10, _), (11, _), (12, _), (14, _), (15, _), (21, _)] rfl (kW ?_)))))); clear H a; intro a H
    refine wp_cut (fun a w => ∃ rr : Nat, Hd a 201 [⟨.fn (.func 130) #[], #[.pointer (some ⟨bs, 0, none⟩), .int .i64 0]⟩] [(0, .slice (some ⟨bq, 0, none⟩) m cq), (2, .slice (some ⟨bu, 0, none⟩) (m + n) cu), (3, .slice (some ⟨bv, 0, none⟩) n mv), (8, .int .i64 n), (9, .int .i64 m), (10, .slice (some ⟨bh, 0, none⟩) (n + 1) ch'), (11, .int .u64 y), (12, .int .u64 rm), (14, .int .i64 (j : Int)), (15, .int .u64 q), (21, .int .i64 rr)] ∧ ((j < m ∧ rr = n + 1) ∨ (j = m ∧ rr = n)) ∧ nvo Y3 0 rr = nv V n * q ∧ DS w0 bq bu bv bh bs cq cu cv ch V w Q1 X Y3) ?_ ?_
    · refine wp_seq ?_
      rcases Nat.lt_or_ge j m with hjm | hjm
      · refine wp_region_lit (l := [_, _, _, _, _, _, _, _, _, _, _, _, _]) (wl H (Ez.mv H rfl) rfl (kM rfl rfl (kL (fun a H => Ez.addI (r := ((j + (n + 1) : Nat) : Int)) H rfl rfl (by omega) (by omega)) rfl (kM rfl rfl (kL (fun a H => Ez.len80 H rfl) rfl (kL (fun a H => Ez.gtr (r := false) H rfl rfl (by (simp; omega))) rfl (kM rfl rfl (kX rfl rfl rfl rfl rfl (kX rfl rfl rfl rfl rfl (kX rfl rfl rfl rfl rfl (kX rfl rfl rfl rfl rfl (kX rfl rfl rfl rfl rfl (kL (fun a H => Ez.pkF H rfl rfl) rfl (kP [(0, _), (2, _), (3, _), (8, _), (9, _), (10, _), (11, _), (12, _), (14, _), (15, _), (21, _), (128, _)] rfl (kW ?_))))))))))))))); clear H a; intro a H
        refine wp_cond_false (H.o rfl) (wp_skip (thn ?_))
        replace H : Hd a 201 [_] [(0, _), (2, _), (3, _), (8, _), (9, _), (10, _), (11, _), (12, _), (14, _), (15, _), (21, _)] := H.pick [0, 2, 3, 8, 9, 10, 11, 12, 14, 15, 21]
        first
          | exact ⟨n + 1, H, .inl ⟨hjm, rfl⟩, hY3v, hD⟩
          | exact ⟨n, H, .inr ⟨hjm, rfl⟩, by rw [nvo_succ, hY3k, hk0] at hY3v; simpa using hY3v, hD⟩
      have hjm : j = m := by omega
      have hk0 := hY3k0 hjm
      refine wp_region_lit (l := [_, _, _, _, _, _, _, _, _, _, _, _, _]) (wl H (Ez.mv H rfl) rfl (kM rfl rfl (kL (fun a H => Ez.addI (r := ((j + (n + 1) : Nat) : Int)) H rfl rfl (by omega) (by omega)) rfl (kM rfl rfl (kL (fun a H => Ez.len80 H rfl) rfl (kL (fun a H => Ez.gtr (r := true) H rfl rfl (by (simp; omega))) rfl (kM rfl rfl (kG (fun a H => Ez.mv H rfl) rfl rfl rfl rfl rfl (kG (fun a H => Ez.mv H rfl) rfl rfl rfl rfl rfl (kG (fun a H => Ez.ix80 H rfl rfl n rfl (by omega)) rfl rfl rfl rfl rfl (kG (fun a H => Ez.ld103 H rfl (hD.h.cell (j := 0 + n) (by omega))) rfl rfl rfl rfl rfl (kG (fun a H => Ez.eql (r := true) H rfl rfl (by (have e := hY3k; rw [Nat.zero_add] at e; simp; rw [e]; exact hk0))) rfl rfl rfl rfl rfl (kL (fun a H => Ez.pkT H rfl rfl) rfl (kP [(0, _), (2, _), (3, _), (8, _), (9, _), (10, _), (11, _), (12, _), (14, _), (15, _), (21, _), (128, _)] rfl (kW ?_))))))))))))))); clear H a; intro a H
      refine wp_cond_true (H.o rfl) (wp_region_lit (l := [_, _, _]) (wl H (Ez.mv H rfl) rfl (kL (fun a H => Ez.subI (r := (n : Int)) H rfl rfl (by omega) (by omega)) rfl (kA rfl rfl (kP [(0, _), (2, _), (3, _), (8, _), (9, _), (10, _), (11, _), (12, _), (14, _), (15, _), (21, _)] rfl (kW (kP [(0, _), (2, _), (3, _), (8, _), (9, _), (10, _), (11, _), (12, _), (14, _), (15, _), (21, _)] rfl ?_))))))); clear H a; intro a H
      first
        | exact ⟨n + 1, H, .inl ⟨hjm, rfl⟩, hY3v, hD⟩
        | exact ⟨n, H, .inr ⟨hjm, rfl⟩, by rw [nvo_succ, hY3k, hk0] at hY3v; simpa using hY3v, hD⟩
    clear H a
    intro a w hJ
    obtain ⟨rr, H, hrr, hYv, hD⟩ := hJ
    obtain ⟨hTe, hup⟩ := hTr rr hrr
    clear hY3v hY3k
    refine wp_seq ?_
    refine regionT [_, _, _, _, _, _, _, _, _, _, _, _, _, _, _] [_, _] follows_mixed (by kernel_rfl) ?_
    intro w1 hw
    have hD := hD.cd hw
    refine wst H (Ez.mv H rfl) rfl (iL (fun a H => Ez.mv H rfl) rfl (iL (fun a H => Ez.mv H rfl) rfl (iL (fun a H => Ez.mv H rfl) rfl (iL (fun a H => Ez.addI (r := ((j + rr : Nat) : Int)) H rfl rfl (by omega) (by omega)) rfl (iL (fun a H => Ez.slLH80 H rfl rfl rfl j (j + rr) rfl rfl (by omega) (by omega) (0 + j) rr (cu - j) (if_pos (by omega)) (by omega) rfl) rfl (iL (fun a H => Ez.mv H rfl) rfl (iL (fun a H => Ez.mv H rfl) rfl (iL (fun a H => Ez.mv H rfl) rfl (iL (fun a H => Ez.mv H rfl) rfl (iL (fun a H => Ez.addI (r := ((j + rr : Nat) : Int)) H rfl rfl (by omega) (by omega)) rfl (iL (fun a H => Ez.slLH80 H rfl rfl rfl j (j + rr) rfl rfl (by omega) (by omega) (0 + j) rr (cu - j) (if_pos (by omega)) (by omega) rfl) rfl (iL (fun a H => Ez.mv H rfl) rfl (iL (fun a H => Ez.mv H rfl) rfl (iL (fun a H => Ez.slH80 H rfl rfl rr rfl (by omega)) rfl ?_)))))))))))))); clear H a; intro a H
    refine wste ?_
    refine wk H cf111 (subVV bu (0 + j) cu bu (0 + j) cu bh 0 ch rr (cu - j) (cu - j) ch' X X Y3 w1 hD.u hD.u hD.h (fun _ => rfl) (fun e => absurd e.symm hD.nuh) (by omega) (by omega) (by omega) (by omega)) rfl rfl ?_
    rintro _ w1 ⟨c, X2, rfl, a1, a2, a3, a4, a5⟩
    refine ⟨_, rfl, ?_⟩; clear H a; intro a H
    have hD := hD.wu a1 a5
    clear a1 a5
    rw [Nat.zero_add] at a2 a3
    rw [hYv, ← hTe] at a3
    have hlo := nvo_nonneg (X := X2) (o := j) (n := rr) (fun i hi => hD.u.u _ (by omega))
    have hhi := nvo_lt (X := X2) (o := j) (n := rr) (fun i hi => hD.u.u _ (by omega))
    have hcv : q * nv V n = nv V n * q := Int.mul_comm _ _
    have hK2' : T < nv V n * q + nv V n := by rw [Int.add_mul, Int.one_mul] at hK2; omega
    have hK3' : nv V n * q - nv V n ≤ T := by rw [Int.sub_mul, Int.one_mul] at hK3; omega
    refine wl H (Ez.asn H rfl) rfl (kP [(0, _), (2, _), (3, _), (8, _), (9, _), (10, _), (11, _), (12, _), (14, _), (15, _), (21, _), (22, _)] rfl (kW ?_)); clear H a; intro a H
    refine wp_cut (fun a w => ∃ (q2 : Int) (X4 : Nat → Int), Hd a 201 [⟨.fn (.func 130) #[], #[.pointer (some ⟨bs, 0, none⟩), .int .i64 0]⟩] [(0, .slice (some ⟨bq, 0, none⟩) m cq), (2, .slice (some ⟨bu, 0, none⟩) (m + n) cu), (3, .slice (some ⟨bv, 0, none⟩) n mv), (8, .int .i64 n), (9, .int .i64 m), (10, .slice (some ⟨bh, 0, none⟩) (n + 1) ch'), (11, .int .u64 y), (12, .int .u64 rm), (14, .int .i64 (j : Int)), (15, .int .u64 q2)] ∧ DS w0 bq bu bv bh bs cq cu cv ch V w Q1 X4 Y3 ∧ U64 q2 ∧ nvo X4 j rr = T - q2 * nv V n ∧ nvo X4 j rr < nv V n ∧ (∀ k, k < j ∨ j + rr ≤ k → X4 k = X k) ∧ (j = m → q2 = 0)) ?_ ?_
    · refine wp_seq (wp_region_lit (l := [_, _]) (wl H (Ez.mv H rfl) rfl (kL (fun a H => Ez.neq H rfl rfl (rfl)) rfl (kP [(0, _), (2, _), (3, _), (8, _), (9, _), (10, _), (11, _), (12, _), (14, _), (15, _), (21, _), (148, _)] rfl (kW ?_))))); clear H a; intro a H
      refine wp_cond_split (H.o rfl) (fun hb6 => ?_) (fun hb6 => ?_)
      · have hc1 : c = 1 := by have : c ≠ 0 := by simpa using hb6
                               omega
        rw [hc1, Int.one_mul] at a3
        have hTlt : T < nv V n * q := by omega
        have hjm : j < m := by
          rcases hrr with h | h
          · exact h.1
          exfalso
          rw [hqz h.1] at hTlt
          simp at hTlt
          omega
        have hrn : rr = n + 1 := by omega
        have hq1 : 1 ≤ q := by
          by_cases h0 : 1 ≤ q
          · exact h0
          exfalso
          have : q = 0 := by omega
          rw [this] at hTlt
          simp at hTlt
          omega
        refine wp_seq ?_
        have hX2u : ∀ k, k < m + n → U64 (X2 k) := fun k hk => hD.u.u k (by omega)
        refine regionT [_, _, _, _, _, _, _, _, _, _, _, _, _] [_, _] follows_mixed (by kernel_rfl) ?_
        intro w1 hw
        have hD := hD.cd hw
        refine wst H (Ez.mv H rfl) rfl (iL (fun a H => Ez.mv H rfl) rfl (iL (fun a H => Ez.mv H rfl) rfl (iL (fun a H => Ez.mv H rfl) rfl (iL (fun a H => Ez.addI (r := ((j + n : Nat) : Int)) H rfl rfl (by omega) (by omega)) rfl (iL (fun a H => Ez.slLH80 H rfl rfl rfl j (j + n) rfl rfl (by omega) (by omega) (0 + j) n (cu - j) (if_pos (by omega)) (by omega) rfl) rfl (iL (fun a H => Ez.mv H rfl) rfl (iL (fun a H => Ez.mv H rfl) rfl (iL (fun a H => Ez.mv H rfl) rfl (iL (fun a H => Ez.mv H rfl) rfl (iL (fun a H => Ez.addI (r := ((j + n : Nat) : Int)) H rfl rfl (by omega) (by omega)) rfl (iL (fun a H => Ez.slLH80 H rfl rfl rfl j (j + n) rfl rfl (by omega) (by omega) (0 + j) n (cu - j) (if_pos (by omega)) (by omega) rfl) rfl (iL (fun a H => Ez.mv H rfl) rfl ?_)))))))))))); clear H a; intro a H
        refine wste ?_
        refine wk H cf109 (addVV bu (0 + j) cu bu (0 + j) cu bv 0 cv n (cu - j) (cu - j) mv X2 X2 V w1 hD.u hD.u hD.v (fun _ => rfl) (fun e => absurd e.symm hD.nuv) (by omega) (by omega) (by omega) (by omega)) rfl rfl ?_
        rintro _ w1 ⟨c2, X3, rfl, b1, b2, b3, b4, b5⟩
        refine ⟨_, rfl, ?_⟩; clear H a; intro a H
        have hD := hD.wu b1 b5
        clear b1 b5
        rw [Nat.zero_add, nvo_zero V] at b3
        rw [Nat.zero_add] at b2
        refine wl H (Ez.asn H rfl) rfl (kP [(0, _), (2, _), (3, _), (8, _), (9, _), (10, _), (11, _), (12, _), (14, _), (15, _), (21, _), (23, _)] rfl (kW (kS (kS (kR [_, _, _] (kM rfl rfl (kM rfl rfl (kL (fun a H => Ez.lss (r := true) H rfl rfl (by (simp; omega))) rfl (kP [(0, _), (2, _), (3, _), (8, _), (9, _), (10, _), (11, _), (12, _), (14, _), (15, _), (23, _), (165, _)] rfl (kW ?_)))))))))); clear H a; intro a H
        refine wp_cond_true (H.o rfl) (wp_region_lit (l := [_, _, _, _, _, _, _, _, _, _]) (wl H (Ez.mv H rfl) rfl (kM rfl rfl (kM rfl rfl (kL (fun a H => Ez.addI (r := ((j + n : Nat) : Int)) H rfl rfl (by omega) (by omega)) rfl (kL (fun a H => Ez.ix80 H rfl rfl (j + n) rfl (by omega)) rfl (kL (fun a H => Ez.ld103 H rfl ((hD.u.cell (j := 0 + (j + n)) (by omega)))) rfl (kM rfl rfl (kL (fun a H => Ez.addU H rfl rfl rfl) rfl (kL (fun a H => Ez.ix80 H rfl rfl (j + n) rfl (by omega)) rfl ?_)))))))))); clear H a; intro a H
        refine wls H (Ez.st103 H rfl rfl rfl (hD.u.cell (j := 0 + (j + n)) (by omega)) (hD.u.fz _)) ?_; clear H; intro H
        refine kP [(0, _), (2, _), (3, _), (8, _), (9, _), (10, _), (11, _), (12, _), (14, _), (15, _)] rfl (kW ?_) a H; clear H a; intro a H
        have hD := hD.wu (hD.u.set (j := 0 + (j + n)) (v := (X3 (0 + (j + n)) + c2) % 18446744073709551616) (by omega) ⟨by omega, by omega⟩) (Fr.bl _)
        obtain ⟨X4, hX4⟩ : ∃ X4, X4 = up X3 (0 + (j + n)) ((X3 (0 + (j + n)) + c2) % 18446744073709551616) := ⟨_, rfl⟩
        rw [← hX4] at hD
        generalize w1.setCell ⟨bu, 0 + (j + n), none⟩ (.int .u64 ((X3 (0 + (j + n)) + c2) % 18446744073709551616)) = w2 at hD
        rw [Nat.zero_add] at hX4
        have hf1 : U64 (q - 1) := ⟨by omega, by omega⟩
        have hf4 : ∀ k, k < j ∨ j + rr ≤ k → X4 k = X k := fun k hk => by rw [hX4, up_ne (by omega), b2 k (by omega), a2 k hk]
        have hf5 : j = m → q - 1 = 0 := fun h => by omega
        have hf2 : nvo X4 j rr = T - (q - 1) * nv V n := by
          have e1 : X3 (j + n) = X2 (j + n) := b2 _ (by omega)
          have e2 : nvo X4 j rr = nvo X3 j n + (X2 (j + n) + c2) % 18446744073709551616 * BB ^ n := by
            rw [hrn, nvo_succ, hX4, up_eq, e1, nvo_up_ge _ _ _ _ _ (Nat.le_refl _)]
          rw [hrn] at a3
          rw [nvo_succ] at a3
          have e3 : BB ^ (n + 1) = 18446744073709551616 * BB ^ n := by rw [Int.pow_succ, Int.mul_comm]; rfl
          rw [e3] at a3
          have h1 := nvo_nonneg (X := X3) (o := j) (n := n) (fun i hi => by have := b2; exact (hD.u.u (j + i) (by omega) |> fun hh => by rw [hX4, up_ne (by omega)] at hh; exact hh))
          have h2 := nvo_lt (X := X3) (o := j) (n := n) (fun i hi => by exact (hD.u.u (j + i) (by omega) |> fun hh => by rw [hX4, up_ne (by omega)] at hh; exact hh))
          have hxu : U64 (X2 (j + n)) := hX2u (j + n) (by omega)
          unfold U64 at hxu
          have hP := BBn_pos n
          have e4 : (X2 (j + n) + c2) * BB ^ n = X2 (j + n) * BB ^ n + c2 * BB ^ n := Int.add_mul _ _ _
          have h3 : 18446744073709551616 ≤ X2 (j + n) + c2 := by
            by_cases h : 18446744073709551616 ≤ X2 (j + n) + c2
            · exact h
            exfalso
            have := Int.mul_le_mul_of_nonneg_right (show X2 (j + n) + c2 + 1 ≤ 18446744073709551616 by omega) (Int.le_of_lt hP)
            rw [Int.add_mul, Int.one_mul, e4] at this
            omega
          have h4 : (X2 (j + n) + c2) % 18446744073709551616 = X2 (j + n) + c2 - 18446744073709551616 := by omega
          have e5 : (q - 1) * nv V n = nv V n * q - nv V n := by rw [Int.sub_mul, Int.one_mul]; omega
          rw [e2, h4, Int.sub_mul, e4, e5]
          omega
        have hf3 : nvo X4 j rr < nv V n := by
          rw [hf2, Int.sub_mul, Int.one_mul]; omega
        refine wp_region_lit (l := [_, _, _]) (wl H (Ez.mv H rfl) rfl (kL (fun a H => Ez.subU (r := (q - 1)) H rfl rfl (by omega)) rfl (kA rfl rfl (kP [(0, _), (2, _), (3, _), (8, _), (9, _), (10, _), (11, _), (12, _), (14, _), (15, _)] rfl (kW (kP [(0, _), (2, _), (3, _), (8, _), (9, _), (10, _), (11, _), (12, _), (14, _), (15, _)] rfl ?_)))))); clear H a; intro a H
        exact ⟨_, _, H, hD, hf1, hf2, hf3, hf4, hf5⟩
      have hc0 : c = 0 := by simpa using hb6
      rw [hc0] at a3
      simp only [Int.zero_mul, Int.sub_zero] at a3
      have hf1 : U64 q := ⟨hK0, hK1⟩
      have hf2 : nvo X2 j rr = T - q * nv V n := by omega
      have hf3 : nvo X2 j rr < nv V n := by omega
      have hf4 : ∀ k, k < j ∨ j + rr ≤ k → X2 k = X k := a2
      have hf5 := hqz
      refine wp_skip (thn ?_)
      replace H : Hd a 201 [_] [(0, _), (2, _), (3, _), (8, _), (9, _), (10, _), (11, _), (12, _), (14, _), (15, _)] := H.pick [0, 2, 3, 8, 9, 10, 11, 12, 14, 15]
      exact ⟨_, _, H, hD, hf1, hf2, hf3, hf4, hf5⟩
    clear H a
    intro a w hJ
    clear a2 a3 a4 hlo hhi
    obtain ⟨q2, X4, H, hD, hf1, hf2, hf3, hf4, hf5⟩ := hJ
    refine wp_seq (wp_region_lit (l := [_, _, _, _, _, _, _, _]) (wl H (Ez.mv H rfl) rfl (kM rfl rfl (kM rfl rfl (kL (fun a H => Ez.addI (r := ((j + n : Nat) : Int)) H rfl rfl (by omega) (by omega)) rfl (kL (fun a H => Ez.subI (r := ((j + n - 1 : Nat) : Int)) H rfl rfl (by omega) (by omega)) rfl (kL (fun a H => Ez.ix80 H rfl rfl (j + n - 1) rfl (by omega)) rfl (kL (fun a H => Ez.ld103 H rfl ((by rw [Nat.zero_add]; exact hD.u.cell (by omega)))) rfl (kA rfl rfl (kP [(0, _), (2, _), (3, _), (8, _), (9, _), (10, _), (11, _), (12, _), (13, _), (14, _), (15, _)] rfl (kW (kS (kS ?_))))))))))))); clear H a; intro a H
    rcases Nat.lt_or_ge j m with hjm | hjm
    · refine wp_region_lit (l := [_, _, _, _, _, _, _, _, _, _, _, _, _]) (wl H (Ez.mv H rfl) rfl (kM rfl rfl (kL (fun a H => Ez.eql (r := false) H rfl rfl (by (simp; omega))) rfl (kM rfl rfl (kX rfl rfl rfl rfl rfl (kX rfl rfl rfl rfl rfl (kX rfl rfl rfl rfl rfl (kX rfl rfl rfl rfl rfl (kL (fun a H => Ez.pkF H rfl rfl) rfl (kM rfl rfl (kX rfl rfl rfl rfl rfl (kX rfl rfl rfl rfl rfl (kL (fun a H => Ez.pkF H rfl rfl) rfl (kP [(0, _), (2, _), (3, _), (8, _), (9, _), (10, _), (11, _), (12, _), (13, _), (14, _), (15, _), (196, _)] rfl (kW ?_))))))))))))))); clear H a; intro a H
      refine wp_cond_false (H.o rfl) (wp_skip (thn (wp_region_lit (l := [_, _, _, _, _]) (wl H (Ez.mv H rfl) rfl (kM rfl rfl (kM rfl rfl (kL (fun a H => Ez.ix80 H rfl rfl j rfl (by omega)) rfl ?_))))))); clear H a; intro a H
      refine wls H (Ez.st103 H rfl rfl rfl (hD.q.cell (by omega)) (hD.q.fz _)) ?_; clear H; intro H
      replace H : Hd a 201 [_] [(0, _), (2, _), (3, _), (8, _), (9, _), (10, _), (11, _), (12, _), (13, _), (14, _)] := H.pick [0, 2, 3, 8, 9, 10, 11, 12, 13, 14]
      refine wpList_nil ?_
      have hD := hD.wq (hD.q.set (j := 0 + j) (by omega) hf1) (Fr.bl _)
      obtain ⟨hN1, hN2⟩ := kd_next (X4 := X4) (Qn := up Q1 (0 + j) q2) (by omega) hrr hup hTe hf2 hf3 hf4 hsum (.inl ⟨hjm, by rw [Nat.zero_add, up_eq], fun k hk => up_ne (by omega)⟩)
      refine bn (thn (wp_region_lit (l := [_, _, _]) (wl H (Ez.mv H rfl) rfl (kL (fun a H => Ez.subI H rfl rfl rfl (by omega)) rfl (kA rfl rfl (kP [(0, _), (2, _), (3, _), (8, _), (9, _), (10, _), (11, _), (12, _), (13, _), (14, _)] rfl (kW (kP [(0, _), (2, _), (3, _), (8, _), (9, _), (10, _), (11, _), (12, _), (13, _), (14, _)] rfl ?_)))))))); clear H a; intro a H
      first
        | exact ⟨j, by omega, j, _, _, _, _, _, rfl, by omega, H, by omega, hD, .inr ⟨by omega, fun h1 => by rw [show j + n - 1 = j - 1 + n by omega]⟩, hN1, hN2⟩
    have hjm : j = m := by omega
    have hq2 := hf5 hjm
    refine wp_region_lit (l := [_, _, _, _, _, _, _, _, _, _, _, _, _]) (wl H (Ez.mv H rfl) rfl (kM rfl rfl (kL (fun a H => Ez.eql (r := true) H rfl rfl (by (simp; omega))) rfl (kM rfl rfl (kG (fun a H => Ez.mv H rfl) rfl rfl rfl rfl rfl (kG (fun a H => Ez.mv H rfl) rfl rfl rfl rfl rfl (kG (fun a H => Ez.len80 H rfl) rfl rfl rfl rfl rfl (kG (fun a H => Ez.eql (r := true) H rfl rfl (by simp)) rfl rfl rfl rfl rfl (kL (fun a H => Ez.pkT H rfl rfl) rfl (kM rfl rfl (kG (fun a H => Ez.mv H rfl) rfl rfl rfl rfl rfl (kG (fun a H => Ez.eql (r := true) H rfl rfl (by (simp; exact hq2))) rfl rfl rfl rfl rfl (kL (fun a H => Ez.pkT H rfl rfl) rfl (kP [(0, _), (2, _), (3, _), (8, _), (9, _), (10, _), (11, _), (12, _), (13, _), (14, _), (15, _), (196, _)] rfl (kW ?_))))))))))))))); clear H a; intro a H
    obtain ⟨hN1, hN2⟩ := kd_next (X4 := X4) (Qn := Q1) (by omega) hrr hup hTe hf2 hf3 hf4 hsum (.inr ⟨hjm, hq2⟩)
    refine wp_cond_true (H.o rfl) (wp_exit (thx (bxe (thn (wp_region_lit (l := [_, _, _]) (wl H (Ez.mv H rfl) rfl (kL (fun a H => Ez.subI H rfl rfl rfl (by omega)) rfl (kA rfl rfl (kP [(0, _), (2, _), (3, _), (8, _), (9, _), (10, _), (11, _), (12, _), (13, _), (14, _)] rfl (kW (kP [(0, _), (2, _), (3, _), (8, _), (9, _), (10, _), (11, _), (12, _), (13, _), (14, _)] rfl ?_))))))))))); clear H a; intro a H
    first
      | exact ⟨j, by omega, j, _, _, _, _, _, rfl, by omega, H, by omega, hD, .inr ⟨by omega, fun h1 => by rw [show j + n - 1 = j - 1 + n by omega]⟩, hN1, hN2⟩
  have hi0 : i = 0 := by have := of_decide_eq_false hb0; omega
  subst hi0
  refine wp_exit (thx (thx (bxe ?_)))
  refine lvn H (leave cf130 (stkRestore bs w0.heap.size wL hD.s) ?_)
  rintro w' ⟨hS', hF', _⟩
  refine lv0 H rfl ⟨Q1, X, rfl, hD.q.fr hF' (fun _ e => by have := hq.lt; exact absurd e (by unfold Hi; omega)), hD.u.fr hF' (fun _ e => by have := hu.lt; exact absurd e (by unfold Hi; omega)), ?_, ?_, hS', hD.f.hi hF'⟩
  · rw [← hsum, nvo_zero]; simp
  rw [nvo_zero] at hR; exact hR
end
end Go.Proofs.YtijgloklmiokhaaGreatDoor
