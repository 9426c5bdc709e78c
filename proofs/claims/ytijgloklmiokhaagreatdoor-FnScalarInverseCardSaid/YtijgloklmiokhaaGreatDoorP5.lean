/-
Part 5 of 6 of the proof; what is proved stands in the last part.
-/
import Derived.Test.YtijgloklmiokhaaGreatDoorP4
set_option linter.unusedSimpArgs false
set_option linter.unusedVariables false
namespace Go.Proofs.YtijgloklmiokhaaGreatDoor
open Go.RowKit
section
variable {ρ : Operand → Value} {w : World} {d : Option Nat} {ty : TypeId} {pos : String} {after : Array Edge} {g : Option (Nat × Bool)}
theorem exAdd {x y : Operand} {n m : Int} (h : ρ x = .int .u64 n) (h' : ρ y = .int .u64 m) (h0 : 0 ≤ n + m) (h1 : n + m < 18446744073709551616) : (execOp ρ ⟨d, .binOp .add 28 x y 28, ty, pos, after, g⟩).run Tryz.prog w = .ok (.value (.int .u64 (n + m))) w := by
  have e : IntKind.u64.wrap (n + m) = n + m := by rw [wrapU64]; exact Int.emod_eq_of_lt h0 h1
  simp only [execOp, h, h']; go_simp
theorem exAdd32 {x y : Operand} {n m : Int} (h : ρ x = .int .u32 n) (h' : ρ y = .int .u32 m) (h0 : 0 ≤ n + m) (h1 : n + m < 4294967296) : (execOp ρ ⟨d, .binOp .add 33 x y 33, ty, pos, after, g⟩).run Tryz.prog w = .ok (.value (.int .u32 (n + m))) w := by
  have e : IntKind.u32.wrap (n + m) = n + m := by rw [wrapU32]; exact Int.emod_eq_of_lt h0 h1
  simp only [execOp, h, h']; go_simp
theorem exShr32 {x : Operand} {n : Int} (h : ρ x = .int .u64 n) (hc : ρ (.const (.int .u64 32)) = .int .u64 32) (h0 : 0 ≤ n) (h1 : n < 18446744073709551616) : (execOp ρ ⟨d, .binOp .shr 28 x (.const (.int .u64 32)) 54, ty, pos, after, g⟩).run Tryz.prog w = .ok (.value (.int .u64 (n / 4294967296))) w := by
  have e : IntKind.u64.wrap (n / 4294967296) = n / 4294967296 := by rw [wrapU64]; omega
  simp only [execOp, h, hc]; go_simp
theorem exAndM {x : Operand} {n : Int} (h : ρ x = .int .u64 n) (hc : ρ (.const (.int .u64 4294967295)) = .int .u64 4294967295) (h0 : 0 ≤ n) (h1 : n < 18446744073709551616) : (execOp ρ ⟨d, .binOp .and 28 x (.const (.int .u64 4294967295)) 28, ty, pos, after, g⟩).run Tryz.prog w = .ok (.value (.int .u64 (n % 4294967296))) w := by
  rw [← and_low' n h0 h1]
  simp only [execOp, h, hc]; go_simp
end
section
variable {lo hi gs g : Nat} {a0 : Act} {w0 : World} {V : Nat → Int} {A : Int} {n s id src : Nat} {a : Act} {w : World} {Q : Exit → Act → World → Prop} {pos : String}
def setOps (s gs src : Nat) (pos : String) : List Oper :=
  [⟨some s, .move (.tmp src), 28, pos, #[], none⟩,
   ⟨some (s + 1), .convert 28 33 (.tmp s), 33, pos, #[⟨0, .data⟩], none⟩,
   ⟨some (s + 2), .fieldAddr 75 (.tmp gs) 0, 0, pos, #[], none⟩,
   ⟨some (s + 3), .indexAddr 73 (.tmp (s + 2)) (.const (.int .i64 (0 : Nat))), 0, pos, #[⟨2, .data⟩, ⟨0, .phase⟩, ⟨1, .phase⟩], none⟩,
   ⟨none, .store 33 (.tmp (s + 3)) (.tmp (s + 1)), 0, pos, #[⟨3, .data⟩, ⟨1, .data⟩, ⟨0, .phase⟩, ⟨1, .phase⟩], none⟩]
end
section
variable {lo hi gs g : Nat} {a0 : Act} {w0 : World} {V : Nat → Int} {A : Int} {n s id src : Nat} {a : Act} {w : World} {Q : Exit → Act → World → Prop} {pos : String}
theorem set_region (h : AM lo hi gs g a0 w0 V 0 n a w) (hs : lo ≤ s ∧ hi ≤ s ∧ gs < s) (hz : s + 4 ≤ a.tmps.size) (hk : lo ≤ src ∧ src < hi)
    (k : ∀ a' w', AM lo hi gs g a0 w0 V (V src) 1 a' w' → a'.tmps.size = a.tmps.size → Q .normal a' w') : Code.wp Tryz.prog (.region id (setOps s gs src pos).toArray false) Q a w := by
  obtain ⟨n0, n1, n2, hA, HX⟩ := h.acc
  obtain ⟨e, u⟩ := h.v src hk.1 hk.2
  have q := Past.refl a s
  refine wp_region_lit (l := setOps s gs src pos) ?_
  change wpList _ _ _ [_, _, _, _, _] _ _
  refine wlPut (exMove e) (by omega) ?_
  intro a1 p1
  replace q := q.put p1 (by omega)
  refine wlPut (exConvDown p1.v u) (by have := q.z; omega) ?_
  intro a2 p2
  have q1 := q
  replace q := q.put p2 (by omega)
  refine wlPut (exField75 ((q.n gs (by omega)).trans h.gp)) (by have := q.z; omega) ?_
  intro a3 p3
  replace q := q.put p3 (by omega)
  refine wlPut (exIndex73 p3.v rfl (by decide)) (by have := q.z; omega) ?_
  intro a4 p4
  replace q := q.put p4 (by omega)
  refine wlSkip (exStore33 p4.v ((p4.n _ (by omega)).trans ((p3.n _ (by omega)).trans p2.v)) hA.1 h.fz.1) ?_
  refine wpList_nil (k _ _ (h.next q hs ⟨V src, n1, n2, hA.set0 _ u, ?_⟩ ((Fr.refl _ _).setCell (b := g) (o := 0) (fun _ => ⟨rfl, by omega, by omega⟩) _) u.1 (by have := u.2; omega)) q.z)
  have := hA.2.2.2; unfold U32 at this; omega
end
def val13 (v1 v2 v3 v4 v5 v6 v7 v8 v9 v10 v11 v12 v13 : Int) : Int := v1 + 4294967296 * v2 + 18446744073709551616 * v3 + 79228162514264337593543950336 * v4 + 340282366920938463463374607431768211456 * v5 + 1461501637330902918203684832716283019655932542976 * v6 + 6277101735386680763835789423207666416102355444464034512896 * v7 + 26959946667150639794667015087019630673637144422540572481103610249216 * v8 + 115792089237316195423570985008687907853269984665640564039457584007913129639936 * v9 + 497323236409786642155382248146820840100456150797347717440463976893159497012533375533056 * v10 + 2135987035920910082395021706169552114602704522356652769947041607822219725780640550022962086936576 * v11 + 9173994463960286046443283581208347763186259956673124494950355357547691504353939232280074212440502746218496 * v12 + 39402006196394479212279040100143613805079739270465446667948293404245721771497210611414266254884915640806627990306816 * v13
def V13 (v1 v2 v3 v4 v5 v6 v7 v8 v9 v10 v11 v12 v13 : Int) (k : Nat) : Int := match k with | 1 => v1 | 2 => v2 | 3 => v3 | 4 => v4 | 5 => v5 | 6 => v6 | 7 => v7 | 8 => v8 | 9 => v9 | 10 => v10 | 11 => v11 | 12 => v12 | 13 => v13 | _ => 0
theorem arith385 {v1 v2 v3 v4 v5 v6 v7 v8 v9 v10 v11 v12 v13 A1 A2 A3 A4 A5 A6 A7 A8 A9 c0 c1 c2 c3 c4 c5 c6 c7 : Int} (u1 : U32 v1) (u2 : U32 v2) (u3 : U32 v3) (u4 : U32 v4) (u5 : U32 v5) (u6 : U32 v6) (u7 : U32 v7) (u8 : U32 v8) (u9 : U32 v9) (u10 : U32 v10) (u11 : U32 v11) (u12 : U32 v12) (u13 : U32 v13) (hv : v13 ≤ 3) (h1 : A1 = v1 + v9 * 801750719) (h2 : A2 = A1 / 4294967296 + v2 + v9 * 1076732275 + v10 * 801750719) (h3 : A3 = A2 / 4294967296 + v3 + v9 * 1354194884 + v10 * 1076732275 + v11 * 801750719) (h4 : A4 = A3 / 4294967296 + v4 + v9 * 1162945305 + v10 * 1354194884 + v11 * 1076732275 + v12 * 801750719) (h5 : A5 = A4 / 4294967296 + v5 + v9 + v10 * 1162945305 + v11 * 1354194884 + v12 * 1076732275 + v13 * 801750719) (h6 : A6 = A5 / 4294967296 + v6 + v10 + v11 * 1162945305 + v12 * 1354194884 + v13 * 1076732275) (h7 : A7 = A6 / 4294967296 + v7 + v11 + v12 * 1162945305 + v13 * 1354194884) (h8 : A8 = A7 / 4294967296 + v8 + v12 + v13 * 1162945305) (h9 : A9 = A8 / 4294967296 + v13) (g0 : c0 = A1 % 4294967296 + A9 % 4294967296 * 801750719) (g1 : c1 = c0 / 4294967296 + A2 % 4294967296 + A9 % 4294967296 * 1076732275) (g2 : c2 = c1 / 4294967296 + A3 % 4294967296 + A9 % 4294967296 * 1354194884) (g3 : c3 = c2 / 4294967296 + A4 % 4294967296 + A9 % 4294967296 * 1162945305) (g4 : c4 = c3 / 4294967296 + A5 % 4294967296 + A9 % 4294967296) (g5 : c5 = c4 / 4294967296 + A6 % 4294967296) (g6 : c6 = c5 / 4294967296 + A7 % 4294967296) (g7 : c7 = c6 / 4294967296 + A8 % 4294967296) :
    (c7 / 4294967296 + ovN (val8 (c0 % 4294967296) (c1 % 4294967296) (c2 % 4294967296) (c3 % 4294967296) (c4 % 4294967296) (c5 % 4294967296) (c6 % 4294967296) (c7 % 4294967296)) = 0 ∨ c7 / 4294967296 + ovN (val8 (c0 % 4294967296) (c1 % 4294967296) (c2 % 4294967296) (c3 % 4294967296) (c4 % 4294967296) (c5 % 4294967296) (c6 % 4294967296) (c7 % 4294967296)) = 1) ∧ 0 ≤ c7 / 4294967296 ∧ c7 / 4294967296 ≤ 1 ∧ A9 % 4294967296 ≤ 9 ∧
    (val8 (c0 % 4294967296) (c1 % 4294967296) (c2 % 4294967296) (c3 % 4294967296) (c4 % 4294967296) (c5 % 4294967296) (c6 % 4294967296) (c7 % 4294967296) + (c7 / 4294967296 + ovN (val8 (c0 % 4294967296) (c1 % 4294967296) (c2 % 4294967296) (c3 % 4294967296) (c4 % 4294967296) (c5 % 4294967296) (c6 % 4294967296) (c7 % 4294967296))) * 432420386565659656852420866394968145599) % 115792089237316195423570985008687907853269984665640564039457584007913129639936 = val13 v1 v2 v3 v4 v5 v6 v7 v8 v9 v10 v11 v12 v13 % NN := by
  unfold U32 at u1 u2 u3 u4 u5 u6 u7 u8 u9 u10 u11 u12 u13
  obtain ⟨hi, hhi⟩ : ∃ hi, hi = v9 + 4294967296 * v10 + 18446744073709551616 * v11 + 79228162514264337593543950336 * v12 + 340282366920938463463374607431768211456 * v13 := ⟨_, rfl⟩
  obtain ⟨X, hX⟩ : ∃ X, X = val8 (c0 % 4294967296) (c1 % 4294967296) (c2 % 4294967296) (c3 % 4294967296) (c4 % 4294967296) (c5 % 4294967296) (c6 % 4294967296) (c7 % 4294967296) := ⟨_, rfl⟩
  rw [← hX]
  have e1 : A1 % 4294967296 + 4294967296 * (A2 % 4294967296) + 18446744073709551616 * (A3 % 4294967296) + 79228162514264337593543950336 * (A4 % 4294967296) + 340282366920938463463374607431768211456 * (A5 % 4294967296) + 1461501637330902918203684832716283019655932542976 * (A6 % 4294967296) + 6277101735386680763835789423207666416102355444464034512896 * (A7 % 4294967296) + 26959946667150639794667015087019630673637144422540572481103610249216 * (A8 % 4294967296) + 115792089237316195423570985008687907853269984665640564039457584007913129639936 * (A9 % 4294967296) + 497323236409786642155382248146820840100456150797347717440463976893159497012533375533056 * (A9 / 4294967296) = val13 v1 v2 v3 v4 v5 v6 v7 v8 v9 v10 v11 v12 v13 - hi * 115792089237316195423570985008687907852837564279074904382605163141518161494337 := by
    unfold val13; omega
  have e2 : X + 115792089237316195423570985008687907853269984665640564039457584007913129639936 * (c7 / 4294967296) = A1 % 4294967296 + 4294967296 * (A2 % 4294967296) + 18446744073709551616 * (A3 % 4294967296) + 79228162514264337593543950336 * (A4 % 4294967296) + 340282366920938463463374607431768211456 * (A5 % 4294967296) + 1461501637330902918203684832716283019655932542976 * (A6 % 4294967296) + 6277101735386680763835789423207666416102355444464034512896 * (A7 % 4294967296) + 26959946667150639794667015087019630673637144422540572481103610249216 * (A8 % 4294967296) + (A9 % 4294967296) * 432420386565659656852420866394968145599 := by
    unfold val8 at hX; omega
  have b1 : 0 ≤ hi ∧ hi < 1361129467683753853853498429727072845824 := by omega
  have b2 : 0 ≤ val13 v1 v2 v3 v4 v5 v6 v7 v8 v9 v10 v11 v12 v13 - hi * 115792089237316195423570985008687907852837564279074904382605163141518161494337 ∧ val13 v1 v2 v3 v4 v5 v6 v7 v8 v9 v10 v11 v12 v13 - hi * 115792089237316195423570985008687907852837564279074904382605163141518161494337 < 1042128803135845758812138865078191170679429861990765076355118256071218166759424 := by unfold val13; omega
  obtain ⟨Z, hZ⟩ : ∃ Z, Z = val13 v1 v2 v3 v4 v5 v6 v7 v8 v9 v10 v11 v12 v13 := ⟨_, rfl⟩
  rw [← hZ] at e1 b2 ⊢
  obtain ⟨L, hL⟩ : ∃ L, L = A1 % 4294967296 + 4294967296 * (A2 % 4294967296) + 18446744073709551616 * (A3 % 4294967296) + 79228162514264337593543950336 * (A4 % 4294967296) + 340282366920938463463374607431768211456 * (A5 % 4294967296) + 1461501637330902918203684832716283019655932542976 * (A6 % 4294967296) + 6277101735386680763835789423207666416102355444464034512896 * (A7 % 4294967296) + 26959946667150639794667015087019630673637144422540572481103610249216 * (A8 % 4294967296) := ⟨_, rfl⟩
  have b3 : 0 ≤ L ∧ L < 115792089237316195423570985008687907853269984665640564039457584007913129639936 := by omega
  rw [← hL] at e1 e2
  have b4 : 0 ≤ X ∧ X < 115792089237316195423570985008687907853269984665640564039457584007913129639936 := by unfold val8 at hX; omega
  clear hX hL hhi h1 h2 h3 h4 h5 h6 h7 h8 h9 g0 g1 g2 g3 g4 g5 g6 g7 u1 u2 u3 u4 u5 u6 u7 u8 u9 u10 u11 u12 u13
  obtain ⟨r, hr⟩ : ∃ r, r = A9 % 4294967296 := ⟨_, rfl⟩
  obtain ⟨s, hs⟩ : ∃ s, s = A9 / 4294967296 := ⟨_, rfl⟩
  obtain ⟨k, hk⟩ : ∃ k, k = c7 / 4294967296 := ⟨_, rfl⟩
  have b5 : 0 ≤ r ∧ r < 4294967296 := by omega
  rw [← hr, ← hs] at e1
  rw [← hr, ← hk] at e2
  rw [← hr, ← hk]
  clear hr hs hk
  have b6 : s = 0 := by omega
  have b7 : r ≤ 9 := by omega
  have b8 : 0 ≤ k ∧ k ≤ 1 := by omega
  have key : ∀ R, 0 ≤ R → R < NN → (∃ j, Z = R + NN * j) → Z % NN = R := by
    rintro R h0 h1 ⟨j, rfl⟩
    rw [Int.add_mul_emod_self_left, Int.emod_eq_of_lt h0 h1]
  unfold ovN NN at *
  refine ⟨by split <;> omega, b8.1, b8.2, b7, ?_⟩
  split
  · rw [key (X + (k + 1) * 432420386565659656852420866394968145599 - 115792089237316195423570985008687907853269984665640564039457584007913129639936) (by omega) (by omega) ⟨hi + r + 1 - k, by omega⟩]; omega
  rw [key (X + (k + 0) * 432420386565659656852420866394968145599) (by omega) (by omega) ⟨hi + r + k, by omega⟩]; omega
set_option maxRecDepth 100000 in
set_option maxHeartbeats 4000000 in
theorem reduce385 (d q : Nat) (x v1 v2 v3 v4 v5 v6 v7 v8 v9 v10 v11 v12 v13 : Int) (w : World) (hS : Sc w d q x) (hf : F8 w d q) (u1 : U32 v1) (u2 : U32 v2) (u3 : U32 v3) (u4 : U32 v4) (u5 : U32 v5) (u6 : U32 v6) (u7 : U32 v7) (u8 : U32 v8) (u9 : U32 v9) (u10 : U32 v10) (u11 : U32 v11) (u12 : U32 v12) (u13 : U32 v13) (hv : v13 ≤ 3) :
    Calls Tryz.prog 68 #[.pointer (some ⟨d, q, none⟩), .int .u64 v1, .int .u64 v2, .int .u64 v3, .int .u64 v4, .int .u64 v5, .int .u64 v6, .int .u64 v7, .int .u64 v8, .int .u64 v9, .int .u64 v10, .int .u64 v11, .int .u64 v12, .int .u64 v13] w fun e w' => e = .returned (.tuple #[]) ∧ Sc w' d q (val13 v1 v2 v3 v4 v5 v6 v7 v8 v9 v10 v11 v12 v13 % NN) ∧ Fr (Rng d q 8) w w' := by
  have hld := hS.lt
  obtain ⟨m0, m1, m2, m3, m4, m5, m6, m7, hS, HX⟩ := hS
  clear HX
  refine enterA Tryz.func68 rfl (fun a0 z0 d0 ha => ?_)
  have e0 := ha 0 _ rfl
  have e1 := ha 1 _ rfl
  have e2 := ha 2 _ rfl
  have e3 := ha 3 _ rfl
  have e4 := ha 4 _ rfl
  have e5 := ha 5 _ rfl
  have e6 := ha 6 _ rfl
  have e7 := ha 7 _ rfl
  have e8 := ha 8 _ rfl
  have e9 := ha 9 _ rfl
  have e10 := ha 10 _ rfl
  have e11 := ha 11 _ rfl
  have e12 := ha 12 _ rfl
  have e13 := ha 13 _ rfl
  replace z0 : a0.tmps.size = 269 := z0
  refine wp_seq (wp_region1 (wlPut exAlloc75 (ltz z0 rfl) fun a1 p1 => wpList_nil (Exit.at_normal ?_)))
  have z1 := p1.z.trans z0
  have d1 := p1.f.trans d0
  have hF0 : Fr NoT w (w.alloc (.cells #[.int .u32 0, .int .u32 0, .int .u32 0] 75)) := (Fr.refl _ _).alloc _
  have hS0 := hS.fr hF0 (fun _ _ _ f => f)
  have hf0 := F8.fr hF0 hld hf
  obtain ⟨hA0, hg0⟩ := allocAcc w
  obtain ⟨g, hg⟩ : ∃ g, g = w.heap.size := ⟨_, rfl⟩
  rw [← hg] at hA0 hg0
  have hdg : d ≠ g := by omega
  have h : AM 1 14 28 g a1 (w.alloc (.cells #[.int .u32 0, .int .u32 0, .int .u32 0] 75)) (V13 v1 v2 v3 v4 v5 v6 v7 v8 v9 v10 v11 v12 v13) 0 0 a1 (w.alloc (.cells #[.int .u32 0, .int .u32 0, .int .u32 0] 75)) := by
    refine ⟨Past.refl _ _, p1.v.trans (by rw [hg]), fun k h1 h2 => ?_, hA0, hg0, by decide, by decide, Fr.refl _ _⟩
    refine (p1.n k (by omega)) ▸ ?_
    rcases k with _ | _ | _ | _ | _ | _ | _ | _ | _ | _ | _ | _ | _ | _ | k
    · omega
    · exact ⟨e1, u1⟩
    · exact ⟨e2, u2⟩
    · exact ⟨e3, u3⟩
    · exact ⟨e4, u4⟩
    · exact ⟨e5, u5⟩
    · exact ⟨e6, u6⟩
    · exact ⟨e7, u7⟩
    · exact ⟨e8, u8⟩
    · exact ⟨e9, u9⟩
    · exact ⟨e10, u10⟩
    · exact ⟨e11, u11⟩
    · exact ⟨e12, u12⟩
    · exact ⟨e13, u13⟩
    omega
  have e0' := (p1.n 0 (by decide)).trans e0
  generalize w.alloc (.cells #[.int .u32 0, .int .u32 0, .int .u32 0] 75) = w0 at h hF0 hS0 hf0 ⊢
  refine wp_seq (set_region (s := 30) (src := 1) h (by decide) (by rw [z1]; decide) (by decide) (fun bb0 ww0 h' zz => Exit.at_normal ?_))
  have y0 := zz.trans z1; replace h := h'; clear h' zz
  refine wp_seq (mulc_region (s := 34) (src := 9) (K := 801750719) h (by decide) (by rw [y0]; decide) (by decide) (by decide) ⟨by decide, by decide⟩ (fun bb1 ww1 h' zz => Exit.at_normal ?_))
  have y1 := zz.trans y0; replace h := h'; clear h' zz
  obtain ⟨A1, hA1, h⟩ := am_name h
  refine wp_seq (get_region (s := 37) (d := 1) (top := 14) h (by decide) (by rw [y1]; decide) (by decide) (by decide) (fun k _ hk => .inl hk) (fun bb2 ww2 h' zz => Exit.at_normal ?_))
  have y2 := zz.trans y1; replace h := h'; clear h' zz
  refine wp_seq (rsh_region (s := 41) h (by decide) (by rw [y2]; decide) (by decide) (fun bb3 ww3 h' zz => Exit.at_normal ?_))
  have y3 := zz.trans y2; replace h := h'; clear h' zz
  refine wp_seq (add_region (s := 42) (src := 2) h (by decide) (by rw [y3]; decide) (by decide) (by decide) (fun bb4 ww4 h' zz => Exit.at_normal ?_))
  have y4 := zz.trans y3; replace h := h'; clear h' zz
  refine wp_seq (mulc_region (s := 44) (src := 9) (K := 1076732275) h (by decide) (by rw [y4]; decide) (by decide) (by decide) ⟨by decide, by decide⟩ (fun bb5 ww5 h' zz => Exit.at_normal ?_))
  have y5 := zz.trans y4; replace h := h'; clear h' zz
  refine wp_seq (mulc_region (s := 47) (src := 10) (K := 801750719) h (by decide) (by rw [y5]; decide) (by decide) (by decide) ⟨by decide, by decide⟩ (fun bb6 ww6 h' zz => Exit.at_normal ?_))
  have y6 := zz.trans y5; replace h := h'; clear h' zz
  obtain ⟨A2, hA2, h⟩ := am_name h
  refine wp_seq (get_region (s := 50) (d := 2) (top := 14) h (by decide) (by rw [y6]; decide) (by decide) (by decide) (fun k _ hk => .inl hk) (fun bb7 ww7 h' zz => Exit.at_normal ?_))
  have y7 := zz.trans y6; replace h := h'; clear h' zz
  refine wp_seq (rsh_region (s := 54) h (by decide) (by rw [y7]; decide) (by decide) (fun bb8 ww8 h' zz => Exit.at_normal ?_))
  have y8 := zz.trans y7; replace h := h'; clear h' zz
  refine wp_seq (add_region (s := 55) (src := 3) h (by decide) (by rw [y8]; decide) (by decide) (by decide) (fun bb9 ww9 h' zz => Exit.at_normal ?_))
  have y9 := zz.trans y8; replace h := h'; clear h' zz
  refine wp_seq (mulc_region (s := 57) (src := 9) (K := 1354194884) h (by decide) (by rw [y9]; decide) (by decide) (by decide) ⟨by decide, by decide⟩ (fun bb10 ww10 h' zz => Exit.at_normal ?_))
  have y10 := zz.trans y9; replace h := h'; clear h' zz
  refine wp_seq (mulc_region (s := 60) (src := 10) (K := 1076732275) h (by decide) (by rw [y10]; decide) (by decide) (by decide) ⟨by decide, by decide⟩ (fun bb11 ww11 h' zz => Exit.at_normal ?_))
  have y11 := zz.trans y10; replace h := h'; clear h' zz
  refine wp_seq (mulc_region (s := 63) (src := 11) (K := 801750719) h (by decide) (by rw [y11]; decide) (by decide) (by decide) ⟨by decide, by decide⟩ (fun bb12 ww12 h' zz => Exit.at_normal ?_))
  have y12 := zz.trans y11; replace h := h'; clear h' zz
  obtain ⟨A3, hA3, h⟩ := am_name h
  refine wp_seq (get_region (s := 66) (d := 3) (top := 14) h (by decide) (by rw [y12]; decide) (by decide) (by decide) (fun k _ hk => .inl hk) (fun bb13 ww13 h' zz => Exit.at_normal ?_))
  have y13 := zz.trans y12; replace h := h'; clear h' zz
  refine wp_seq (rsh_region (s := 70) h (by decide) (by rw [y13]; decide) (by decide) (fun bb14 ww14 h' zz => Exit.at_normal ?_))
  have y14 := zz.trans y13; replace h := h'; clear h' zz
  refine wp_seq (add_region (s := 71) (src := 4) h (by decide) (by rw [y14]; decide) (by decide) (by decide) (fun bb15 ww15 h' zz => Exit.at_normal ?_))
  have y15 := zz.trans y14; replace h := h'; clear h' zz
  refine wp_seq (mulc_region (s := 73) (src := 9) (K := 1162945305) h (by decide) (by rw [y15]; decide) (by decide) (by decide) ⟨by decide, by decide⟩ (fun bb16 ww16 h' zz => Exit.at_normal ?_))
  have y16 := zz.trans y15; replace h := h'; clear h' zz
  refine wp_seq (mulc_region (s := 76) (src := 10) (K := 1354194884) h (by decide) (by rw [y16]; decide) (by decide) (by decide) ⟨by decide, by decide⟩ (fun bb17 ww17 h' zz => Exit.at_normal ?_))
  have y17 := zz.trans y16; replace h := h'; clear h' zz
  refine wp_seq (mulc_region (s := 79) (src := 11) (K := 1076732275) h (by decide) (by rw [y17]; decide) (by decide) (by decide) ⟨by decide, by decide⟩ (fun bb18 ww18 h' zz => Exit.at_normal ?_))
  have y18 := zz.trans y17; replace h := h'; clear h' zz
  refine wp_seq (mulc_region (s := 82) (src := 12) (K := 801750719) h (by decide) (by rw [y18]; decide) (by decide) (by decide) ⟨by decide, by decide⟩ (fun bb19 ww19 h' zz => Exit.at_normal ?_))
  have y19 := zz.trans y18; replace h := h'; clear h' zz
  obtain ⟨A4, hA4, h⟩ := am_name h
  refine wp_seq (get_region (s := 85) (d := 4) (top := 14) h (by decide) (by rw [y19]; decide) (by decide) (by decide) (fun k _ hk => .inl hk) (fun bb20 ww20 h' zz => Exit.at_normal ?_))
  have y20 := zz.trans y19; replace h := h'; clear h' zz
  refine wp_seq (rsh_region (s := 89) h (by decide) (by rw [y20]; decide) (by decide) (fun bb21 ww21 h' zz => Exit.at_normal ?_))
  have y21 := zz.trans y20; replace h := h'; clear h' zz
  refine wp_seq (add_region (s := 90) (src := 5) h (by decide) (by rw [y21]; decide) (by decide) (by decide) (fun bb22 ww22 h' zz => Exit.at_normal ?_))
  have y22 := zz.trans y21; replace h := h'; clear h' zz
  refine wp_seq (add_region (s := 92) (src := 9) h (by decide) (by rw [y22]; decide) (by decide) (by decide) (fun bb23 ww23 h' zz => Exit.at_normal ?_))
  have y23 := zz.trans y22; replace h := h'; clear h' zz
  refine wp_seq (mulc_region (s := 94) (src := 10) (K := 1162945305) h (by decide) (by rw [y23]; decide) (by decide) (by decide) ⟨by decide, by decide⟩ (fun bb24 ww24 h' zz => Exit.at_normal ?_))
  have y24 := zz.trans y23; replace h := h'; clear h' zz
  refine wp_seq (mulc_region (s := 97) (src := 11) (K := 1354194884) h (by decide) (by rw [y24]; decide) (by decide) (by decide) ⟨by decide, by decide⟩ (fun bb25 ww25 h' zz => Exit.at_normal ?_))
  have y25 := zz.trans y24; replace h := h'; clear h' zz
  refine wp_seq (mulc_region (s := 100) (src := 12) (K := 1076732275) h (by decide) (by rw [y25]; decide) (by decide) (by decide) ⟨by decide, by decide⟩ (fun bb26 ww26 h' zz => Exit.at_normal ?_))
  have y26 := zz.trans y25; replace h := h'; clear h' zz
  refine wp_seq (mulc_region (s := 103) (src := 13) (K := 801750719) h (by decide) (by rw [y26]; decide) (by decide) (by decide) ⟨by decide, by decide⟩ (fun bb27 ww27 h' zz => Exit.at_normal ?_))
  have y27 := zz.trans y26; replace h := h'; clear h' zz
  obtain ⟨A5, hA5, h⟩ := am_name h
  refine wp_seq (get_region (s := 106) (d := 5) (top := 14) h (by decide) (by rw [y27]; decide) (by decide) (by decide) (fun k _ hk => .inl hk) (fun bb28 ww28 h' zz => Exit.at_normal ?_))
  have y28 := zz.trans y27; replace h := h'; clear h' zz
  refine wp_seq (rsh_region (s := 110) h (by decide) (by rw [y28]; decide) (by decide) (fun bb29 ww29 h' zz => Exit.at_normal ?_))
  have y29 := zz.trans y28; replace h := h'; clear h' zz
  refine wp_seq (add_region (s := 111) (src := 6) h (by decide) (by rw [y29]; decide) (by decide) (by decide) (fun bb30 ww30 h' zz => Exit.at_normal ?_))
  have y30 := zz.trans y29; replace h := h'; clear h' zz
  refine wp_seq (add_region (s := 113) (src := 10) h (by decide) (by rw [y30]; decide) (by decide) (by decide) (fun bb31 ww31 h' zz => Exit.at_normal ?_))
  have y31 := zz.trans y30; replace h := h'; clear h' zz
  refine wp_seq (mulc_region (s := 115) (src := 11) (K := 1162945305) h (by decide) (by rw [y31]; decide) (by decide) (by decide) ⟨by decide, by decide⟩ (fun bb32 ww32 h' zz => Exit.at_normal ?_))
  have y32 := zz.trans y31; replace h := h'; clear h' zz
  refine wp_seq (mulc_region (s := 118) (src := 12) (K := 1354194884) h (by decide) (by rw [y32]; decide) (by decide) (by decide) ⟨by decide, by decide⟩ (fun bb33 ww33 h' zz => Exit.at_normal ?_))
  have y33 := zz.trans y32; replace h := h'; clear h' zz
  refine wp_seq (mulc_region (s := 121) (src := 13) (K := 1076732275) h (by decide) (by rw [y33]; decide) (by decide) (by decide) ⟨by decide, by decide⟩ (fun bb34 ww34 h' zz => Exit.at_normal ?_))
  have y34 := zz.trans y33; replace h := h'; clear h' zz
  obtain ⟨A6, hA6, h⟩ := am_name h
  refine wp_seq (get_region (s := 124) (d := 6) (top := 14) h (by decide) (by rw [y34]; decide) (by decide) (by decide) (fun k _ hk => .inl hk) (fun bb35 ww35 h' zz => Exit.at_normal ?_))
  have y35 := zz.trans y34; replace h := h'; clear h' zz
  refine wp_seq (rsh_region (s := 128) h (by decide) (by rw [y35]; decide) (by decide) (fun bb36 ww36 h' zz => Exit.at_normal ?_))
  have y36 := zz.trans y35; replace h := h'; clear h' zz
  refine wp_seq (add_region (s := 129) (src := 7) h (by decide) (by rw [y36]; decide) (by decide) (by decide) (fun bb37 ww37 h' zz => Exit.at_normal ?_))
  have y37 := zz.trans y36; replace h := h'; clear h' zz
  refine wp_seq (add_region (s := 131) (src := 11) h (by decide) (by rw [y37]; decide) (by decide) (by decide) (fun bb38 ww38 h' zz => Exit.at_normal ?_))
  have y38 := zz.trans y37; replace h := h'; clear h' zz
  refine wp_seq (mulc_region (s := 133) (src := 12) (K := 1162945305) h (by decide) (by rw [y38]; decide) (by decide) (by decide) ⟨by decide, by decide⟩ (fun bb39 ww39 h' zz => Exit.at_normal ?_))
  have y39 := zz.trans y38; replace h := h'; clear h' zz
  refine wp_seq (mulc_region (s := 136) (src := 13) (K := 1354194884) h (by decide) (by rw [y39]; decide) (by decide) (by decide) ⟨by decide, by decide⟩ (fun bb40 ww40 h' zz => Exit.at_normal ?_))
  have y40 := zz.trans y39; replace h := h'; clear h' zz
  obtain ⟨A7, hA7, h⟩ := am_name h
  refine wp_seq (get_region (s := 139) (d := 7) (top := 14) h (by decide) (by rw [y40]; decide) (by decide) (by decide) (fun k _ hk => .inl hk) (fun bb41 ww41 h' zz => Exit.at_normal ?_))
  have y41 := zz.trans y40; replace h := h'; clear h' zz
  refine wp_seq (rsh_region (s := 143) h (by decide) (by rw [y41]; decide) (by decide) (fun bb42 ww42 h' zz => Exit.at_normal ?_))
  have y42 := zz.trans y41; replace h := h'; clear h' zz
  refine wp_seq (add_region (s := 144) (src := 8) h (by decide) (by rw [y42]; decide) (by decide) (by decide) (fun bb43 ww43 h' zz => Exit.at_normal ?_))
  have y43 := zz.trans y42; replace h := h'; clear h' zz
  refine wp_seq (add_region (s := 146) (src := 12) h (by decide) (by rw [y43]; decide) (by decide) (by decide) (fun bb44 ww44 h' zz => Exit.at_normal ?_))
  have y44 := zz.trans y43; replace h := h'; clear h' zz
  refine wp_seq (mulc_region (s := 148) (src := 13) (K := 1162945305) h (by decide) (by rw [y44]; decide) (by decide) (by decide) ⟨by decide, by decide⟩ (fun bb45 ww45 h' zz => Exit.at_normal ?_))
  have y45 := zz.trans y44; replace h := h'; clear h' zz
  obtain ⟨A8, hA8, h⟩ := am_name h
  refine wp_seq (get_region (s := 151) (d := 8) (top := 14) h (by decide) (by rw [y45]; decide) (by decide) (by decide) (fun k _ hk => .inl hk) (fun bb46 ww46 h' zz => Exit.at_normal ?_))
  have y46 := zz.trans y45; replace h := h'; clear h' zz
  refine wp_seq (rsh_region (s := 155) h (by decide) (by rw [y46]; decide) (by decide) (fun bb47 ww47 h' zz => Exit.at_normal ?_))
  have y47 := zz.trans y46; replace h := h'; clear h' zz
  refine wp_seq (add_region (s := 156) (src := 13) h (by decide) (by rw [y47]; decide) (by decide) (by decide) (fun bb48 ww48 h' zz => Exit.at_normal ?_))
  have y48 := zz.trans y47; replace h := h'; clear h' zz
  obtain ⟨A9, hA9, h⟩ := am_name h
  refine wp_seq (get_region (s := 158) (d := 9) (top := 14) h (by decide) (by rw [y48]; decide) (by decide) (by decide) (fun k _ hk => .inl hk) (fun bb49 ww49 h' zz => Exit.at_normal ?_))
  have y49 := zz.trans y48; replace h := h'; clear h' zz
  have g0 := (h.past.n 0 (by decide)).trans e0'
  have dd0 := h.past.f.trans d1
  have w1 : bb49.eval (.tmp 1) = .int .u64 (A1 % 4294967296) := (h.v 1 (by decide) (by decide)).1
  have w2 : bb49.eval (.tmp 2) = .int .u64 (A2 % 4294967296) := (h.v 2 (by decide) (by decide)).1
  have w3 : bb49.eval (.tmp 3) = .int .u64 (A3 % 4294967296) := (h.v 3 (by decide) (by decide)).1
  have w4 : bb49.eval (.tmp 4) = .int .u64 (A4 % 4294967296) := (h.v 4 (by decide) (by decide)).1
  have w5 : bb49.eval (.tmp 5) = .int .u64 (A5 % 4294967296) := (h.v 5 (by decide) (by decide)).1
  have w6 : bb49.eval (.tmp 6) = .int .u64 (A6 % 4294967296) := (h.v 6 (by decide) (by decide)).1
  have w7 : bb49.eval (.tmp 7) = .int .u64 (A7 % 4294967296) := (h.v 7 (by decide) (by decide)).1
  have w8 : bb49.eval (.tmp 8) = .int .u64 (A8 % 4294967296) := (h.v 8 (by decide) (by decide)).1
  have w9 : bb49.eval (.tmp 9) = .int .u64 (A9 % 4294967296) := (h.v 9 (by decide) (by decide)).1
  have R1 : A1 % 4294967296 < 4294967296 := Int.emod_lt_of_pos _ (by decide)
  have RR1 : 0 ≤ A1 % 4294967296 := Int.emod_nonneg _ (by decide)
  have R2 : A2 % 4294967296 < 4294967296 := Int.emod_lt_of_pos _ (by decide)
  have RR2 : 0 ≤ A2 % 4294967296 := Int.emod_nonneg _ (by decide)
  have R3 : A3 % 4294967296 < 4294967296 := Int.emod_lt_of_pos _ (by decide)
  have RR3 : 0 ≤ A3 % 4294967296 := Int.emod_nonneg _ (by decide)
  have R4 : A4 % 4294967296 < 4294967296 := Int.emod_lt_of_pos _ (by decide)
  have RR4 : 0 ≤ A4 % 4294967296 := Int.emod_nonneg _ (by decide)
  have R5 : A5 % 4294967296 < 4294967296 := Int.emod_lt_of_pos _ (by decide)
  have RR5 : 0 ≤ A5 % 4294967296 := Int.emod_nonneg _ (by decide)
  have R6 : A6 % 4294967296 < 4294967296 := Int.emod_lt_of_pos _ (by decide)
  have RR6 : 0 ≤ A6 % 4294967296 := Int.emod_nonneg _ (by decide)
  have R7 : A7 % 4294967296 < 4294967296 := Int.emod_lt_of_pos _ (by decide)
  have RR7 : 0 ≤ A7 % 4294967296 := Int.emod_nonneg _ (by decide)
  have R8 : A8 % 4294967296 < 4294967296 := Int.emod_lt_of_pos _ (by decide)
  have RR8 : 0 ≤ A8 % 4294967296 := Int.emod_nonneg _ (by decide)
  have R9 : A9 % 4294967296 < 4294967296 := Int.emod_lt_of_pos _ (by decide)
  have RR9 : 0 ≤ A9 % 4294967296 := Int.emod_nonneg _ (by decide)
  replace hA1 : A1 = v1 + v9 * 801750719 := hA1
  replace hA2 : A2 = A1 / 4294967296 + v2 + v9 * 1076732275 + v10 * 801750719 := hA2
  replace hA3 : A3 = A2 / 4294967296 + v3 + v9 * 1354194884 + v10 * 1076732275 + v11 * 801750719 := hA3
  replace hA4 : A4 = A3 / 4294967296 + v4 + v9 * 1162945305 + v10 * 1354194884 + v11 * 1076732275 + v12 * 801750719 := hA4
  replace hA5 : A5 = A4 / 4294967296 + v5 + v9 + v10 * 1162945305 + v11 * 1354194884 + v12 * 1076732275 + v13 * 801750719 := hA5
  replace hA6 : A6 = A5 / 4294967296 + v6 + v10 + v11 * 1162945305 + v12 * 1354194884 + v13 * 1076732275 := hA6
  replace hA7 : A7 = A6 / 4294967296 + v7 + v11 + v12 * 1162945305 + v13 * 1354194884 := hA7
  replace hA8 : A8 = A7 / 4294967296 + v8 + v12 + v13 * 1162945305 := hA8
  replace hA9 : A9 = A8 / 4294967296 + v13 := hA9
  obtain ⟨c0, k0⟩ : ∃ c, c = A1 % 4294967296 + A9 % 4294967296 * 801750719 := ⟨_, rfl⟩
  obtain ⟨c1, k1⟩ : ∃ c, c = c0 / 4294967296 + A2 % 4294967296 + A9 % 4294967296 * 1076732275 := ⟨_, rfl⟩
  obtain ⟨c2, k2⟩ : ∃ c, c = c1 / 4294967296 + A3 % 4294967296 + A9 % 4294967296 * 1354194884 := ⟨_, rfl⟩
  obtain ⟨c3, k3⟩ : ∃ c, c = c2 / 4294967296 + A4 % 4294967296 + A9 % 4294967296 * 1162945305 := ⟨_, rfl⟩
  obtain ⟨c4, k4⟩ : ∃ c, c = c3 / 4294967296 + A5 % 4294967296 + A9 % 4294967296 := ⟨_, rfl⟩
  obtain ⟨c5, k5⟩ : ∃ c, c = c4 / 4294967296 + A6 % 4294967296 := ⟨_, rfl⟩
  obtain ⟨c6, k6⟩ : ∃ c, c = c5 / 4294967296 + A7 % 4294967296 := ⟨_, rfl⟩
  obtain ⟨c7, k7⟩ : ∃ c, c = c6 / 4294967296 + A8 % 4294967296 := ⟨_, rfl⟩
  have AA := arith385 u1 u2 u3 u4 u5 u6 u7 u8 u9 u10 u11 u12 u13 hv hA1 hA2 hA3 hA4 hA5 hA6 hA7 hA8 hA9 k0 k1 k2 k3 k4 k5 k6 k7
  obtain ⟨AA1, AA2, AA3, AA4, AA5⟩ := AA
  have hSw := hS0.fr h.fr (fun _ _ _ f => hdg f.1)
  have hfw := F8.fr h.fr hS0.lt hf0
  have hT : Fr (Or2 (Rng d q 8) (Rng g 0 3)) ww49 ww49 := Fr.refl _ _
  refine wp_seq (wp_region_lit ?_)
  show wpList _ _ _ _ _ _
  refine wlPut (exMove (w1)) (ltz y49 rfl) ?_
  intro ac1 q1
  have zz1 := q1.z.trans y49
  have dd1 := q1.f.trans dd0
  refine wlPut (exMove ((q1.n _ (by decide)).trans (w9))) (ltz zz1 rfl) ?_
  intro ac2 q2
  have zz2 := q2.z.trans zz1
  have dd2 := q2.f.trans dd1
  refine wlPut (exMulC (q2.v) rfl (by omega) (by omega)) (ltz zz2 rfl) ?_
  intro ac3 q3
  have zz3 := q3.z.trans zz2
  have dd3 := q3.f.trans dd2
  refine wlPut (exAdd ((q3.n _ (by decide)).trans ((q2.n _ (by decide)).trans (q1.v))) (q3.v) (by omega) (by omega)) (ltz zz3 rfl) ?_
  intro ac4 q4
  have zz4 := q4.z.trans zz3
  have dd4 := q4.f.trans dd3
  refine wlPut (exAssign ((q4.v).trans (congrArg (Value.int .u64) k0.symm))) (ltz zz4 rfl) ?_
  intro ac5 q5
  have zz5 := q5.z.trans zz4
  have dd5 := q5.f.trans dd4
  have t1 := q5.l (q4.l (q3.l (q2.l (q1.l (PL.nil _)))))
  have f0_5 := (t1 _ (by decide)).trans (g0)
  have f1_5 := (t1 _ (by decide)).trans (w1)
  have f2_5 := (t1 _ (by decide)).trans (w2)
  have f3_5 := (t1 _ (by decide)).trans (w3)
  have f4_5 := (t1 _ (by decide)).trans (w4)
  have f5_5 := (t1 _ (by decide)).trans (w5)
  have f6_5 := (t1 _ (by decide)).trans (w6)
  have f7_5 := (t1 _ (by decide)).trans (w7)
  have f8_5 := (t1 _ (by decide)).trans (w8)
  have f9_5 := (t1 _ (by decide)).trans (w9)
  refine wpList_nil (Exit.at_normal ?_)
  refine wp_seq (wp_region_lit ?_)
  show wpList _ _ _ _ _ _
  refine wlPut (exMove (f0_5)) (ltz zz5 rfl) ?_
  intro ac6 q6
  have zz6 := q6.z.trans zz5
  have dd6 := q6.f.trans dd5
  refine wlPut (exMove ((q6.n _ (by decide)).trans (q5.v))) (ltz zz6 rfl) ?_
  intro ac7 q7
  have zz7 := q7.z.trans zz6
  have dd7 := q7.f.trans dd6
  refine wlPut (exAndM (q7.v) rfl (by omega) (by omega)) (ltz zz7 rfl) ?_
  intro ac8 q8
  have zz8 := q8.z.trans zz7
  have dd8 := q8.f.trans dd7
  refine wlPut (exConvDown (q8.v) ⟨by omega, by omega⟩) (ltz zz8 rfl) ?_
  intro ac9 q9
  have zz9 := q9.z.trans zz8
  have dd9 := q9.f.trans dd8
  refine wlPut (exNil ((q9.n _ (by decide)).trans ((q8.n _ (by decide)).trans ((q7.n _ (by decide)).trans (q6.v))))) (ltz zz9 rfl) ?_
  intro ac10 q10
  have zz10 := q10.z.trans zz9
  have dd10 := q10.f.trans dd9
  refine wlPut (exField44 (q10.v)) (ltz zz10 rfl) ?_
  intro ac11 q11
  have zz11 := q11.z.trans zz10
  have dd11 := q11.f.trans dd10
  refine wlPut (exIndex42 (i := 0) (q11.v) rfl (by decide)) (ltz zz11 rfl) ?_
  intro ac12 q12
  have zz12 := q12.z.trans zz11
  have dd12 := q12.f.trans dd11
  refine wlSkip (exStore33 (q12.v) ((q12.n _ (by decide)).trans ((q11.n _ (by decide)).trans ((q10.n _ (by decide)).trans (q9.v)))) hSw.1 hfw.1) ?_
  replace hfw := F8.fr ((Fr.refl (Rng d q 8) _).setCell (b := d) (o := q) (fun _ => ⟨rfl, by omega, by omega⟩) (.int .u32 (c0 % 4294967296))) hSw.lt hfw
  replace hT := hT.setCell (b := d) (o := q) (fun _ => .inl ⟨rfl, by omega, by omega⟩) (.int .u32 (c0 % 4294967296))
  replace hSw := hSw.set0 (c0 % 4294967296) ⟨by omega, by omega⟩
  change wpList _ _ _ _ _ (World.setCell ww49 ⟨d, q, none⟩ (.int .u32 (c0 % 4294967296)))
  generalize World.setCell ww49 ⟨d, q, none⟩ (.int .u32 (c0 % 4294967296)) = wt0 at hSw hfw hT ⊢
  have t2 := q12.l (q11.l (q10.l (q9.l (q8.l (q7.l (q6.l (PL.nil _)))))))
  have f0_12 := (t2 _ (by decide)).trans (f0_5)
  have f29_12 := (t2 _ (by decide)).trans (q5.v)
  have f1_12 := (t2 _ (by decide)).trans (f1_5)
  have f2_12 := (t2 _ (by decide)).trans (f2_5)
  have f3_12 := (t2 _ (by decide)).trans (f3_5)
  have f4_12 := (t2 _ (by decide)).trans (f4_5)
  have f5_12 := (t2 _ (by decide)).trans (f5_5)
  have f6_12 := (t2 _ (by decide)).trans (f6_5)
  have f7_12 := (t2 _ (by decide)).trans (f7_5)
  have f8_12 := (t2 _ (by decide)).trans (f8_5)
  have f9_12 := (t2 _ (by decide)).trans (f9_5)
  refine wpList_nil (Exit.at_normal ?_)
  refine wp_seq (wp_region_lit ?_)
  show wpList _ _ _ _ _ _
  refine wlPut (exMove (f29_12)) (ltz zz12 rfl) ?_
  intro ac13 q13
  have zz13 := q13.z.trans zz12
  have dd13 := q13.f.trans dd12
  refine wlPut (exShr32 (q13.v) rfl (by omega) (by omega)) (ltz zz13 rfl) ?_
  intro ac14 q14
  have zz14 := q14.z.trans zz13
  have dd14 := q14.f.trans dd13
  refine wlPut (exMove ((q14.n _ (by decide)).trans ((q13.n _ (by decide)).trans (f2_12)))) (ltz zz14 rfl) ?_
  intro ac15 q15
  have zz15 := q15.z.trans zz14
  have dd15 := q15.f.trans dd14
  refine wlPut (exAdd ((q15.n _ (by decide)).trans (q14.v)) (q15.v) (by omega) (by omega)) (ltz zz15 rfl) ?_
  intro ac16 q16
  have zz16 := q16.z.trans zz15
  have dd16 := q16.f.trans dd15
  refine wlPut (exMove ((q16.n _ (by decide)).trans ((q15.n _ (by decide)).trans ((q14.n _ (by decide)).trans ((q13.n _ (by decide)).trans (f9_12)))))) (ltz zz16 rfl) ?_
  intro ac17 q17
  have zz17 := q17.z.trans zz16
  have dd17 := q17.f.trans dd16
  refine wlPut (exMulC (q17.v) rfl (by omega) (by omega)) (ltz zz17 rfl) ?_
  intro ac18 q18
  have zz18 := q18.z.trans zz17
  have dd18 := q18.f.trans dd17
  refine wlPut (exAdd ((q18.n _ (by decide)).trans ((q17.n _ (by decide)).trans (q16.v))) (q18.v) (by omega) (by omega)) (ltz zz18 rfl) ?_
  intro ac19 q19
  have zz19 := q19.z.trans zz18
  have dd19 := q19.f.trans dd18
  refine wlPut (exAssign ((q19.v).trans (congrArg (Value.int .u64) k1.symm))) (ltz zz19 rfl) ?_
  intro ac20 q20
  have zz20 := q20.z.trans zz19
  have dd20 := q20.f.trans dd19
  have t3 := q20.l (q19.l (q18.l (q17.l (q16.l (q15.l (q14.l (q13.l (PL.nil _))))))))
  have f0_20 := (t3 _ (by decide)).trans (f0_12)
  have f1_20 := (t3 _ (by decide)).trans (f1_12)
  have f2_20 := (t3 _ (by decide)).trans (f2_12)
  have f3_20 := (t3 _ (by decide)).trans (f3_12)
  have f4_20 := (t3 _ (by decide)).trans (f4_12)
  have f5_20 := (t3 _ (by decide)).trans (f5_12)
  have f6_20 := (t3 _ (by decide)).trans (f6_12)
  have f7_20 := (t3 _ (by decide)).trans (f7_12)
  have f8_20 := (t3 _ (by decide)).trans (f8_12)
  have f9_20 := (t3 _ (by decide)).trans (f9_12)
  refine wpList_nil (Exit.at_normal ?_)
  refine wp_seq (wp_region_lit ?_)
  show wpList _ _ _ _ _ _
  refine wlPut (exMove (f0_20)) (ltz zz20 rfl) ?_
  intro ac21 q21
  have zz21 := q21.z.trans zz20
  have dd21 := q21.f.trans dd20
  refine wlPut (exMove ((q21.n _ (by decide)).trans (q20.v))) (ltz zz21 rfl) ?_
  intro ac22 q22
  have zz22 := q22.z.trans zz21
  have dd22 := q22.f.trans dd21
  refine wlPut (exAndM (q22.v) rfl (by omega) (by omega)) (ltz zz22 rfl) ?_
  intro ac23 q23
  have zz23 := q23.z.trans zz22
  have dd23 := q23.f.trans dd22
  refine wlPut (exConvDown (q23.v) ⟨by omega, by omega⟩) (ltz zz23 rfl) ?_
  intro ac24 q24
  have zz24 := q24.z.trans zz23
  have dd24 := q24.f.trans dd23
  refine wlPut (exNil ((q24.n _ (by decide)).trans ((q23.n _ (by decide)).trans ((q22.n _ (by decide)).trans (q21.v))))) (ltz zz24 rfl) ?_
  intro ac25 q25
  have zz25 := q25.z.trans zz24
  have dd25 := q25.f.trans dd24
  refine wlPut (exField44 (q25.v)) (ltz zz25 rfl) ?_
  intro ac26 q26
  have zz26 := q26.z.trans zz25
  have dd26 := q26.f.trans dd25
  refine wlPut (exIndex42 (i := 1) (q26.v) rfl (by decide)) (ltz zz26 rfl) ?_
  intro ac27 q27
  have zz27 := q27.z.trans zz26
  have dd27 := q27.f.trans dd26
  refine wlSkip (exStore33 (q27.v) ((q27.n _ (by decide)).trans ((q26.n _ (by decide)).trans ((q25.n _ (by decide)).trans (q24.v)))) hSw.2.1 hfw.2.1) ?_
  replace hfw := F8.fr ((Fr.refl (Rng d q 8) _).setCell (b := d) (o := q + 1) (fun _ => ⟨rfl, by omega, by omega⟩) (.int .u32 (c1 % 4294967296))) hSw.lt hfw
  replace hT := hT.setCell (b := d) (o := q + 1) (fun _ => .inl ⟨rfl, by omega, by omega⟩) (.int .u32 (c1 % 4294967296))
  replace hSw := hSw.set1 (c1 % 4294967296) ⟨by omega, by omega⟩
  change wpList _ _ _ _ _ (World.setCell wt0 ⟨d, q + 1, none⟩ (.int .u32 (c1 % 4294967296)))
  generalize World.setCell wt0 ⟨d, q + 1, none⟩ (.int .u32 (c1 % 4294967296)) = wt1 at hSw hfw hT ⊢
  have t4 := q27.l (q26.l (q25.l (q24.l (q23.l (q22.l (q21.l (PL.nil _)))))))
  have f0_27 := (t4 _ (by decide)).trans (f0_20)
  have f29_27 := (t4 _ (by decide)).trans (q20.v)
  have f1_27 := (t4 _ (by decide)).trans (f1_20)
  have f2_27 := (t4 _ (by decide)).trans (f2_20)
  have f3_27 := (t4 _ (by decide)).trans (f3_20)
  have f4_27 := (t4 _ (by decide)).trans (f4_20)
  have f5_27 := (t4 _ (by decide)).trans (f5_20)
  have f6_27 := (t4 _ (by decide)).trans (f6_20)
  have f7_27 := (t4 _ (by decide)).trans (f7_20)
  have f8_27 := (t4 _ (by decide)).trans (f8_20)
  have f9_27 := (t4 _ (by decide)).trans (f9_20)
  refine wpList_nil (Exit.at_normal ?_)
  refine wp_seq (wp_region_lit ?_)
  show wpList _ _ _ _ _ _
  refine wlPut (exMove (f29_27)) (ltz zz27 rfl) ?_
  intro ac28 q28
  have zz28 := q28.z.trans zz27
  have dd28 := q28.f.trans dd27
  refine wlPut (exShr32 (q28.v) rfl (by omega) (by omega)) (ltz zz28 rfl) ?_
  intro ac29 q29
  have zz29 := q29.z.trans zz28
  have dd29 := q29.f.trans dd28
  refine wlPut (exMove ((q29.n _ (by decide)).trans ((q28.n _ (by decide)).trans (f3_27)))) (ltz zz29 rfl) ?_
  intro ac30 q30
  have zz30 := q30.z.trans zz29
  have dd30 := q30.f.trans dd29
  refine wlPut (exAdd ((q30.n _ (by decide)).trans (q29.v)) (q30.v) (by omega) (by omega)) (ltz zz30 rfl) ?_
  intro ac31 q31
  have zz31 := q31.z.trans zz30
  have dd31 := q31.f.trans dd30
  refine wlPut (exMove ((q31.n _ (by decide)).trans ((q30.n _ (by decide)).trans ((q29.n _ (by decide)).trans ((q28.n _ (by decide)).trans (f9_27)))))) (ltz zz31 rfl) ?_
  intro ac32 q32
  have zz32 := q32.z.trans zz31
  have dd32 := q32.f.trans dd31
  refine wlPut (exMulC (q32.v) rfl (by omega) (by omega)) (ltz zz32 rfl) ?_
  intro ac33 q33
  have zz33 := q33.z.trans zz32
  have dd33 := q33.f.trans dd32
  refine wlPut (exAdd ((q33.n _ (by decide)).trans ((q32.n _ (by decide)).trans (q31.v))) (q33.v) (by omega) (by omega)) (ltz zz33 rfl) ?_
  intro ac34 q34
  have zz34 := q34.z.trans zz33
  have dd34 := q34.f.trans dd33
  refine wlPut (exAssign ((q34.v).trans (congrArg (Value.int .u64) k2.symm))) (ltz zz34 rfl) ?_
  intro ac35 q35
  have zz35 := q35.z.trans zz34
  have dd35 := q35.f.trans dd34
  have t5 := q35.l (q34.l (q33.l (q32.l (q31.l (q30.l (q29.l (q28.l (PL.nil _))))))))
  have f0_35 := (t5 _ (by decide)).trans (f0_27)
  have f1_35 := (t5 _ (by decide)).trans (f1_27)
  have f2_35 := (t5 _ (by decide)).trans (f2_27)
  have f3_35 := (t5 _ (by decide)).trans (f3_27)
  have f4_35 := (t5 _ (by decide)).trans (f4_27)
  have f5_35 := (t5 _ (by decide)).trans (f5_27)
  have f6_35 := (t5 _ (by decide)).trans (f6_27)
  have f7_35 := (t5 _ (by decide)).trans (f7_27)
  have f8_35 := (t5 _ (by decide)).trans (f8_27)
  have f9_35 := (t5 _ (by decide)).trans (f9_27)
  refine wpList_nil (Exit.at_normal ?_)
  refine wp_seq (wp_region_lit ?_)
  show wpList _ _ _ _ _ _
  refine wlPut (exMove (f0_35)) (ltz zz35 rfl) ?_
  intro ac36 q36
  have zz36 := q36.z.trans zz35
  have dd36 := q36.f.trans dd35
  refine wlPut (exMove ((q36.n _ (by decide)).trans (q35.v))) (ltz zz36 rfl) ?_
  intro ac37 q37
  have zz37 := q37.z.trans zz36
  have dd37 := q37.f.trans dd36
  refine wlPut (exAndM (q37.v) rfl (by omega) (by omega)) (ltz zz37 rfl) ?_
  intro ac38 q38
  have zz38 := q38.z.trans zz37
  have dd38 := q38.f.trans dd37
  refine wlPut (exConvDown (q38.v) ⟨by omega, by omega⟩) (ltz zz38 rfl) ?_
  intro ac39 q39
  have zz39 := q39.z.trans zz38
  have dd39 := q39.f.trans dd38
  refine wlPut (exNil ((q39.n _ (by decide)).trans ((q38.n _ (by decide)).trans ((q37.n _ (by decide)).trans (q36.v))))) (ltz zz39 rfl) ?_
  intro ac40 q40
  have zz40 := q40.z.trans zz39
  have dd40 := q40.f.trans dd39
  refine wlPut (exField44 (q40.v)) (ltz zz40 rfl) ?_
  intro ac41 q41
  have zz41 := q41.z.trans zz40
  have dd41 := q41.f.trans dd40
  refine wlPut (exIndex42 (i := 2) (q41.v) rfl (by decide)) (ltz zz41 rfl) ?_
  intro ac42 q42
  have zz42 := q42.z.trans zz41
  have dd42 := q42.f.trans dd41
  refine wlSkip (exStore33 (q42.v) ((q42.n _ (by decide)).trans ((q41.n _ (by decide)).trans ((q40.n _ (by decide)).trans (q39.v)))) hSw.2.2.1 hfw.2.2.1) ?_
  replace hfw := F8.fr ((Fr.refl (Rng d q 8) _).setCell (b := d) (o := q + 2) (fun _ => ⟨rfl, by omega, by omega⟩) (.int .u32 (c2 % 4294967296))) hSw.lt hfw
  replace hT := hT.setCell (b := d) (o := q + 2) (fun _ => .inl ⟨rfl, by omega, by omega⟩) (.int .u32 (c2 % 4294967296))
  replace hSw := hSw.set2 (c2 % 4294967296) ⟨by omega, by omega⟩
  change wpList _ _ _ _ _ (World.setCell wt1 ⟨d, q + 2, none⟩ (.int .u32 (c2 % 4294967296)))
  generalize World.setCell wt1 ⟨d, q + 2, none⟩ (.int .u32 (c2 % 4294967296)) = wt2 at hSw hfw hT ⊢
  have t6 := q42.l (q41.l (q40.l (q39.l (q38.l (q37.l (q36.l (PL.nil _)))))))
  have f0_42 := (t6 _ (by decide)).trans (f0_35)
  have f29_42 := (t6 _ (by decide)).trans (q35.v)
  have f1_42 := (t6 _ (by decide)).trans (f1_35)
  have f2_42 := (t6 _ (by decide)).trans (f2_35)
  have f3_42 := (t6 _ (by decide)).trans (f3_35)
  have f4_42 := (t6 _ (by decide)).trans (f4_35)
  have f5_42 := (t6 _ (by decide)).trans (f5_35)
  have f6_42 := (t6 _ (by decide)).trans (f6_35)
  have f7_42 := (t6 _ (by decide)).trans (f7_35)
  have f8_42 := (t6 _ (by decide)).trans (f8_35)
  have f9_42 := (t6 _ (by decide)).trans (f9_35)
  refine wpList_nil (Exit.at_normal ?_)
  refine wp_seq (wp_region_lit ?_)
  show wpList _ _ _ _ _ _
  refine wlPut (exMove (f29_42)) (ltz zz42 rfl) ?_
  intro ac43 q43
  have zz43 := q43.z.trans zz42
  have dd43 := q43.f.trans dd42
  refine wlPut (exShr32 (q43.v) rfl (by omega) (by omega)) (ltz zz43 rfl) ?_
  intro ac44 q44
  have zz44 := q44.z.trans zz43
  have dd44 := q44.f.trans dd43
  refine wlPut (exMove ((q44.n _ (by decide)).trans ((q43.n _ (by decide)).trans (f4_42)))) (ltz zz44 rfl) ?_
  intro ac45 q45
  have zz45 := q45.z.trans zz44
  have dd45 := q45.f.trans dd44
  refine wlPut (exAdd ((q45.n _ (by decide)).trans (q44.v)) (q45.v) (by omega) (by omega)) (ltz zz45 rfl) ?_
  intro ac46 q46
  have zz46 := q46.z.trans zz45
  have dd46 := q46.f.trans dd45
  refine wlPut (exMove ((q46.n _ (by decide)).trans ((q45.n _ (by decide)).trans ((q44.n _ (by decide)).trans ((q43.n _ (by decide)).trans (f9_42)))))) (ltz zz46 rfl) ?_
  intro ac47 q47
  have zz47 := q47.z.trans zz46
  have dd47 := q47.f.trans dd46
  refine wlPut (exMulC (q47.v) rfl (by omega) (by omega)) (ltz zz47 rfl) ?_
  intro ac48 q48
  have zz48 := q48.z.trans zz47
  have dd48 := q48.f.trans dd47
  refine wlPut (exAdd ((q48.n _ (by decide)).trans ((q47.n _ (by decide)).trans (q46.v))) (q48.v) (by omega) (by omega)) (ltz zz48 rfl) ?_
  intro ac49 q49
  have zz49 := q49.z.trans zz48
  have dd49 := q49.f.trans dd48
  refine wlPut (exAssign ((q49.v).trans (congrArg (Value.int .u64) k3.symm))) (ltz zz49 rfl) ?_
  intro ac50 q50
  have zz50 := q50.z.trans zz49
  have dd50 := q50.f.trans dd49
  have t7 := q50.l (q49.l (q48.l (q47.l (q46.l (q45.l (q44.l (q43.l (PL.nil _))))))))
  have f0_50 := (t7 _ (by decide)).trans (f0_42)
  have f1_50 := (t7 _ (by decide)).trans (f1_42)
  have f2_50 := (t7 _ (by decide)).trans (f2_42)
  have f3_50 := (t7 _ (by decide)).trans (f3_42)
  have f4_50 := (t7 _ (by decide)).trans (f4_42)
  have f5_50 := (t7 _ (by decide)).trans (f5_42)
  have f6_50 := (t7 _ (by decide)).trans (f6_42)
  have f7_50 := (t7 _ (by decide)).trans (f7_42)
  have f8_50 := (t7 _ (by decide)).trans (f8_42)
  have f9_50 := (t7 _ (by decide)).trans (f9_42)
  refine wpList_nil (Exit.at_normal ?_)
  refine wp_seq (wp_region_lit ?_)
  show wpList _ _ _ _ _ _
  refine wlPut (exMove (f0_50)) (ltz zz50 rfl) ?_
  intro ac51 q51
  have zz51 := q51.z.trans zz50
  have dd51 := q51.f.trans dd50
  refine wlPut (exMove ((q51.n _ (by decide)).trans (q50.v))) (ltz zz51 rfl) ?_
  intro ac52 q52
  have zz52 := q52.z.trans zz51
  have dd52 := q52.f.trans dd51
  refine wlPut (exAndM (q52.v) rfl (by omega) (by omega)) (ltz zz52 rfl) ?_
  intro ac53 q53
  have zz53 := q53.z.trans zz52
  have dd53 := q53.f.trans dd52
  refine wlPut (exConvDown (q53.v) ⟨by omega, by omega⟩) (ltz zz53 rfl) ?_
  intro ac54 q54
  have zz54 := q54.z.trans zz53
  have dd54 := q54.f.trans dd53
  refine wlPut (exNil ((q54.n _ (by decide)).trans ((q53.n _ (by decide)).trans ((q52.n _ (by decide)).trans (q51.v))))) (ltz zz54 rfl) ?_
  intro ac55 q55
  have zz55 := q55.z.trans zz54
  have dd55 := q55.f.trans dd54
  refine wlPut (exField44 (q55.v)) (ltz zz55 rfl) ?_
  intro ac56 q56
  have zz56 := q56.z.trans zz55
  have dd56 := q56.f.trans dd55
  refine wlPut (exIndex42 (i := 3) (q56.v) rfl (by decide)) (ltz zz56 rfl) ?_
  intro ac57 q57
  have zz57 := q57.z.trans zz56
  have dd57 := q57.f.trans dd56
  refine wlSkip (exStore33 (q57.v) ((q57.n _ (by decide)).trans ((q56.n _ (by decide)).trans ((q55.n _ (by decide)).trans (q54.v)))) hSw.2.2.2.1 hfw.2.2.2.1) ?_
  replace hfw := F8.fr ((Fr.refl (Rng d q 8) _).setCell (b := d) (o := q + 3) (fun _ => ⟨rfl, by omega, by omega⟩) (.int .u32 (c3 % 4294967296))) hSw.lt hfw
  replace hT := hT.setCell (b := d) (o := q + 3) (fun _ => .inl ⟨rfl, by omega, by omega⟩) (.int .u32 (c3 % 4294967296))
  replace hSw := hSw.set3 (c3 % 4294967296) ⟨by omega, by omega⟩
  change wpList _ _ _ _ _ (World.setCell wt2 ⟨d, q + 3, none⟩ (.int .u32 (c3 % 4294967296)))
  generalize World.setCell wt2 ⟨d, q + 3, none⟩ (.int .u32 (c3 % 4294967296)) = wt3 at hSw hfw hT ⊢
  have t8 := q57.l (q56.l (q55.l (q54.l (q53.l (q52.l (q51.l (PL.nil _)))))))
  have f0_57 := (t8 _ (by decide)).trans (f0_50)
  have f29_57 := (t8 _ (by decide)).trans (q50.v)
  have f1_57 := (t8 _ (by decide)).trans (f1_50)
  have f2_57 := (t8 _ (by decide)).trans (f2_50)
  have f3_57 := (t8 _ (by decide)).trans (f3_50)
  have f4_57 := (t8 _ (by decide)).trans (f4_50)
  have f5_57 := (t8 _ (by decide)).trans (f5_50)
  have f6_57 := (t8 _ (by decide)).trans (f6_50)
  have f7_57 := (t8 _ (by decide)).trans (f7_50)
  have f8_57 := (t8 _ (by decide)).trans (f8_50)
  have f9_57 := (t8 _ (by decide)).trans (f9_50)
  refine wpList_nil (Exit.at_normal ?_)
  refine wp_seq (wp_region_lit ?_)
  show wpList _ _ _ _ _ _
  refine wlPut (exMove (f29_57)) (ltz zz57 rfl) ?_
  intro ac58 q58
  have zz58 := q58.z.trans zz57
  have dd58 := q58.f.trans dd57
  refine wlPut (exShr32 (q58.v) rfl (by omega) (by omega)) (ltz zz58 rfl) ?_
  intro ac59 q59
  have zz59 := q59.z.trans zz58
  have dd59 := q59.f.trans dd58
  refine wlPut (exMove ((q59.n _ (by decide)).trans ((q58.n _ (by decide)).trans (f5_57)))) (ltz zz59 rfl) ?_
  intro ac60 q60
  have zz60 := q60.z.trans zz59
  have dd60 := q60.f.trans dd59
  refine wlPut (exAdd ((q60.n _ (by decide)).trans (q59.v)) (q60.v) (by omega) (by omega)) (ltz zz60 rfl) ?_
  intro ac61 q61
  have zz61 := q61.z.trans zz60
  have dd61 := q61.f.trans dd60
  refine wlPut (exMove ((q61.n _ (by decide)).trans ((q60.n _ (by decide)).trans ((q59.n _ (by decide)).trans ((q58.n _ (by decide)).trans (f9_57)))))) (ltz zz61 rfl) ?_
  intro ac62 q62
  have zz62 := q62.z.trans zz61
  have dd62 := q62.f.trans dd61
  refine wlPut (exAdd ((q62.n _ (by decide)).trans (q61.v)) (q62.v) (by omega) (by omega)) (ltz zz62 rfl) ?_
  intro ac63 q63
  have zz63 := q63.z.trans zz62
  have dd63 := q63.f.trans dd62
  refine wlPut (exAssign ((q63.v).trans (congrArg (Value.int .u64) k4.symm))) (ltz zz63 rfl) ?_
  intro ac64 q64
  have zz64 := q64.z.trans zz63
  have dd64 := q64.f.trans dd63
  have t9 := q64.l (q63.l (q62.l (q61.l (q60.l (q59.l (q58.l (PL.nil _)))))))
  have f0_64 := (t9 _ (by decide)).trans (f0_57)
  have f1_64 := (t9 _ (by decide)).trans (f1_57)
  have f2_64 := (t9 _ (by decide)).trans (f2_57)
  have f3_64 := (t9 _ (by decide)).trans (f3_57)
  have f4_64 := (t9 _ (by decide)).trans (f4_57)
  have f5_64 := (t9 _ (by decide)).trans (f5_57)
  have f6_64 := (t9 _ (by decide)).trans (f6_57)
  have f7_64 := (t9 _ (by decide)).trans (f7_57)
  have f8_64 := (t9 _ (by decide)).trans (f8_57)
  have f9_64 := (t9 _ (by decide)).trans (f9_57)
  refine wpList_nil (Exit.at_normal ?_)
  refine wp_seq (wp_region_lit ?_)
  show wpList _ _ _ _ _ _
  refine wlPut (exMove (f0_64)) (ltz zz64 rfl) ?_
  intro ac65 q65
  have zz65 := q65.z.trans zz64
  have dd65 := q65.f.trans dd64
  refine wlPut (exMove ((q65.n _ (by decide)).trans (q64.v))) (ltz zz65 rfl) ?_
  intro ac66 q66
  have zz66 := q66.z.trans zz65
  have dd66 := q66.f.trans dd65
  refine wlPut (exAndM (q66.v) rfl (by omega) (by omega)) (ltz zz66 rfl) ?_
  intro ac67 q67
  have zz67 := q67.z.trans zz66
  have dd67 := q67.f.trans dd66
  refine wlPut (exConvDown (q67.v) ⟨by omega, by omega⟩) (ltz zz67 rfl) ?_
  intro ac68 q68
  have zz68 := q68.z.trans zz67
  have dd68 := q68.f.trans dd67
  refine wlPut (exNil ((q68.n _ (by decide)).trans ((q67.n _ (by decide)).trans ((q66.n _ (by decide)).trans (q65.v))))) (ltz zz68 rfl) ?_
  intro ac69 q69
  have zz69 := q69.z.trans zz68
  have dd69 := q69.f.trans dd68
  refine wlPut (exField44 (q69.v)) (ltz zz69 rfl) ?_
  intro ac70 q70
  have zz70 := q70.z.trans zz69
  have dd70 := q70.f.trans dd69
  refine wlPut (exIndex42 (i := 4) (q70.v) rfl (by decide)) (ltz zz70 rfl) ?_
  intro ac71 q71
  have zz71 := q71.z.trans zz70
  have dd71 := q71.f.trans dd70
  refine wlSkip (exStore33 (q71.v) ((q71.n _ (by decide)).trans ((q70.n _ (by decide)).trans ((q69.n _ (by decide)).trans (q68.v)))) hSw.2.2.2.2.1 hfw.2.2.2.2.1) ?_
  replace hfw := F8.fr ((Fr.refl (Rng d q 8) _).setCell (b := d) (o := q + 4) (fun _ => ⟨rfl, by omega, by omega⟩) (.int .u32 (c4 % 4294967296))) hSw.lt hfw
  replace hT := hT.setCell (b := d) (o := q + 4) (fun _ => .inl ⟨rfl, by omega, by omega⟩) (.int .u32 (c4 % 4294967296))
  replace hSw := hSw.set4 (c4 % 4294967296) ⟨by omega, by omega⟩
  change wpList _ _ _ _ _ (World.setCell wt3 ⟨d, q + 4, none⟩ (.int .u32 (c4 % 4294967296)))
  generalize World.setCell wt3 ⟨d, q + 4, none⟩ (.int .u32 (c4 % 4294967296)) = wt4 at hSw hfw hT ⊢
  have t10 := q71.l (q70.l (q69.l (q68.l (q67.l (q66.l (q65.l (PL.nil _)))))))
  have f0_71 := (t10 _ (by decide)).trans (f0_64)
  have f29_71 := (t10 _ (by decide)).trans (q64.v)
  have f1_71 := (t10 _ (by decide)).trans (f1_64)
  have f2_71 := (t10 _ (by decide)).trans (f2_64)
  have f3_71 := (t10 _ (by decide)).trans (f3_64)
  have f4_71 := (t10 _ (by decide)).trans (f4_64)
  have f5_71 := (t10 _ (by decide)).trans (f5_64)
  have f6_71 := (t10 _ (by decide)).trans (f6_64)
  have f7_71 := (t10 _ (by decide)).trans (f7_64)
  have f8_71 := (t10 _ (by decide)).trans (f8_64)
  have f9_71 := (t10 _ (by decide)).trans (f9_64)
  refine wpList_nil (Exit.at_normal ?_)
  refine wp_seq (wp_region_lit ?_)
  show wpList _ _ _ _ _ _
  refine wlPut (exMove (f29_71)) (ltz zz71 rfl) ?_
  intro ac72 q72
  have zz72 := q72.z.trans zz71
  have dd72 := q72.f.trans dd71
  refine wlPut (exShr32 (q72.v) rfl (by omega) (by omega)) (ltz zz72 rfl) ?_
  intro ac73 q73
  have zz73 := q73.z.trans zz72
  have dd73 := q73.f.trans dd72
  refine wlPut (exMove ((q73.n _ (by decide)).trans ((q72.n _ (by decide)).trans (f6_71)))) (ltz zz73 rfl) ?_
  intro ac74 q74
  have zz74 := q74.z.trans zz73
  have dd74 := q74.f.trans dd73
  refine wlPut (exAdd ((q74.n _ (by decide)).trans (q73.v)) (q74.v) (by omega) (by omega)) (ltz zz74 rfl) ?_
  intro ac75 q75
  have zz75 := q75.z.trans zz74
  have dd75 := q75.f.trans dd74
  refine wlPut (exAssign ((q75.v).trans (congrArg (Value.int .u64) k5.symm))) (ltz zz75 rfl) ?_
  intro ac76 q76
  have zz76 := q76.z.trans zz75
  have dd76 := q76.f.trans dd75
  have t11 := q76.l (q75.l (q74.l (q73.l (q72.l (PL.nil _)))))
  have f0_76 := (t11 _ (by decide)).trans (f0_71)
  have f1_76 := (t11 _ (by decide)).trans (f1_71)
  have f2_76 := (t11 _ (by decide)).trans (f2_71)
  have f3_76 := (t11 _ (by decide)).trans (f3_71)
  have f4_76 := (t11 _ (by decide)).trans (f4_71)
  have f5_76 := (t11 _ (by decide)).trans (f5_71)
  have f6_76 := (t11 _ (by decide)).trans (f6_71)
  have f7_76 := (t11 _ (by decide)).trans (f7_71)
  have f8_76 := (t11 _ (by decide)).trans (f8_71)
  have f9_76 := (t11 _ (by decide)).trans (f9_71)
  refine wpList_nil (Exit.at_normal ?_)
  refine wp_seq (wp_region_lit ?_)
  show wpList _ _ _ _ _ _
  refine wlPut (exMove (f0_76)) (ltz zz76 rfl) ?_
  intro ac77 q77
  have zz77 := q77.z.trans zz76
  have dd77 := q77.f.trans dd76
  refine wlPut (exMove ((q77.n _ (by decide)).trans (q76.v))) (ltz zz77 rfl) ?_
  intro ac78 q78
  have zz78 := q78.z.trans zz77
  have dd78 := q78.f.trans dd77
  refine wlPut (exAndM (q78.v) rfl (by omega) (by omega)) (ltz zz78 rfl) ?_
  intro ac79 q79
  have zz79 := q79.z.trans zz78
  have dd79 := q79.f.trans dd78
  refine wlPut (exConvDown (q79.v) ⟨by omega, by omega⟩) (ltz zz79 rfl) ?_
  intro ac80 q80
  have zz80 := q80.z.trans zz79
  have dd80 := q80.f.trans dd79
  refine wlPut (exNil ((q80.n _ (by decide)).trans ((q79.n _ (by decide)).trans ((q78.n _ (by decide)).trans (q77.v))))) (ltz zz80 rfl) ?_
  intro ac81 q81
  have zz81 := q81.z.trans zz80
  have dd81 := q81.f.trans dd80
  refine wlPut (exField44 (q81.v)) (ltz zz81 rfl) ?_
  intro ac82 q82
  have zz82 := q82.z.trans zz81
  have dd82 := q82.f.trans dd81
  refine wlPut (exIndex42 (i := 5) (q82.v) rfl (by decide)) (ltz zz82 rfl) ?_
  intro ac83 q83
  have zz83 := q83.z.trans zz82
  have dd83 := q83.f.trans dd82
  refine wlSkip (exStore33 (q83.v) ((q83.n _ (by decide)).trans ((q82.n _ (by decide)).trans ((q81.n _ (by decide)).trans (q80.v)))) hSw.2.2.2.2.2.1 hfw.2.2.2.2.2.1) ?_
  replace hfw := F8.fr ((Fr.refl (Rng d q 8) _).setCell (b := d) (o := q + 5) (fun _ => ⟨rfl, by omega, by omega⟩) (.int .u32 (c5 % 4294967296))) hSw.lt hfw
  replace hT := hT.setCell (b := d) (o := q + 5) (fun _ => .inl ⟨rfl, by omega, by omega⟩) (.int .u32 (c5 % 4294967296))
  replace hSw := hSw.set5 (c5 % 4294967296) ⟨by omega, by omega⟩
  change wpList _ _ _ _ _ (World.setCell wt4 ⟨d, q + 5, none⟩ (.int .u32 (c5 % 4294967296)))
  generalize World.setCell wt4 ⟨d, q + 5, none⟩ (.int .u32 (c5 % 4294967296)) = wt5 at hSw hfw hT ⊢
  have t12 := q83.l (q82.l (q81.l (q80.l (q79.l (q78.l (q77.l (PL.nil _)))))))
  have f0_83 := (t12 _ (by decide)).trans (f0_76)
  have f29_83 := (t12 _ (by decide)).trans (q76.v)
  have f1_83 := (t12 _ (by decide)).trans (f1_76)
  have f2_83 := (t12 _ (by decide)).trans (f2_76)
  have f3_83 := (t12 _ (by decide)).trans (f3_76)
  have f4_83 := (t12 _ (by decide)).trans (f4_76)
  have f5_83 := (t12 _ (by decide)).trans (f5_76)
  have f6_83 := (t12 _ (by decide)).trans (f6_76)
  have f7_83 := (t12 _ (by decide)).trans (f7_76)
  have f8_83 := (t12 _ (by decide)).trans (f8_76)
  have f9_83 := (t12 _ (by decide)).trans (f9_76)
  refine wpList_nil (Exit.at_normal ?_)
  refine wp_seq (wp_region_lit ?_)
  show wpList _ _ _ _ _ _
  refine wlPut (exMove (f29_83)) (ltz zz83 rfl) ?_
  intro ac84 q84
  have zz84 := q84.z.trans zz83
  have dd84 := q84.f.trans dd83
  refine wlPut (exShr32 (q84.v) rfl (by omega) (by omega)) (ltz zz84 rfl) ?_
  intro ac85 q85
  have zz85 := q85.z.trans zz84
  have dd85 := q85.f.trans dd84
  refine wlPut (exMove ((q85.n _ (by decide)).trans ((q84.n _ (by decide)).trans (f7_83)))) (ltz zz85 rfl) ?_
  intro ac86 q86
  have zz86 := q86.z.trans zz85
  have dd86 := q86.f.trans dd85
  refine wlPut (exAdd ((q86.n _ (by decide)).trans (q85.v)) (q86.v) (by omega) (by omega)) (ltz zz86 rfl) ?_
  intro ac87 q87
  have zz87 := q87.z.trans zz86
  have dd87 := q87.f.trans dd86
  refine wlPut (exAssign ((q87.v).trans (congrArg (Value.int .u64) k6.symm))) (ltz zz87 rfl) ?_
  intro ac88 q88
  have zz88 := q88.z.trans zz87
  have dd88 := q88.f.trans dd87
  have t13 := q88.l (q87.l (q86.l (q85.l (q84.l (PL.nil _)))))
  have f0_88 := (t13 _ (by decide)).trans (f0_83)
  have f1_88 := (t13 _ (by decide)).trans (f1_83)
  have f2_88 := (t13 _ (by decide)).trans (f2_83)
  have f3_88 := (t13 _ (by decide)).trans (f3_83)
  have f4_88 := (t13 _ (by decide)).trans (f4_83)
  have f5_88 := (t13 _ (by decide)).trans (f5_83)
  have f6_88 := (t13 _ (by decide)).trans (f6_83)
  have f7_88 := (t13 _ (by decide)).trans (f7_83)
  have f8_88 := (t13 _ (by decide)).trans (f8_83)
  have f9_88 := (t13 _ (by decide)).trans (f9_83)
  refine wpList_nil (Exit.at_normal ?_)
  refine wp_seq (wp_region_lit ?_)
  show wpList _ _ _ _ _ _
  refine wlPut (exMove (f0_88)) (ltz zz88 rfl) ?_
  intro ac89 q89
  have zz89 := q89.z.trans zz88
  have dd89 := q89.f.trans dd88
  refine wlPut (exMove ((q89.n _ (by decide)).trans (q88.v))) (ltz zz89 rfl) ?_
  intro ac90 q90
  have zz90 := q90.z.trans zz89
  have dd90 := q90.f.trans dd89
  refine wlPut (exAndM (q90.v) rfl (by omega) (by omega)) (ltz zz90 rfl) ?_
  intro ac91 q91
  have zz91 := q91.z.trans zz90
  have dd91 := q91.f.trans dd90
  refine wlPut (exConvDown (q91.v) ⟨by omega, by omega⟩) (ltz zz91 rfl) ?_
  intro ac92 q92
  have zz92 := q92.z.trans zz91
  have dd92 := q92.f.trans dd91
  refine wlPut (exNil ((q92.n _ (by decide)).trans ((q91.n _ (by decide)).trans ((q90.n _ (by decide)).trans (q89.v))))) (ltz zz92 rfl) ?_
  intro ac93 q93
  have zz93 := q93.z.trans zz92
  have dd93 := q93.f.trans dd92
  refine wlPut (exField44 (q93.v)) (ltz zz93 rfl) ?_
  intro ac94 q94
  have zz94 := q94.z.trans zz93
  have dd94 := q94.f.trans dd93
  refine wlPut (exIndex42 (i := 6) (q94.v) rfl (by decide)) (ltz zz94 rfl) ?_
  intro ac95 q95
  have zz95 := q95.z.trans zz94
  have dd95 := q95.f.trans dd94
  refine wlSkip (exStore33 (q95.v) ((q95.n _ (by decide)).trans ((q94.n _ (by decide)).trans ((q93.n _ (by decide)).trans (q92.v)))) hSw.2.2.2.2.2.2.1 hfw.2.2.2.2.2.2.1) ?_
  replace hfw := F8.fr ((Fr.refl (Rng d q 8) _).setCell (b := d) (o := q + 6) (fun _ => ⟨rfl, by omega, by omega⟩) (.int .u32 (c6 % 4294967296))) hSw.lt hfw
  replace hT := hT.setCell (b := d) (o := q + 6) (fun _ => .inl ⟨rfl, by omega, by omega⟩) (.int .u32 (c6 % 4294967296))
  replace hSw := hSw.set6 (c6 % 4294967296) ⟨by omega, by omega⟩
  change wpList _ _ _ _ _ (World.setCell wt5 ⟨d, q + 6, none⟩ (.int .u32 (c6 % 4294967296)))
  generalize World.setCell wt5 ⟨d, q + 6, none⟩ (.int .u32 (c6 % 4294967296)) = wt6 at hSw hfw hT ⊢
  have t14 := q95.l (q94.l (q93.l (q92.l (q91.l (q90.l (q89.l (PL.nil _)))))))
  have f0_95 := (t14 _ (by decide)).trans (f0_88)
  have f29_95 := (t14 _ (by decide)).trans (q88.v)
  have f1_95 := (t14 _ (by decide)).trans (f1_88)
  have f2_95 := (t14 _ (by decide)).trans (f2_88)
  have f3_95 := (t14 _ (by decide)).trans (f3_88)
  have f4_95 := (t14 _ (by decide)).trans (f4_88)
  have f5_95 := (t14 _ (by decide)).trans (f5_88)
  have f6_95 := (t14 _ (by decide)).trans (f6_88)
  have f7_95 := (t14 _ (by decide)).trans (f7_88)
  have f8_95 := (t14 _ (by decide)).trans (f8_88)
  have f9_95 := (t14 _ (by decide)).trans (f9_88)
  refine wpList_nil (Exit.at_normal ?_)
  refine wp_seq (wp_region_lit ?_)
  show wpList _ _ _ _ _ _
  refine wlPut (exMove (f29_95)) (ltz zz95 rfl) ?_
  intro ac96 q96
  have zz96 := q96.z.trans zz95
  have dd96 := q96.f.trans dd95
  refine wlPut (exShr32 (q96.v) rfl (by omega) (by omega)) (ltz zz96 rfl) ?_
  intro ac97 q97
  have zz97 := q97.z.trans zz96
  have dd97 := q97.f.trans dd96
  refine wlPut (exMove ((q97.n _ (by decide)).trans ((q96.n _ (by decide)).trans (f8_95)))) (ltz zz97 rfl) ?_
  intro ac98 q98
  have zz98 := q98.z.trans zz97
  have dd98 := q98.f.trans dd97
  refine wlPut (exAdd ((q98.n _ (by decide)).trans (q97.v)) (q98.v) (by omega) (by omega)) (ltz zz98 rfl) ?_
  intro ac99 q99
  have zz99 := q99.z.trans zz98
  have dd99 := q99.f.trans dd98
  refine wlPut (exAssign ((q99.v).trans (congrArg (Value.int .u64) k7.symm))) (ltz zz99 rfl) ?_
  intro ac100 q100
  have zz100 := q100.z.trans zz99
  have dd100 := q100.f.trans dd99
  have t15 := q100.l (q99.l (q98.l (q97.l (q96.l (PL.nil _)))))
  have f0_100 := (t15 _ (by decide)).trans (f0_95)
  have f1_100 := (t15 _ (by decide)).trans (f1_95)
  have f2_100 := (t15 _ (by decide)).trans (f2_95)
  have f3_100 := (t15 _ (by decide)).trans (f3_95)
  have f4_100 := (t15 _ (by decide)).trans (f4_95)
  have f5_100 := (t15 _ (by decide)).trans (f5_95)
  have f6_100 := (t15 _ (by decide)).trans (f6_95)
  have f7_100 := (t15 _ (by decide)).trans (f7_95)
  have f8_100 := (t15 _ (by decide)).trans (f8_95)
  have f9_100 := (t15 _ (by decide)).trans (f9_95)
  refine wpList_nil (Exit.at_normal ?_)
  refine wp_seq (wp_region_lit ?_)
  show wpList _ _ _ _ _ _
  refine wlPut (exMove (f0_100)) (ltz zz100 rfl) ?_
  intro ac101 q101
  have zz101 := q101.z.trans zz100
  have dd101 := q101.f.trans dd100
  refine wlPut (exMove ((q101.n _ (by decide)).trans (q100.v))) (ltz zz101 rfl) ?_
  intro ac102 q102
  have zz102 := q102.z.trans zz101
  have dd102 := q102.f.trans dd101
  refine wlPut (exAndM (q102.v) rfl (by omega) (by omega)) (ltz zz102 rfl) ?_
  intro ac103 q103
  have zz103 := q103.z.trans zz102
  have dd103 := q103.f.trans dd102
  refine wlPut (exConvDown (q103.v) ⟨by omega, by omega⟩) (ltz zz103 rfl) ?_
  intro ac104 q104
  have zz104 := q104.z.trans zz103
  have dd104 := q104.f.trans dd103
  refine wlPut (exNil ((q104.n _ (by decide)).trans ((q103.n _ (by decide)).trans ((q102.n _ (by decide)).trans (q101.v))))) (ltz zz104 rfl) ?_
  intro ac105 q105
  have zz105 := q105.z.trans zz104
  have dd105 := q105.f.trans dd104
  refine wlPut (exField44 (q105.v)) (ltz zz105 rfl) ?_
  intro ac106 q106
  have zz106 := q106.z.trans zz105
  have dd106 := q106.f.trans dd105
  refine wlPut (exIndex42 (i := 7) (q106.v) rfl (by decide)) (ltz zz106 rfl) ?_
  intro ac107 q107
  have zz107 := q107.z.trans zz106
  have dd107 := q107.f.trans dd106
  refine wlSkip (exStore33 (q107.v) ((q107.n _ (by decide)).trans ((q106.n _ (by decide)).trans ((q105.n _ (by decide)).trans (q104.v)))) hSw.2.2.2.2.2.2.2.1 hfw.2.2.2.2.2.2.2) ?_
  replace hfw := F8.fr ((Fr.refl (Rng d q 8) _).setCell (b := d) (o := q + 7) (fun _ => ⟨rfl, by omega, by omega⟩) (.int .u32 (c7 % 4294967296))) hSw.lt hfw
  replace hT := hT.setCell (b := d) (o := q + 7) (fun _ => .inl ⟨rfl, by omega, by omega⟩) (.int .u32 (c7 % 4294967296))
  replace hSw := hSw.set7 (c7 % 4294967296) ⟨by omega, by omega⟩
  change wpList _ _ _ _ _ (World.setCell wt6 ⟨d, q + 7, none⟩ (.int .u32 (c7 % 4294967296)))
  generalize World.setCell wt6 ⟨d, q + 7, none⟩ (.int .u32 (c7 % 4294967296)) = wt7 at hSw hfw hT ⊢
  have t16 := q107.l (q106.l (q105.l (q104.l (q103.l (q102.l (q101.l (PL.nil _)))))))
  have f0_107 := (t16 _ (by decide)).trans (f0_100)
  have f29_107 := (t16 _ (by decide)).trans (q100.v)
  have f1_107 := (t16 _ (by decide)).trans (f1_100)
  have f2_107 := (t16 _ (by decide)).trans (f2_100)
  have f3_107 := (t16 _ (by decide)).trans (f3_100)
  have f4_107 := (t16 _ (by decide)).trans (f4_100)
  have f5_107 := (t16 _ (by decide)).trans (f5_100)
  have f6_107 := (t16 _ (by decide)).trans (f6_100)
  have f7_107 := (t16 _ (by decide)).trans (f7_100)
  have f8_107 := (t16 _ (by decide)).trans (f8_100)
  have f9_107 := (t16 _ (by decide)).trans (f9_100)
  refine wpList_nil (Exit.at_normal ?_)
  refine wp_region_lit ?_
  show wpList _ _ _ _ _ _
  refine wlPut (exMove (f0_107)) (ltz zz107 rfl) ?_
  intro ac108 q108
  have zz108 := q108.z.trans zz107
  have dd108 := q108.f.trans dd107
  refine wlPut (exMove ((q108.n _ (by decide)).trans (f29_107))) (ltz zz108 rfl) ?_
  intro ac109 q109
  have zz109 := q109.z.trans zz108
  have dd109 := q109.f.trans dd108
  refine wlPut (exShr32 (q109.v) rfl (by omega) (by omega)) (ltz zz109 rfl) ?_
  intro ac110 q110
  have zz110 := q110.z.trans zz109
  have dd110 := q110.f.trans dd109
  refine wlPut (exConvDown (q110.v) ⟨by omega, by omega⟩) (ltz zz110 rfl) ?_
  intro ac111 q111
  have zz111 := q111.z.trans zz110
  have dd111 := q111.f.trans dd110
  refine wlPut (exMove ((q111.n _ (by decide)).trans ((q110.n _ (by decide)).trans ((q109.n _ (by decide)).trans ((q108.n _ (by decide)).trans (f0_107)))))) (ltz zz111 rfl) ?_
  intro ac112 q112
  have zz112 := q112.z.trans zz111
  have dd112 := q112.f.trans dd111
  refine wlCall (exCall1 (q112.v) rfl (by go_simp)) (overflows d q (c0 % 4294967296) (c1 % 4294967296) (c2 % 4294967296) (c3 % 4294967296) (c4 % 4294967296) (c5 % 4294967296) (c6 % 4294967296) (c7 % 4294967296) _ hSw) (ltz zz112 rfl) ?_
  rintro e w' ⟨rfl, rfl⟩
  refine ⟨_, rfl, fun ac113 q113 => ?_⟩
  have zz113 := q113.z.trans zz112
  have dd113 := q113.f.trans dd112
  refine wlPut (exAdd32 ((q113.n _ (by decide)).trans ((q112.n _ (by decide)).trans (q111.v))) (q113.v) (by omega) (by omega)) (ltz zz113 rfl) ?_
  intro ac114 q114
  have zz114 := q114.z.trans zz113
  have dd114 := q114.f.trans dd113
  refine wlCall (exCall2 ((q114.n _ (by decide)).trans ((q113.n _ (by decide)).trans ((q112.n _ (by decide)).trans ((q111.n _ (by decide)).trans ((q110.n _ (by decide)).trans ((q109.n _ (by decide)).trans (q108.v))))))) (q114.v) rfl (by go_simp)) (reduce256g d q _ _ _ ⟨_, _, _, _, _, _, _, _, hSw, rfl⟩ hfw AA1) (ltz zz114 rfl) ?_
  rintro e w' ⟨rfl, hR, hFR⟩
  refine ⟨_, rfl, fun aE qE => wpList_nil ?_⟩
  rw [AA5] at hR
  refine endA rfl (qE.f.trans dd114) ⟨rfl, hR, ?_⟩
  refine ((hF0.mono (fun _ _ _ f => f.elim)).trans ((h.fr.mono (T := Or2 (Rng d q 8) (Rng g 0 3)) (fun _ _ _ f => .inr f)).trans (hT.trans (hFR.mono (fun _ _ _ f => .inl f))))).mono (fun k o hk f => ?_)
  rcases f with f | f
  · exact f
  have := f.1; omega
theorem exCall14 {ρ : Operand → Value} {w : World} {d : Option Nat} {ty : TypeId} {pos : String} {after : Array Edge} {g : Option (Nat × Bool)} {f : FuncId} {x0 x1 x2 x3 x4 x5 x6 x7 x8 x9 x10 x11 x12 x13 : Operand} {y0 y1 y2 y3 y4 y5 y6 y7 y8 y9 y10 y11 y12 y13 : Value} {ts : Array TypeId} (h0 : ρ x0 = y0) (h1 : ρ x1 = y1) (h2 : ρ x2 = y2) (h3 : ρ x3 = y3) (h4 : ρ x4 = y4) (h5 : ρ x5 = y5) (h6 : ρ x6 = y6) (h7 : ρ x7 = y7) (h8 : ρ x8 = y8) (h9 : ρ x9 = y9) (h10 : ρ x10 = y10) (h11 : ρ x11 = y11) (h12 : ρ x12 = y12) (h13 : ρ x13 = y13) (hf : ρ (.func f) = .func (.func f) #[] #[])
    (hF : (callFunc f #[y0, y1, y2, y3, y4, y5, y6, y7, y8, y9, y10, y11, y12, y13]).run Tryz.prog w = .ok (.enter f #[y0, y1, y2, y3, y4, y5, y6, y7, y8, y9, y10, y11, y12, y13]) w) :
    (execOp ρ ⟨d, .call { callee := .value (.func f), args := #[x0, x1, x2, x3, x4, x5, x6, x7, x8, x9, x10, x11, x12, x13], argTypes := ts }, ty, pos, after, g⟩).run Tryz.prog w = .ok (.enter f #[y0, y1, y2, y3, y4, y5, y6, y7, y8, y9, y10, y11, y12, y13]) w := by
  simp only [execOp]; go_simp
def val16 (v1 v2 v3 v4 v5 v6 v7 v8 v9 v10 v11 v12 v13 v14 v15 v16 : Int) : Int := v1 + 4294967296 * v2 + 18446744073709551616 * v3 + 79228162514264337593543950336 * v4 + 340282366920938463463374607431768211456 * v5 + 1461501637330902918203684832716283019655932542976 * v6 + 6277101735386680763835789423207666416102355444464034512896 * v7 + 26959946667150639794667015087019630673637144422540572481103610249216 * v8 + 115792089237316195423570985008687907853269984665640564039457584007913129639936 * v9 + 497323236409786642155382248146820840100456150797347717440463976893159497012533375533056 * v10 + 2135987035920910082395021706169552114602704522356652769947041607822219725780640550022962086936576 * v11 + 9173994463960286046443283581208347763186259956673124494950355357547691504353939232280074212440502746218496 * v12 + 39402006196394479212279040100143613805079739270465446667948293404245721771497210611414266254884915640806627990306816 * v13 + 169230328010303641331690318856389386196071598838855992136870091590247882556495704531248437872567112920983350278405979725889536 * v14 + 726838724295606890549323807888004534353641360687318060281490199180639288113397923326191050713763565560762521606266177933534601628614656 * v15 + 3121748550315992231381597229793166305748598142664971150859156959625371738819765620120306103063491971159826931121406622895447975679288285306290176 * v16
def V16 (v1 v2 v3 v4 v5 v6 v7 v8 v9 v10 v11 v12 v13 v14 v15 v16 : Int) (k : Nat) : Int := match k with | 1 => v1 | 2 => v2 | 3 => v3 | 4 => v4 | 5 => v5 | 6 => v6 | 7 => v7 | 8 => v8 | 9 => v9 | 10 => v10 | 11 => v11 | 12 => v12 | 13 => v13 | 14 => v14 | 15 => v15 | 16 => v16 | _ => 0
set_option maxHeartbeats 4000000 in
theorem arith512 {v1 v2 v3 v4 v5 v6 v7 v8 v9 v10 v11 v12 v13 v14 v15 v16 A1 A2 A3 A4 A5 A6 A7 A8 A9 A10 A11 A12 A13 : Int} (u1 : U32 v1) (u2 : U32 v2) (u3 : U32 v3) (u4 : U32 v4) (u5 : U32 v5) (u6 : U32 v6) (u7 : U32 v7) (u8 : U32 v8) (u9 : U32 v9) (u10 : U32 v10) (u11 : U32 v11) (u12 : U32 v12) (u13 : U32 v13) (u14 : U32 v14) (u15 : U32 v15) (u16 : U32 v16) (h1 : A1 = v1 + v9 * 801750719) (h2 : A2 = A1 / 4294967296 + v2 + v9 * 1076732275 + v10 * 801750719) (h3 : A3 = A2 / 4294967296 + v3 + v9 * 1354194884 + v10 * 1076732275 + v11 * 801750719) (h4 : A4 = A3 / 4294967296 + v4 + v9 * 1162945305 + v10 * 1354194884 + v11 * 1076732275 + v12 * 801750719) (h5 : A5 = A4 / 4294967296 + v5 + v9 + v10 * 1162945305 + v11 * 1354194884 + v12 * 1076732275 + v13 * 801750719) (h6 : A6 = A5 / 4294967296 + v6 + v10 + v11 * 1162945305 + v12 * 1354194884 + v13 * 1076732275 + v14 * 801750719) (h7 : A7 = A6 / 4294967296 + v7 + v11 + v12 * 1162945305 + v13 * 1354194884 + v14 * 1076732275 + v15 * 801750719) (h8 : A8 = A7 / 4294967296 + v8 + v12 + v13 * 1162945305 + v14 * 1354194884 + v15 * 1076732275 + v16 * 801750719) (h9 : A9 = A8 / 4294967296 + v13 + v14 * 1162945305 + v15 * 1354194884 + v16 * 1076732275) (h10 : A10 = A9 / 4294967296 + v14 + v15 * 1162945305 + v16 * 1354194884) (h11 : A11 = A10 / 4294967296 + v15 + v16 * 1162945305) (h12 : A12 = A11 / 4294967296 + v16) (h13 : A13 = A12 / 4294967296) : A13 % 4294967296 ≤ 3 ∧ val13 (A1 % 4294967296) (A2 % 4294967296) (A3 % 4294967296) (A4 % 4294967296) (A5 % 4294967296) (A6 % 4294967296) (A7 % 4294967296) (A8 % 4294967296) (A9 % 4294967296) (A10 % 4294967296) (A11 % 4294967296) (A12 % 4294967296) (A13 % 4294967296) % NN = val16 v1 v2 v3 v4 v5 v6 v7 v8 v9 v10 v11 v12 v13 v14 v15 v16 % NN := by
  unfold U32 at u1 u2 u3 u4 u5 u6 u7 u8 u9 u10 u11 u12 u13 u14 u15 u16
  obtain ⟨hi, hhi⟩ : ∃ hi, hi = v9 + 4294967296 * v10 + 18446744073709551616 * v11 + 79228162514264337593543950336 * v12 + 340282366920938463463374607431768211456 * v13 + 1461501637330902918203684832716283019655932542976 * v14 + 6277101735386680763835789423207666416102355444464034512896 * v15 + 26959946667150639794667015087019630673637144422540572481103610249216 * v16 := ⟨_, rfl⟩
  obtain ⟨P1, hP1⟩ : ∃ P, P = 1 * (A1 % 4294967296) := ⟨_, rfl⟩
  obtain ⟨C1, hC1⟩ : ∃ C, C = 1 * v1 + 801750719 * v9 := ⟨_, rfl⟩
  have s1 : P1 + 4294967296 * (A1 / 4294967296) = C1 := by
    clear h2 h3 h4 h5 h6 h7 h8 h9 h10 h11 h12 h13 u1 u2 u3 u4 u5 u6 u7 u8 u9 u10 u11 u12 u13 u14 u15 u16 hhi
    omega
  obtain ⟨P2, hP2⟩ : ∃ P, P = P1 + 4294967296 * (A2 % 4294967296) := ⟨_, rfl⟩
  obtain ⟨C2, hC2⟩ : ∃ C, C = C1 + 4294967296 * v2 + 4624529907672678400 * v9 + 3443493117649485824 * v10 := ⟨_, rfl⟩
  have s2 : P2 + 18446744073709551616 * (A2 / 4294967296) = C2 := by
    clear hP1 hC1 h1 h3 h4 h5 h6 h7 h8 h9 h10 h11 h12 h13 u1 u2 u3 u4 u5 u6 u7 u8 u9 u10 u11 u12 u13 u14 u15 u16 hhi
    omega
  obtain ⟨P3, hP3⟩ : ∃ P, P = P2 + 18446744073709551616 * (A3 % 4294967296) := ⟨_, rfl⟩
  obtain ⟨C3, hC3⟩ : ∃ C, C = C2 + 18446744073709551616 * v3 + 24980486451074793700321132544 * v9 + 19862204712828053200725606400 * v10 + 14789690324305622005295611904 * v11 := ⟨_, rfl⟩
  have s3 : P3 + 79228162514264337593543950336 * (A3 / 4294967296) = C3 := by
    clear hP1 hC1 hP2 hC2 s1 h1 h2 h4 h5 h6 h7 h8 h9 h10 h11 h12 h13 u1 u2 u3 u4 u5 u6 u7 u8 u9 u10 u11 u12 u13 u14 u15 u16 hhi
    omega
  obtain ⟨P4, hP4⟩ : ∃ P, P = P3 + 79228162514264337593543950336 * (A4 % 4294967296) := ⟨_, rfl⟩
  obtain ⟨C4, hC4⟩ : ∃ C, C = C3 + 79228162514264337593543950336 * v4 + 92138019619740706933346935354404372480 * v9 + 107290372345537342992826088974161281024 * v10 + 85307519668053560168464602957768294400 * v11 + 63521236260860280421682591939988291584 * v12 := ⟨_, rfl⟩
  have s4 : P4 + 340282366920938463463374607431768211456 * (A4 / 4294967296) = C4 := by
    clear hP1 hC1 hP2 hC2 hP3 hC3 s1 s2 h1 h2 h3 h5 h6 h7 h8 h9 h10 h11 h12 h13 u1 u2 u3 u4 u5 u6 u7 u8 u9 u10 u11 u12 u13 u14 u15 u16 hhi
    omega
  obtain ⟨P5, hP5⟩ : ∃ P, P = P4 + 340282366920938463463374607431768211456 * (A5 % 4294967296) := ⟨_, rfl⟩
  obtain ⟨C5, hC5⟩ : ∃ C, C = C4 + 340282366920938463463374607431768211456 * v5 + 340282366920938463463374607431768211456 * v9 + 395729780984992692278645539168992949361002414080 * v10 + 460808640399745699700922814759608891027545391104 * v11 + 366393007077166816899923720237239693593699942400 * v12 + 272821632341884229236515821674762906976192036864 * v13 := ⟨_, rfl⟩
  have s5 : P5 + 1461501637330902918203684832716283019655932542976 * (A5 / 4294967296) = C5 := by
    clear hP1 hC1 hP2 hC2 hP3 hC3 hP4 hC4 s1 s2 s3 h1 h2 h3 h4 h6 h7 h8 h9 h10 h11 h12 h13 u1 u2 u3 u4 u5 u6 u7 u8 u9 u10 u11 u12 u13 u14 u15 u16 hhi
    omega
  obtain ⟨P6, hP6⟩ : ∃ P, P = P5 + 1461501637330902918203684832716283019655932542976 * (A6 % 4294967296) := ⟨_, rfl⟩
  obtain ⟨C6, hC6⟩ : ∃ C, C = C5 + 1461501637330902918203684832716283019655932542976 * v6 + 1461501637330902918203684832716283019655932542976 * v10 + 1699646467383786280135774309907111734760089466250649927680 * v11 + 1979158040231132146932100470412786288714135289947209334784 * v12 + 1573645982879528026921592483313597845298001964245083750400 * v13 + 1171759988549728655589002503079674634016635048946506399744 * v14 := ⟨_, rfl⟩
  have s6 : P6 + 6277101735386680763835789423207666416102355444464034512896 * (A6 / 4294967296) = C6 := by
    clear hP1 hC1 hP2 hC2 hP3 hC3 hP4 hC4 hP5 hC5 s1 s2 s3 s4 h1 h2 h3 h4 h5 h7 h8 h9 h10 h11 h12 h13 u1 u2 u3 u4 u5 u6 u7 u8 u9 u10 u11 u12 u13 u14 u15 u16 hhi
    omega
  obtain ⟨P7, hP7⟩ : ∃ P, P = P6 + 6277101735386680763835789423207666416102355444464034512896 * (A7 % 4294967296) := ⟨_, rfl⟩
  obtain ⟨C7, hC7⟩ : ∃ C, C = C6 + 6277101735386680763835789423207666416102355444464034512896 * v7 + 6277101735386680763835789423207666416102355444464034512896 * v11 + 7299925992175292753836645100688013698612410663580637178130365153280 * v12 + 8500419056408164852127638253009132730264424963242741659363195224064 * v13 + 6758758031949348783543647272071328457650985810576396036749026918400 * v14 + 5032670829582419045428813367989341835422216655192604240355182772224 * v15 := ⟨_, rfl⟩
  have s7 : P7 + 26959946667150639794667015087019630673637144422540572481103610249216 * (A7 / 4294967296) = C7 := by
    clear hP1 hC1 hP2 hC2 hP3 hC3 hP4 hC4 hP5 hC5 hP6 hC6 s1 s2 s3 s4 s5 h1 h2 h3 h4 h5 h6 h8 h9 h10 h11 h12 h13 u1 u2 u3 u4 u5 u6 u7 u8 u9 u10 u11 u12 u13 u14 u15 u16 hhi
    omega
  obtain ⟨P8, hP8⟩ : ∃ P, P = P7 + 26959946667150639794667015087019630673637144422540572481103610249216 * (A8 % 4294967296) := ⟨_, rfl⟩
  obtain ⟨C8, hC8⟩ : ∃ C, C = C7 + 26959946667150639794667015087019630673637144422540572481103610249216 * v8 + 26959946667150639794667015087019630673637144422540572481103610249216 * v12 + 31352943399613234276954169233813645934740304379800494938911644757875627130880 * v13 + 36509021849568247267264882314392798665808894649373577536341695673418272210944 * v14 + 29028644708799776153817348022105969904885105038585671887381084774351660646400 * v15 + 21615156624589679136684291711601836459703034885878743793396433430804697186304 * v16 := ⟨_, rfl⟩
  have s8 : P8 + 115792089237316195423570985008687907853269984665640564039457584007913129639936 * (A8 / 4294967296) = C8 := by
    clear hP1 hC1 hP2 hC2 hP3 hC3 hP4 hC4 hP5 hC5 hP6 hC6 hP7 hC7 s1 s2 s3 s4 s5 s6 h1 h2 h3 h4 h5 h6 h7 h9 h10 h11 h12 h13 u1 u2 u3 u4 u5 u6 u7 u8 u9 u10 u11 u12 u13 u14 u15 u16 hhi
    omega
  obtain ⟨P9, hP9⟩ : ∃ P, P = P8 + 115792089237316195423570985008687907853269984665640564039457584007913129639936 * (A9 % 4294967296) := ⟨_, rfl⟩
  obtain ⟨C9, hC9⟩ : ∃ C, C = C8 + 115792089237316195423570985008687907853269984665640564039457584007913129639936 * v13 + 134659866534677900268304363350078986648232957564328688767239032068645656962619911700480 * v14 + 156805054852845053732944040909605860367561635904968902405107834398516175674830093287424 * v15 + 124677079671498481992766175312395425787841756778250278850488354194843922079578220134400 * v16 := ⟨_, rfl⟩
  have s9 : P9 + 497323236409786642155382248146820840100456150797347717440463976893159497012533375533056 * (A9 / 4294967296) = C9 := by
    clear hP1 hC1 hP2 hC2 hP3 hC3 hP4 hC4 hP5 hC5 hP6 hC6 hP7 hC7 hP8 hC8 s1 s2 s3 s4 s5 s6 s7 h1 h2 h3 h4 h5 h6 h7 h8 h10 h11 h12 h13 u1 u2 u3 u4 u5 u6 u7 u8 u9 u10 u11 u12 u13 u14 u15 u16 hhi
    omega
  obtain ⟨P10, hP10⟩ : ∃ P, P = P9 + 497323236409786642155382248146820840100456150797347717440463976893159497012533375533056 * (A10 % 4294967296) := ⟨_, rfl⟩
  obtain ⟨C10, hC10⟩ : ∃ C, C = C9 + 497323236409786642155382248146820840100456150797347717440463976893159497012533375533056 * v14 + 578359722850166431546316865962690246670981208928147534449854198949528323666887215231969347502080 * v15 + 673472582440455598338357373504843262528619765476100799726953892095010805450385981026115208085504 * v16 := ⟨_, rfl⟩
  have s10 : P10 + 2135987035920910082395021706169552114602704522356652769947041607822219725780640550022962086936576 * (A10 / 4294967296) = C10 := by
    clear hP1 hC1 hP2 hC2 hP3 hC3 hP4 hC4 hP5 hC5 hP6 hC6 hP7 hC7 hP8 hC8 hP9 hC9 s1 s2 s3 s4 s5 s6 s7 s8 h1 h2 h3 h4 h5 h6 h7 h8 h9 h11 h12 h13 u1 u2 u3 u4 u5 u6 u7 u8 u9 u10 u11 u12 u13 u14 u15 u16 hhi
    omega
  obtain ⟨P11, hP11⟩ : ∃ P, P = P10 + 2135987035920910082395021706169552114602704522356652769947041607822219725780640550022962086936576 * (A11 % 4294967296) := ⟨_, rfl⟩
  obtain ⟨C11, hC11⟩ : ∃ C, C = C10 + 2135987035920910082395021706169552114602704522356652769947041607822219725780640550022962086936576 * v15 + 2484036094965088731648453648562970165630037164576936874325157136456501704774983387541821401195892891975680 * v16 := ⟨_, rfl⟩
  have s11 : P11 + 9173994463960286046443283581208347763186259956673124494950355357547691504353939232280074212440502746218496 * (A11 / 4294967296) = C11 := by
    clear hP1 hC1 hP2 hC2 hP3 hC3 hP4 hC4 hP5 hC5 hP6 hC6 hP7 hC7 hP8 hC8 hP9 hC9 hP10 hC10 s1 s2 s3 s4 s5 s6 s7 s8 s9 h1 h2 h3 h4 h5 h6 h7 h8 h9 h10 h12 h13 u1 u2 u3 u4 u5 u6 u7 u8 u9 u10 u11 u12 u13 u14 u15 u16 hhi
    omega
  obtain ⟨P12, hP12⟩ : ∃ P, P = P11 + 9173994463960286046443283581208347763186259956673124494950355357547691504353939232280074212440502746218496 * (A12 % 4294967296) := ⟨_, rfl⟩
  obtain ⟨C12, hC12⟩ : ∃ C, C = C11 + 9173994463960286046443283581208347763186259956673124494950355357547691504353939232280074212440502746218496 * v16 := ⟨_, rfl⟩
  have s12 : P12 + 39402006196394479212279040100143613805079739270465446667948293404245721771497210611414266254884915640806627990306816 * (A12 / 4294967296) = C12 := by
    clear hP1 hC1 hP2 hC2 hP3 hC3 hP4 hC4 hP5 hC5 hP6 hC6 hP7 hC7 hP8 hC8 hP9 hC9 hP10 hC10 hP11 hC11 s1 s2 s3 s4 s5 s6 s7 s8 s9 s10 h1 h2 h3 h4 h5 h6 h7 h8 h9 h10 h11 h13 u1 u2 u3 u4 u5 u6 u7 u8 u9 u10 u11 u12 u13 u14 u15 u16 hhi
    omega
  obtain ⟨P13, hP13⟩ : ∃ P, P = P12 + 39402006196394479212279040100143613805079739270465446667948293404245721771497210611414266254884915640806627990306816 * (A13 % 4294967296) := ⟨_, rfl⟩
  obtain ⟨C13, hC13⟩ : ∃ C, C = C12 + 0 := ⟨_, rfl⟩
  have s13 : P13 + 169230328010303641331690318856389386196071598838855992136870091590247882556495704531248437872567112920983350278405979725889536 * (A13 / 4294967296) = C13 := by
    clear hP1 hC1 hP2 hC2 hP3 hC3 hP4 hC4 hP5 hC5 hP6 hC6 hP7 hC7 hP8 hC8 hP9 hC9 hP10 hC10 hP11 hC11 hP12 hC12 s1 s2 s3 s4 s5 s6 s7 s8 s9 s10 s11 h1 h2 h3 h4 h5 h6 h7 h8 h9 h10 h11 h12 u1 u2 u3 u4 u5 u6 u7 u8 u9 u10 u11 u12 u13 u14 u15 u16 hhi
    omega
  have e0 : val13 (A1 % 4294967296) (A2 % 4294967296) (A3 % 4294967296) (A4 % 4294967296) (A5 % 4294967296) (A6 % 4294967296) (A7 % 4294967296) (A8 % 4294967296) (A9 % 4294967296) (A10 % 4294967296) (A11 % 4294967296) (A12 % 4294967296) (A13 % 4294967296) = P13 := by
    unfold val13; rw [hP13, hP12, hP11, hP10, hP9, hP8, hP7, hP6, hP5, hP4, hP3, hP2, hP1]; clear hC1 s1 h1 hC2 s2 h2 hC3 s3 h3 hC4 s4 h4 hC5 s5 h5 hC6 s6 h6 hC7 s7 h7 hC8 s8 h8 hC9 s9 h9 hC10 s10 h10 hC11 s11 h11 hC12 s12 h12 hC13 s13 h13 hP1 hP2 hP3 hP4 hP5 hP6 hP7 hP8 hP9 hP10 hP11 hP12 hP13 hhi u1 u2 u3 u4 u5 u6 u7 u8 u9 u10 u11 u12 u13 u14 u15 u16; omega
  have e0' : C13 = val16 v1 v2 v3 v4 v5 v6 v7 v8 v9 v10 v11 v12 v13 v14 v15 v16 - hi * 115792089237316195423570985008687907852837564279074904382605163141518161494337 := by
    unfold val16; rw [hC13, hC12, hC11, hC10, hC9, hC8, hC7, hC6, hC5, hC4, hC3, hC2, hC1, hhi]; clear hC1 s1 h1 hC2 s2 h2 hC3 s3 h3 hC4 s4 h4 hC5 s5 h5 hC6 s6 h6 hC7 s7 h7 hC8 s8 h8 hC9 s9 h9 hC10 s10 h10 hC11 s11 h11 hC12 s12 h12 hC13 s13 h13 hP1 hP2 hP3 hP4 hP5 hP6 hP7 hP8 hP9 hP10 hP11 hP12 hP13 hhi e0 u1 u2 u3 u4 u5 u6 u7 u8 u9 u10 u11 u12 u13 u14 u15 u16; omega
  have e1 : val13 (A1 % 4294967296) (A2 % 4294967296) (A3 % 4294967296) (A4 % 4294967296) (A5 % 4294967296) (A6 % 4294967296) (A7 % 4294967296) (A8 % 4294967296) (A9 % 4294967296) (A10 % 4294967296) (A11 % 4294967296) (A12 % 4294967296) (A13 % 4294967296) + 169230328010303641331690318856389386196071598838855992136870091590247882556495704531248437872567112920983350278405979725889536 * (A13 / 4294967296) = val16 v1 v2 v3 v4 v5 v6 v7 v8 v9 v10 v11 v12 v13 v14 v15 v16 - hi * 115792089237316195423570985008687907852837564279074904382605163141518161494337 := by rw [e0, s13, e0']
  clear hP1 hC1 s1 hP2 hC2 s2 hP3 hC3 s3 hP4 hC4 s4 hP5 hC5 s5 hP6 hC6 s6 hP7 hC7 s7 hP8 hC8 s8 hP9 hC9 s9 hP10 hC10 s10 hP11 hC11 s11 hP12 hC12 s12 hP13 hC13 s13 e0 e0'
  clear h1 h2 h3 h4 h5 h6 h7 h8 h9 h10 h11 h12 h13
  have b2 : 0 ≤ val16 v1 v2 v3 v4 v5 v6 v7 v8 v9 v10 v11 v12 v13 v14 v15 v16 - hi * 115792089237316195423570985008687907852837564279074904382605163141518161494337 ∧ val16 v1 v2 v3 v4 v5 v6 v7 v8 v9 v10 v11 v12 v13 v14 v15 v16 - hi * 115792089237316195423570985008687907852837564279074904382605163141518161494337 < 78804012392788958424558080200287227610275270630168209531320157793500131450847691207494173073809288865621169110253568 := by unfold val16; omega
  have b3 : 39402006196394479212279040100143613805079739270465446667948293404245721771497210611414266254884915640806627990306816 * (A13 % 4294967296) ≤ val13 (A1 % 4294967296) (A2 % 4294967296) (A3 % 4294967296) (A4 % 4294967296) (A5 % 4294967296) (A6 % 4294967296) (A7 % 4294967296) (A8 % 4294967296) (A9 % 4294967296) (A10 % 4294967296) (A11 % 4294967296) (A12 % 4294967296) (A13 % 4294967296) := by unfold val13; omega
  have b4 : 0 ≤ val13 (A1 % 4294967296) (A2 % 4294967296) (A3 % 4294967296) (A4 % 4294967296) (A5 % 4294967296) (A6 % 4294967296) (A7 % 4294967296) (A8 % 4294967296) (A9 % 4294967296) (A10 % 4294967296) (A11 % 4294967296) (A12 % 4294967296) (A13 % 4294967296) ∧ val13 (A1 % 4294967296) (A2 % 4294967296) (A3 % 4294967296) (A4 % 4294967296) (A5 % 4294967296) (A6 % 4294967296) (A7 % 4294967296) (A8 % 4294967296) (A9 % 4294967296) (A10 % 4294967296) (A11 % 4294967296) (A12 % 4294967296) (A13 % 4294967296) < 169230328010303641331690318856389386196071598838855992136870091590247882556495704531248437872567112920983350278405979725889536 := by unfold val13; omega
  clear hhi u1 u2 u3 u4 u5 u6 u7 u8 u9 u10 u11 u12 u13 u14 u15 u16
  generalize val13 (A1 % 4294967296) (A2 % 4294967296) (A3 % 4294967296) (A4 % 4294967296) (A5 % 4294967296) (A6 % 4294967296) (A7 % 4294967296) (A8 % 4294967296) (A9 % 4294967296) (A10 % 4294967296) (A11 % 4294967296) (A12 % 4294967296) (A13 % 4294967296) = T at *
  generalize val16 v1 v2 v3 v4 v5 v6 v7 v8 v9 v10 v11 v12 v13 v14 v15 v16 = Z at *
  have b5 : A13 / 4294967296 = 0 := by omega
  refine ⟨by omega, ?_⟩
  have e2 : Z = T + NN * hi := by unfold NN; omega
  rw [e2, Int.add_mul_emod_self_left]
set_option maxRecDepth 100000 in
set_option maxHeartbeats 4000000 in
theorem reduce512 (d q : Nat) (x v1 v2 v3 v4 v5 v6 v7 v8 v9 v10 v11 v12 v13 v14 v15 v16 : Int) (w : World) (hS : Sc w d q x) (hf : F8 w d q) (u1 : U32 v1) (u2 : U32 v2) (u3 : U32 v3) (u4 : U32 v4) (u5 : U32 v5) (u6 : U32 v6) (u7 : U32 v7) (u8 : U32 v8) (u9 : U32 v9) (u10 : U32 v10) (u11 : U32 v11) (u12 : U32 v12) (u13 : U32 v13) (u14 : U32 v14) (u15 : U32 v15) (u16 : U32 v16) :
    Calls Tryz.prog 57 #[.pointer (some ⟨d, q, none⟩), .int .u64 v1, .int .u64 v2, .int .u64 v3, .int .u64 v4, .int .u64 v5, .int .u64 v6, .int .u64 v7, .int .u64 v8, .int .u64 v9, .int .u64 v10, .int .u64 v11, .int .u64 v12, .int .u64 v13, .int .u64 v14, .int .u64 v15, .int .u64 v16] w fun e w' => e = .returned (.tuple #[]) ∧ Sc w' d q (val16 v1 v2 v3 v4 v5 v6 v7 v8 v9 v10 v11 v12 v13 v14 v15 v16 % NN) ∧ Fr (Rng d q 8) w w' := by
  have hld := hS.lt
  refine enterA Tryz.func57 rfl (fun a0 z0 d0 ha => ?_)
  have e0 := ha 0 _ rfl
  have e1 := ha 1 _ rfl
  have e2 := ha 2 _ rfl
  have e3 := ha 3 _ rfl
  have e4 := ha 4 _ rfl
  have e5 := ha 5 _ rfl
  have e6 := ha 6 _ rfl
  have e7 := ha 7 _ rfl
  have e8 := ha 8 _ rfl
  have e9 := ha 9 _ rfl
  have e10 := ha 10 _ rfl
  have e11 := ha 11 _ rfl
  have e12 := ha 12 _ rfl
  have e13 := ha 13 _ rfl
  have e14 := ha 14 _ rfl
  have e15 := ha 15 _ rfl
  have e16 := ha 16 _ rfl
  replace z0 : a0.tmps.size = 244 := z0
  refine wp_seq (wp_region1 (wlPut exAlloc75 (ltz z0 rfl) fun a1 p1 => wpList_nil (Exit.at_normal ?_)))
  have z1 := p1.z.trans z0
  have d1 := p1.f.trans d0
  have hF0 : Fr NoT w (w.alloc (.cells #[.int .u32 0, .int .u32 0, .int .u32 0] 75)) := (Fr.refl _ _).alloc _
  have hS0 := hS.fr hF0 (fun _ _ _ f => f)
  have hf0 := F8.fr hF0 hld hf
  obtain ⟨hA0, hg0⟩ := allocAcc w
  obtain ⟨g, hg⟩ : ∃ g, g = w.heap.size := ⟨_, rfl⟩
  rw [← hg] at hA0 hg0
  have hdg : d ≠ g := by omega
  have h : AM 1 17 34 g a1 (w.alloc (.cells #[.int .u32 0, .int .u32 0, .int .u32 0] 75)) (V16 v1 v2 v3 v4 v5 v6 v7 v8 v9 v10 v11 v12 v13 v14 v15 v16) 0 0 a1 (w.alloc (.cells #[.int .u32 0, .int .u32 0, .int .u32 0] 75)) := by
    refine ⟨Past.refl _ _, p1.v.trans (by rw [hg]), fun k h1 h2 => ?_, hA0, hg0, by decide, by decide, Fr.refl _ _⟩
    refine (p1.n k (by omega)) ▸ ?_
    rcases k with _ | _ | _ | _ | _ | _ | _ | _ | _ | _ | _ | _ | _ | _ | _ | _ | _ | k
    · omega
    · exact ⟨e1, u1⟩
    · exact ⟨e2, u2⟩
    · exact ⟨e3, u3⟩
    · exact ⟨e4, u4⟩
    · exact ⟨e5, u5⟩
    · exact ⟨e6, u6⟩
    · exact ⟨e7, u7⟩
    · exact ⟨e8, u8⟩
    · exact ⟨e9, u9⟩
    · exact ⟨e10, u10⟩
    · exact ⟨e11, u11⟩
    · exact ⟨e12, u12⟩
    · exact ⟨e13, u13⟩
    · exact ⟨e14, u14⟩
    · exact ⟨e15, u15⟩
    · exact ⟨e16, u16⟩
    omega
  have e0' := (p1.n 0 (by decide)).trans e0
  generalize w.alloc (.cells #[.int .u32 0, .int .u32 0, .int .u32 0] 75) = w0 at h hF0 hS0 hf0 ⊢
  refine wp_seq (set_region (s := 35) (src := 1) h (by decide) (by rw [z1]; decide) (by decide) (fun bb0 ww0 h' zz => Exit.at_normal ?_))
  have y0 := zz.trans z1; replace h := h'; clear h' zz
  refine wp_seq (mulc_region (s := 39) (src := 9) (K := 801750719) h (by decide) (by rw [y0]; decide) (by decide) (by decide) ⟨by decide, by decide⟩ (fun bb1 ww1 h' zz => Exit.at_normal ?_))
  have y1 := zz.trans y0; replace h := h'; clear h' zz
  obtain ⟨A1, hA1, h⟩ := am_name h
  refine wp_seq (get_region (s := 42) (d := 1) (top := 17) h (by decide) (by rw [y1]; decide) (by decide) (by decide) (fun k _ hk => .inl hk) (fun bb2 ww2 h' zz => Exit.at_normal ?_))
  have y2 := zz.trans y1; replace h := h'; clear h' zz
  refine wp_seq (rsh_region (s := 46) h (by decide) (by rw [y2]; decide) (by decide) (fun bb3 ww3 h' zz => Exit.at_normal ?_))
  have y3 := zz.trans y2; replace h := h'; clear h' zz
  refine wp_seq (add_region (s := 47) (src := 2) h (by decide) (by rw [y3]; decide) (by decide) (by decide) (fun bb4 ww4 h' zz => Exit.at_normal ?_))
  have y4 := zz.trans y3; replace h := h'; clear h' zz
  refine wp_seq (mulc_region (s := 49) (src := 9) (K := 1076732275) h (by decide) (by rw [y4]; decide) (by decide) (by decide) ⟨by decide, by decide⟩ (fun bb5 ww5 h' zz => Exit.at_normal ?_))
  have y5 := zz.trans y4; replace h := h'; clear h' zz
  refine wp_seq (mulc_region (s := 52) (src := 10) (K := 801750719) h (by decide) (by rw [y5]; decide) (by decide) (by decide) ⟨by decide, by decide⟩ (fun bb6 ww6 h' zz => Exit.at_normal ?_))
  have y6 := zz.trans y5; replace h := h'; clear h' zz
  obtain ⟨A2, hA2, h⟩ := am_name h
  refine wp_seq (get_region (s := 55) (d := 2) (top := 17) h (by decide) (by rw [y6]; decide) (by decide) (by decide) (fun k _ hk => .inl hk) (fun bb7 ww7 h' zz => Exit.at_normal ?_))
  have y7 := zz.trans y6; replace h := h'; clear h' zz
  refine wp_seq (rsh_region (s := 59) h (by decide) (by rw [y7]; decide) (by decide) (fun bb8 ww8 h' zz => Exit.at_normal ?_))
  have y8 := zz.trans y7; replace h := h'; clear h' zz
  refine wp_seq (add_region (s := 60) (src := 3) h (by decide) (by rw [y8]; decide) (by decide) (by decide) (fun bb9 ww9 h' zz => Exit.at_normal ?_))
  have y9 := zz.trans y8; replace h := h'; clear h' zz
  refine wp_seq (mulc_region (s := 62) (src := 9) (K := 1354194884) h (by decide) (by rw [y9]; decide) (by decide) (by decide) ⟨by decide, by decide⟩ (fun bb10 ww10 h' zz => Exit.at_normal ?_))
  have y10 := zz.trans y9; replace h := h'; clear h' zz
  refine wp_seq (mulc_region (s := 65) (src := 10) (K := 1076732275) h (by decide) (by rw [y10]; decide) (by decide) (by decide) ⟨by decide, by decide⟩ (fun bb11 ww11 h' zz => Exit.at_normal ?_))
  have y11 := zz.trans y10; replace h := h'; clear h' zz
  refine wp_seq (mulc_region (s := 68) (src := 11) (K := 801750719) h (by decide) (by rw [y11]; decide) (by decide) (by decide) ⟨by decide, by decide⟩ (fun bb12 ww12 h' zz => Exit.at_normal ?_))
  have y12 := zz.trans y11; replace h := h'; clear h' zz
  obtain ⟨A3, hA3, h⟩ := am_name h
  refine wp_seq (get_region (s := 71) (d := 3) (top := 17) h (by decide) (by rw [y12]; decide) (by decide) (by decide) (fun k _ hk => .inl hk) (fun bb13 ww13 h' zz => Exit.at_normal ?_))
  have y13 := zz.trans y12; replace h := h'; clear h' zz
  refine wp_seq (rsh_region (s := 75) h (by decide) (by rw [y13]; decide) (by decide) (fun bb14 ww14 h' zz => Exit.at_normal ?_))
  have y14 := zz.trans y13; replace h := h'; clear h' zz
  refine wp_seq (add_region (s := 76) (src := 4) h (by decide) (by rw [y14]; decide) (by decide) (by decide) (fun bb15 ww15 h' zz => Exit.at_normal ?_))
  have y15 := zz.trans y14; replace h := h'; clear h' zz
  refine wp_seq (mulc_region (s := 78) (src := 9) (K := 1162945305) h (by decide) (by rw [y15]; decide) (by decide) (by decide) ⟨by decide, by decide⟩ (fun bb16 ww16 h' zz => Exit.at_normal ?_))
  have y16 := zz.trans y15; replace h := h'; clear h' zz
  refine wp_seq (mulc_region (s := 81) (src := 10) (K := 1354194884) h (by decide) (by rw [y16]; decide) (by decide) (by decide) ⟨by decide, by decide⟩ (fun bb17 ww17 h' zz => Exit.at_normal ?_))
  have y17 := zz.trans y16; replace h := h'; clear h' zz
  refine wp_seq (mulc_region (s := 84) (src := 11) (K := 1076732275) h (by decide) (by rw [y17]; decide) (by decide) (by decide) ⟨by decide, by decide⟩ (fun bb18 ww18 h' zz => Exit.at_normal ?_))
  have y18 := zz.trans y17; replace h := h'; clear h' zz
  refine wp_seq (mulc_region (s := 87) (src := 12) (K := 801750719) h (by decide) (by rw [y18]; decide) (by decide) (by decide) ⟨by decide, by decide⟩ (fun bb19 ww19 h' zz => Exit.at_normal ?_))
  have y19 := zz.trans y18; replace h := h'; clear h' zz
  obtain ⟨A4, hA4, h⟩ := am_name h
  refine wp_seq (get_region (s := 90) (d := 4) (top := 17) h (by decide) (by rw [y19]; decide) (by decide) (by decide) (fun k _ hk => .inl hk) (fun bb20 ww20 h' zz => Exit.at_normal ?_))
  have y20 := zz.trans y19; replace h := h'; clear h' zz
  refine wp_seq (rsh_region (s := 94) h (by decide) (by rw [y20]; decide) (by decide) (fun bb21 ww21 h' zz => Exit.at_normal ?_))
  have y21 := zz.trans y20; replace h := h'; clear h' zz
  refine wp_seq (add_region (s := 95) (src := 5) h (by decide) (by rw [y21]; decide) (by decide) (by decide) (fun bb22 ww22 h' zz => Exit.at_normal ?_))
  have y22 := zz.trans y21; replace h := h'; clear h' zz
  refine wp_seq (add_region (s := 97) (src := 9) h (by decide) (by rw [y22]; decide) (by decide) (by decide) (fun bb23 ww23 h' zz => Exit.at_normal ?_))
  have y23 := zz.trans y22; replace h := h'; clear h' zz
  refine wp_seq (mulc_region (s := 99) (src := 10) (K := 1162945305) h (by decide) (by rw [y23]; decide) (by decide) (by decide) ⟨by decide, by decide⟩ (fun bb24 ww24 h' zz => Exit.at_normal ?_))
  have y24 := zz.trans y23; replace h := h'; clear h' zz
  refine wp_seq (mulc_region (s := 102) (src := 11) (K := 1354194884) h (by decide) (by rw [y24]; decide) (by decide) (by decide) ⟨by decide, by decide⟩ (fun bb25 ww25 h' zz => Exit.at_normal ?_))
  have y25 := zz.trans y24; replace h := h'; clear h' zz
  refine wp_seq (mulc_region (s := 105) (src := 12) (K := 1076732275) h (by decide) (by rw [y25]; decide) (by decide) (by decide) ⟨by decide, by decide⟩ (fun bb26 ww26 h' zz => Exit.at_normal ?_))
  have y26 := zz.trans y25; replace h := h'; clear h' zz
  refine wp_seq (mulc_region (s := 108) (src := 13) (K := 801750719) h (by decide) (by rw [y26]; decide) (by decide) (by decide) ⟨by decide, by decide⟩ (fun bb27 ww27 h' zz => Exit.at_normal ?_))
  have y27 := zz.trans y26; replace h := h'; clear h' zz
  obtain ⟨A5, hA5, h⟩ := am_name h
  refine wp_seq (get_region (s := 111) (d := 5) (top := 17) h (by decide) (by rw [y27]; decide) (by decide) (by decide) (fun k _ hk => .inl hk) (fun bb28 ww28 h' zz => Exit.at_normal ?_))
  have y28 := zz.trans y27; replace h := h'; clear h' zz
  refine wp_seq (rsh_region (s := 115) h (by decide) (by rw [y28]; decide) (by decide) (fun bb29 ww29 h' zz => Exit.at_normal ?_))
  have y29 := zz.trans y28; replace h := h'; clear h' zz
  refine wp_seq (add_region (s := 116) (src := 6) h (by decide) (by rw [y29]; decide) (by decide) (by decide) (fun bb30 ww30 h' zz => Exit.at_normal ?_))
  have y30 := zz.trans y29; replace h := h'; clear h' zz
  refine wp_seq (add_region (s := 118) (src := 10) h (by decide) (by rw [y30]; decide) (by decide) (by decide) (fun bb31 ww31 h' zz => Exit.at_normal ?_))
  have y31 := zz.trans y30; replace h := h'; clear h' zz
  refine wp_seq (mulc_region (s := 120) (src := 11) (K := 1162945305) h (by decide) (by rw [y31]; decide) (by decide) (by decide) ⟨by decide, by decide⟩ (fun bb32 ww32 h' zz => Exit.at_normal ?_))
  have y32 := zz.trans y31; replace h := h'; clear h' zz
  refine wp_seq (mulc_region (s := 123) (src := 12) (K := 1354194884) h (by decide) (by rw [y32]; decide) (by decide) (by decide) ⟨by decide, by decide⟩ (fun bb33 ww33 h' zz => Exit.at_normal ?_))
  have y33 := zz.trans y32; replace h := h'; clear h' zz
  refine wp_seq (mulc_region (s := 126) (src := 13) (K := 1076732275) h (by decide) (by rw [y33]; decide) (by decide) (by decide) ⟨by decide, by decide⟩ (fun bb34 ww34 h' zz => Exit.at_normal ?_))
  have y34 := zz.trans y33; replace h := h'; clear h' zz
  refine wp_seq (mulc_region (s := 129) (src := 14) (K := 801750719) h (by decide) (by rw [y34]; decide) (by decide) (by decide) ⟨by decide, by decide⟩ (fun bb35 ww35 h' zz => Exit.at_normal ?_))
  have y35 := zz.trans y34; replace h := h'; clear h' zz
  obtain ⟨A6, hA6, h⟩ := am_name h
  refine wp_seq (get_region (s := 132) (d := 6) (top := 17) h (by decide) (by rw [y35]; decide) (by decide) (by decide) (fun k _ hk => .inl hk) (fun bb36 ww36 h' zz => Exit.at_normal ?_))
  have y36 := zz.trans y35; replace h := h'; clear h' zz
  refine wp_seq (rsh_region (s := 136) h (by decide) (by rw [y36]; decide) (by decide) (fun bb37 ww37 h' zz => Exit.at_normal ?_))
  have y37 := zz.trans y36; replace h := h'; clear h' zz
  refine wp_seq (add_region (s := 137) (src := 7) h (by decide) (by rw [y37]; decide) (by decide) (by decide) (fun bb38 ww38 h' zz => Exit.at_normal ?_))
  have y38 := zz.trans y37; replace h := h'; clear h' zz
  refine wp_seq (add_region (s := 139) (src := 11) h (by decide) (by rw [y38]; decide) (by decide) (by decide) (fun bb39 ww39 h' zz => Exit.at_normal ?_))
  have y39 := zz.trans y38; replace h := h'; clear h' zz
  refine wp_seq (mulc_region (s := 141) (src := 12) (K := 1162945305) h (by decide) (by rw [y39]; decide) (by decide) (by decide) ⟨by decide, by decide⟩ (fun bb40 ww40 h' zz => Exit.at_normal ?_))
  have y40 := zz.trans y39; replace h := h'; clear h' zz
  refine wp_seq (mulc_region (s := 144) (src := 13) (K := 1354194884) h (by decide) (by rw [y40]; decide) (by decide) (by decide) ⟨by decide, by decide⟩ (fun bb41 ww41 h' zz => Exit.at_normal ?_))
  have y41 := zz.trans y40; replace h := h'; clear h' zz
  refine wp_seq (mulc_region (s := 147) (src := 14) (K := 1076732275) h (by decide) (by rw [y41]; decide) (by decide) (by decide) ⟨by decide, by decide⟩ (fun bb42 ww42 h' zz => Exit.at_normal ?_))
  have y42 := zz.trans y41; replace h := h'; clear h' zz
  refine wp_seq (mulc_region (s := 150) (src := 15) (K := 801750719) h (by decide) (by rw [y42]; decide) (by decide) (by decide) ⟨by decide, by decide⟩ (fun bb43 ww43 h' zz => Exit.at_normal ?_))
  have y43 := zz.trans y42; replace h := h'; clear h' zz
  obtain ⟨A7, hA7, h⟩ := am_name h
  refine wp_seq (get_region (s := 153) (d := 7) (top := 17) h (by decide) (by rw [y43]; decide) (by decide) (by decide) (fun k _ hk => .inl hk) (fun bb44 ww44 h' zz => Exit.at_normal ?_))
  have y44 := zz.trans y43; replace h := h'; clear h' zz
  refine wp_seq (rsh_region (s := 157) h (by decide) (by rw [y44]; decide) (by decide) (fun bb45 ww45 h' zz => Exit.at_normal ?_))
  have y45 := zz.trans y44; replace h := h'; clear h' zz
  refine wp_seq (add_region (s := 158) (src := 8) h (by decide) (by rw [y45]; decide) (by decide) (by decide) (fun bb46 ww46 h' zz => Exit.at_normal ?_))
  have y46 := zz.trans y45; replace h := h'; clear h' zz
  refine wp_seq (add_region (s := 160) (src := 12) h (by decide) (by rw [y46]; decide) (by decide) (by decide) (fun bb47 ww47 h' zz => Exit.at_normal ?_))
  have y47 := zz.trans y46; replace h := h'; clear h' zz
  refine wp_seq (mulc_region (s := 162) (src := 13) (K := 1162945305) h (by decide) (by rw [y47]; decide) (by decide) (by decide) ⟨by decide, by decide⟩ (fun bb48 ww48 h' zz => Exit.at_normal ?_))
  have y48 := zz.trans y47; replace h := h'; clear h' zz
  refine wp_seq (mulc_region (s := 165) (src := 14) (K := 1354194884) h (by decide) (by rw [y48]; decide) (by decide) (by decide) ⟨by decide, by decide⟩ (fun bb49 ww49 h' zz => Exit.at_normal ?_))
  have y49 := zz.trans y48; replace h := h'; clear h' zz
  refine wp_seq (mulc_region (s := 168) (src := 15) (K := 1076732275) h (by decide) (by rw [y49]; decide) (by decide) (by decide) ⟨by decide, by decide⟩ (fun bb50 ww50 h' zz => Exit.at_normal ?_))
  have y50 := zz.trans y49; replace h := h'; clear h' zz
  refine wp_seq (mulc_region (s := 171) (src := 16) (K := 801750719) h (by decide) (by rw [y50]; decide) (by decide) (by decide) ⟨by decide, by decide⟩ (fun bb51 ww51 h' zz => Exit.at_normal ?_))
  have y51 := zz.trans y50; replace h := h'; clear h' zz
  obtain ⟨A8, hA8, h⟩ := am_name h
  refine wp_seq (get_region (s := 174) (d := 8) (top := 17) h (by decide) (by rw [y51]; decide) (by decide) (by decide) (fun k _ hk => .inl hk) (fun bb52 ww52 h' zz => Exit.at_normal ?_))
  have y52 := zz.trans y51; replace h := h'; clear h' zz
  refine wp_seq (rsh_region (s := 178) h (by decide) (by rw [y52]; decide) (by decide) (fun bb53 ww53 h' zz => Exit.at_normal ?_))
  have y53 := zz.trans y52; replace h := h'; clear h' zz
  refine wp_seq (add_region (s := 179) (src := 13) h (by decide) (by rw [y53]; decide) (by decide) (by decide) (fun bb54 ww54 h' zz => Exit.at_normal ?_))
  have y54 := zz.trans y53; replace h := h'; clear h' zz
  refine wp_seq (mulc_region (s := 181) (src := 14) (K := 1162945305) h (by decide) (by rw [y54]; decide) (by decide) (by decide) ⟨by decide, by decide⟩ (fun bb55 ww55 h' zz => Exit.at_normal ?_))
  have y55 := zz.trans y54; replace h := h'; clear h' zz
  refine wp_seq (mulc_region (s := 184) (src := 15) (K := 1354194884) h (by decide) (by rw [y55]; decide) (by decide) (by decide) ⟨by decide, by decide⟩ (fun bb56 ww56 h' zz => Exit.at_normal ?_))
  have y56 := zz.trans y55; replace h := h'; clear h' zz
  refine wp_seq (mulc_region (s := 187) (src := 16) (K := 1076732275) h (by decide) (by rw [y56]; decide) (by decide) (by decide) ⟨by decide, by decide⟩ (fun bb57 ww57 h' zz => Exit.at_normal ?_))
  have y57 := zz.trans y56; replace h := h'; clear h' zz
  obtain ⟨A9, hA9, h⟩ := am_name h
  refine wp_seq (get_region (s := 190) (d := 9) (top := 17) h (by decide) (by rw [y57]; decide) (by decide) (by decide) (fun k _ hk => .inl hk) (fun bb58 ww58 h' zz => Exit.at_normal ?_))
  have y58 := zz.trans y57; replace h := h'; clear h' zz
  refine wp_seq (rsh_region (s := 194) h (by decide) (by rw [y58]; decide) (by decide) (fun bb59 ww59 h' zz => Exit.at_normal ?_))
  have y59 := zz.trans y58; replace h := h'; clear h' zz
  refine wp_seq (add_region (s := 195) (src := 14) h (by decide) (by rw [y59]; decide) (by decide) (by decide) (fun bb60 ww60 h' zz => Exit.at_normal ?_))
  have y60 := zz.trans y59; replace h := h'; clear h' zz
  refine wp_seq (mulc_region (s := 197) (src := 15) (K := 1162945305) h (by decide) (by rw [y60]; decide) (by decide) (by decide) ⟨by decide, by decide⟩ (fun bb61 ww61 h' zz => Exit.at_normal ?_))
  have y61 := zz.trans y60; replace h := h'; clear h' zz
  refine wp_seq (mulc_region (s := 200) (src := 16) (K := 1354194884) h (by decide) (by rw [y61]; decide) (by decide) (by decide) ⟨by decide, by decide⟩ (fun bb62 ww62 h' zz => Exit.at_normal ?_))
  have y62 := zz.trans y61; replace h := h'; clear h' zz
  obtain ⟨A10, hA10, h⟩ := am_name h
  refine wp_seq (get_region (s := 203) (d := 10) (top := 17) h (by decide) (by rw [y62]; decide) (by decide) (by decide) (fun k _ hk => .inl hk) (fun bb63 ww63 h' zz => Exit.at_normal ?_))
  have y63 := zz.trans y62; replace h := h'; clear h' zz
  refine wp_seq (rsh_region (s := 207) h (by decide) (by rw [y63]; decide) (by decide) (fun bb64 ww64 h' zz => Exit.at_normal ?_))
  have y64 := zz.trans y63; replace h := h'; clear h' zz
  refine wp_seq (add_region (s := 208) (src := 15) h (by decide) (by rw [y64]; decide) (by decide) (by decide) (fun bb65 ww65 h' zz => Exit.at_normal ?_))
  have y65 := zz.trans y64; replace h := h'; clear h' zz
  refine wp_seq (mulc_region (s := 210) (src := 16) (K := 1162945305) h (by decide) (by rw [y65]; decide) (by decide) (by decide) ⟨by decide, by decide⟩ (fun bb66 ww66 h' zz => Exit.at_normal ?_))
  have y66 := zz.trans y65; replace h := h'; clear h' zz
  obtain ⟨A11, hA11, h⟩ := am_name h
  refine wp_seq (get_region (s := 213) (d := 11) (top := 17) h (by decide) (by rw [y66]; decide) (by decide) (by decide) (fun k _ hk => .inl hk) (fun bb67 ww67 h' zz => Exit.at_normal ?_))
  have y67 := zz.trans y66; replace h := h'; clear h' zz
  refine wp_seq (rsh_region (s := 217) h (by decide) (by rw [y67]; decide) (by decide) (fun bb68 ww68 h' zz => Exit.at_normal ?_))
  have y68 := zz.trans y67; replace h := h'; clear h' zz
  refine wp_seq (add_region (s := 218) (src := 16) h (by decide) (by rw [y68]; decide) (by decide) (by decide) (fun bb69 ww69 h' zz => Exit.at_normal ?_))
  have y69 := zz.trans y68; replace h := h'; clear h' zz
  obtain ⟨A12, hA12, h⟩ := am_name h
  refine wp_seq (get_region (s := 220) (d := 12) (top := 17) h (by decide) (by rw [y69]; decide) (by decide) (by decide) (fun k _ hk => .inl hk) (fun bb70 ww70 h' zz => Exit.at_normal ?_))
  have y70 := zz.trans y69; replace h := h'; clear h' zz
  refine wp_seq (rsh_region (s := 224) h (by decide) (by rw [y70]; decide) (by decide) (fun bb71 ww71 h' zz => Exit.at_normal ?_))
  have y71 := zz.trans y70; replace h := h'; clear h' zz
  obtain ⟨A13, hA13, h⟩ := am_name h
  refine wp_seq (get_region (s := 225) (d := 13) (top := 17) h (by decide) (by rw [y71]; decide) (by decide) (by decide) (fun k _ hk => .inl hk) (fun bb72 ww72 h' zz => Exit.at_normal ?_))
  have y72 := zz.trans y71; replace h := h'; clear h' zz
  have g0 := (h.past.n 0 (by decide)).trans e0'
  have dd0 := h.past.f.trans d1
  have w1 : bb72.eval (.tmp 1) = .int .u64 (A1 % 4294967296) := (h.v 1 (by decide) (by decide)).1
  have R1 : U32 (A1 % 4294967296) := (h.v 1 (by decide) (by decide)).2
  have w2 : bb72.eval (.tmp 2) = .int .u64 (A2 % 4294967296) := (h.v 2 (by decide) (by decide)).1
  have R2 : U32 (A2 % 4294967296) := (h.v 2 (by decide) (by decide)).2
  have w3 : bb72.eval (.tmp 3) = .int .u64 (A3 % 4294967296) := (h.v 3 (by decide) (by decide)).1
  have R3 : U32 (A3 % 4294967296) := (h.v 3 (by decide) (by decide)).2
  have w4 : bb72.eval (.tmp 4) = .int .u64 (A4 % 4294967296) := (h.v 4 (by decide) (by decide)).1
  have R4 : U32 (A4 % 4294967296) := (h.v 4 (by decide) (by decide)).2
  have w5 : bb72.eval (.tmp 5) = .int .u64 (A5 % 4294967296) := (h.v 5 (by decide) (by decide)).1
  have R5 : U32 (A5 % 4294967296) := (h.v 5 (by decide) (by decide)).2
  have w6 : bb72.eval (.tmp 6) = .int .u64 (A6 % 4294967296) := (h.v 6 (by decide) (by decide)).1
  have R6 : U32 (A6 % 4294967296) := (h.v 6 (by decide) (by decide)).2
  have w7 : bb72.eval (.tmp 7) = .int .u64 (A7 % 4294967296) := (h.v 7 (by decide) (by decide)).1
  have R7 : U32 (A7 % 4294967296) := (h.v 7 (by decide) (by decide)).2
  have w8 : bb72.eval (.tmp 8) = .int .u64 (A8 % 4294967296) := (h.v 8 (by decide) (by decide)).1
  have R8 : U32 (A8 % 4294967296) := (h.v 8 (by decide) (by decide)).2
  have w9 : bb72.eval (.tmp 9) = .int .u64 (A9 % 4294967296) := (h.v 9 (by decide) (by decide)).1
  have R9 : U32 (A9 % 4294967296) := (h.v 9 (by decide) (by decide)).2
  have w10 : bb72.eval (.tmp 10) = .int .u64 (A10 % 4294967296) := (h.v 10 (by decide) (by decide)).1
  have R10 : U32 (A10 % 4294967296) := (h.v 10 (by decide) (by decide)).2
  have w11 : bb72.eval (.tmp 11) = .int .u64 (A11 % 4294967296) := (h.v 11 (by decide) (by decide)).1
  have R11 : U32 (A11 % 4294967296) := (h.v 11 (by decide) (by decide)).2
  have w12 : bb72.eval (.tmp 12) = .int .u64 (A12 % 4294967296) := (h.v 12 (by decide) (by decide)).1
  have R12 : U32 (A12 % 4294967296) := (h.v 12 (by decide) (by decide)).2
  have w13 : bb72.eval (.tmp 13) = .int .u64 (A13 % 4294967296) := (h.v 13 (by decide) (by decide)).1
  have R13 : U32 (A13 % 4294967296) := (h.v 13 (by decide) (by decide)).2
  replace hA1 : A1 = v1 + v9 * 801750719 := hA1
  replace hA2 : A2 = A1 / 4294967296 + v2 + v9 * 1076732275 + v10 * 801750719 := hA2
  replace hA3 : A3 = A2 / 4294967296 + v3 + v9 * 1354194884 + v10 * 1076732275 + v11 * 801750719 := hA3
  replace hA4 : A4 = A3 / 4294967296 + v4 + v9 * 1162945305 + v10 * 1354194884 + v11 * 1076732275 + v12 * 801750719 := hA4
  replace hA5 : A5 = A4 / 4294967296 + v5 + v9 + v10 * 1162945305 + v11 * 1354194884 + v12 * 1076732275 + v13 * 801750719 := hA5
  replace hA6 : A6 = A5 / 4294967296 + v6 + v10 + v11 * 1162945305 + v12 * 1354194884 + v13 * 1076732275 + v14 * 801750719 := hA6
  replace hA7 : A7 = A6 / 4294967296 + v7 + v11 + v12 * 1162945305 + v13 * 1354194884 + v14 * 1076732275 + v15 * 801750719 := hA7
  replace hA8 : A8 = A7 / 4294967296 + v8 + v12 + v13 * 1162945305 + v14 * 1354194884 + v15 * 1076732275 + v16 * 801750719 := hA8
  replace hA9 : A9 = A8 / 4294967296 + v13 + v14 * 1162945305 + v15 * 1354194884 + v16 * 1076732275 := hA9
  replace hA10 : A10 = A9 / 4294967296 + v14 + v15 * 1162945305 + v16 * 1354194884 := hA10
  replace hA11 : A11 = A10 / 4294967296 + v15 + v16 * 1162945305 := hA11
  replace hA12 : A12 = A11 / 4294967296 + v16 := hA12
  replace hA13 : A13 = A12 / 4294967296 := hA13
  obtain ⟨AA1, AA2⟩ := arith512 u1 u2 u3 u4 u5 u6 u7 u8 u9 u10 u11 u12 u13 u14 u15 u16 hA1 hA2 hA3 hA4 hA5 hA6 hA7 hA8 hA9 hA10 hA11 hA12 hA13
  have hSw := hS0.fr h.fr (fun _ _ _ f => hdg f.1)
  have hfw := F8.fr h.fr hS0.lt hf0
  have hre := reduce385 d q _ (A1 % 4294967296) (A2 % 4294967296) (A3 % 4294967296) (A4 % 4294967296) (A5 % 4294967296) (A6 % 4294967296) (A7 % 4294967296) (A8 % 4294967296) (A9 % 4294967296) (A10 % 4294967296) (A11 % 4294967296) (A12 % 4294967296) (A13 % 4294967296) _ hSw hfw R1 R2 R3 R4 R5 R6 R7 R8 R9 R10 R11 R12 R13 AA1
  rw [AA2] at hre
  refine wp_region_lit ?_
  show wpList _ _ _ _ _ _
  refine wlPut (exMove (g0)) (ltz y72 rfl) ?_
  intro ac1 q1
  have zz1 := q1.z.trans y72
  have dd1 := q1.f.trans dd0
  refine wlPut (exMove ((q1.n _ (by decide)).trans (w1))) (ltz zz1 rfl) ?_
  intro ac2 q2
  have zz2 := q2.z.trans zz1
  have dd2 := q2.f.trans dd1
  refine wlPut (exMove ((q2.n _ (by decide)).trans ((q1.n _ (by decide)).trans (w2)))) (ltz zz2 rfl) ?_
  intro ac3 q3
  have zz3 := q3.z.trans zz2
  have dd3 := q3.f.trans dd2
  refine wlPut (exMove ((q3.n _ (by decide)).trans ((q2.n _ (by decide)).trans ((q1.n _ (by decide)).trans (w3))))) (ltz zz3 rfl) ?_
  intro ac4 q4
  have zz4 := q4.z.trans zz3
  have dd4 := q4.f.trans dd3
  refine wlPut (exMove ((q4.n _ (by decide)).trans ((q3.n _ (by decide)).trans ((q2.n _ (by decide)).trans ((q1.n _ (by decide)).trans (w4)))))) (ltz zz4 rfl) ?_
  intro ac5 q5
  have zz5 := q5.z.trans zz4
  have dd5 := q5.f.trans dd4
  refine wlPut (exMove ((q5.n _ (by decide)).trans ((q4.n _ (by decide)).trans ((q3.n _ (by decide)).trans ((q2.n _ (by decide)).trans ((q1.n _ (by decide)).trans (w5))))))) (ltz zz5 rfl) ?_
  intro ac6 q6
  have zz6 := q6.z.trans zz5
  have dd6 := q6.f.trans dd5
  refine wlPut (exMove ((q6.n _ (by decide)).trans ((q5.n _ (by decide)).trans ((q4.n _ (by decide)).trans ((q3.n _ (by decide)).trans ((q2.n _ (by decide)).trans ((q1.n _ (by decide)).trans (w6)))))))) (ltz zz6 rfl) ?_
  intro ac7 q7
  have zz7 := q7.z.trans zz6
  have dd7 := q7.f.trans dd6
  refine wlPut (exMove ((q7.n _ (by decide)).trans ((q6.n _ (by decide)).trans ((q5.n _ (by decide)).trans ((q4.n _ (by decide)).trans ((q3.n _ (by decide)).trans ((q2.n _ (by decide)).trans ((q1.n _ (by decide)).trans (w7))))))))) (ltz zz7 rfl) ?_
  intro ac8 q8
  have zz8 := q8.z.trans zz7
  have dd8 := q8.f.trans dd7
  refine wlPut (exMove ((q8.n _ (by decide)).trans ((q7.n _ (by decide)).trans ((q6.n _ (by decide)).trans ((q5.n _ (by decide)).trans ((q4.n _ (by decide)).trans ((q3.n _ (by decide)).trans ((q2.n _ (by decide)).trans ((q1.n _ (by decide)).trans (w8)))))))))) (ltz zz8 rfl) ?_
  intro ac9 q9
  have zz9 := q9.z.trans zz8
  have dd9 := q9.f.trans dd8
  refine wlPut (exMove ((q9.n _ (by decide)).trans ((q8.n _ (by decide)).trans ((q7.n _ (by decide)).trans ((q6.n _ (by decide)).trans ((q5.n _ (by decide)).trans ((q4.n _ (by decide)).trans ((q3.n _ (by decide)).trans ((q2.n _ (by decide)).trans ((q1.n _ (by decide)).trans (w9))))))))))) (ltz zz9 rfl) ?_
  intro ac10 q10
  have zz10 := q10.z.trans zz9
  have dd10 := q10.f.trans dd9
  refine wlPut (exMove ((q10.n _ (by decide)).trans ((q9.n _ (by decide)).trans ((q8.n _ (by decide)).trans ((q7.n _ (by decide)).trans ((q6.n _ (by decide)).trans ((q5.n _ (by decide)).trans ((q4.n _ (by decide)).trans ((q3.n _ (by decide)).trans ((q2.n _ (by decide)).trans ((q1.n _ (by decide)).trans (w10)))))))))))) (ltz zz10 rfl) ?_
  intro ac11 q11
  have zz11 := q11.z.trans zz10
  have dd11 := q11.f.trans dd10
  refine wlPut (exMove ((q11.n _ (by decide)).trans ((q10.n _ (by decide)).trans ((q9.n _ (by decide)).trans ((q8.n _ (by decide)).trans ((q7.n _ (by decide)).trans ((q6.n _ (by decide)).trans ((q5.n _ (by decide)).trans ((q4.n _ (by decide)).trans ((q3.n _ (by decide)).trans ((q2.n _ (by decide)).trans ((q1.n _ (by decide)).trans (w11))))))))))))) (ltz zz11 rfl) ?_
  intro ac12 q12
  have zz12 := q12.z.trans zz11
  have dd12 := q12.f.trans dd11
  refine wlPut (exMove ((q12.n _ (by decide)).trans ((q11.n _ (by decide)).trans ((q10.n _ (by decide)).trans ((q9.n _ (by decide)).trans ((q8.n _ (by decide)).trans ((q7.n _ (by decide)).trans ((q6.n _ (by decide)).trans ((q5.n _ (by decide)).trans ((q4.n _ (by decide)).trans ((q3.n _ (by decide)).trans ((q2.n _ (by decide)).trans ((q1.n _ (by decide)).trans (w12)))))))))))))) (ltz zz12 rfl) ?_
  intro ac13 q13
  have zz13 := q13.z.trans zz12
  have dd13 := q13.f.trans dd12
  refine wlPut (exMove ((q13.n _ (by decide)).trans ((q12.n _ (by decide)).trans ((q11.n _ (by decide)).trans ((q10.n _ (by decide)).trans ((q9.n _ (by decide)).trans ((q8.n _ (by decide)).trans ((q7.n _ (by decide)).trans ((q6.n _ (by decide)).trans ((q5.n _ (by decide)).trans ((q4.n _ (by decide)).trans ((q3.n _ (by decide)).trans ((q2.n _ (by decide)).trans ((q1.n _ (by decide)).trans (w13))))))))))))))) (ltz zz13 rfl) ?_
  intro ac14 q14
  have zz14 := q14.z.trans zz13
  have dd14 := q14.f.trans dd13
  have f229_14 := (q14.n _ (by decide)).trans ((q13.n _ (by decide)).trans ((q12.n _ (by decide)).trans ((q11.n _ (by decide)).trans ((q10.n _ (by decide)).trans ((q9.n _ (by decide)).trans ((q8.n _ (by decide)).trans ((q7.n _ (by decide)).trans ((q6.n _ (by decide)).trans ((q5.n _ (by decide)).trans ((q4.n _ (by decide)).trans ((q3.n _ (by decide)).trans ((q2.n _ (by decide)).trans (q1.v)))))))))))))
  have f230_14 := (q14.n _ (by decide)).trans ((q13.n _ (by decide)).trans ((q12.n _ (by decide)).trans ((q11.n _ (by decide)).trans ((q10.n _ (by decide)).trans ((q9.n _ (by decide)).trans ((q8.n _ (by decide)).trans ((q7.n _ (by decide)).trans ((q6.n _ (by decide)).trans ((q5.n _ (by decide)).trans ((q4.n _ (by decide)).trans ((q3.n _ (by decide)).trans (q2.v))))))))))))
  have f231_14 := (q14.n _ (by decide)).trans ((q13.n _ (by decide)).trans ((q12.n _ (by decide)).trans ((q11.n _ (by decide)).trans ((q10.n _ (by decide)).trans ((q9.n _ (by decide)).trans ((q8.n _ (by decide)).trans ((q7.n _ (by decide)).trans ((q6.n _ (by decide)).trans ((q5.n _ (by decide)).trans ((q4.n _ (by decide)).trans (q3.v)))))))))))
  have f232_14 := (q14.n _ (by decide)).trans ((q13.n _ (by decide)).trans ((q12.n _ (by decide)).trans ((q11.n _ (by decide)).trans ((q10.n _ (by decide)).trans ((q9.n _ (by decide)).trans ((q8.n _ (by decide)).trans ((q7.n _ (by decide)).trans ((q6.n _ (by decide)).trans ((q5.n _ (by decide)).trans (q4.v))))))))))
  have f233_14 := (q14.n _ (by decide)).trans ((q13.n _ (by decide)).trans ((q12.n _ (by decide)).trans ((q11.n _ (by decide)).trans ((q10.n _ (by decide)).trans ((q9.n _ (by decide)).trans ((q8.n _ (by decide)).trans ((q7.n _ (by decide)).trans ((q6.n _ (by decide)).trans (q5.v)))))))))
  have f234_14 := (q14.n _ (by decide)).trans ((q13.n _ (by decide)).trans ((q12.n _ (by decide)).trans ((q11.n _ (by decide)).trans ((q10.n _ (by decide)).trans ((q9.n _ (by decide)).trans ((q8.n _ (by decide)).trans ((q7.n _ (by decide)).trans (q6.v))))))))
  have f235_14 := (q14.n _ (by decide)).trans ((q13.n _ (by decide)).trans ((q12.n _ (by decide)).trans ((q11.n _ (by decide)).trans ((q10.n _ (by decide)).trans ((q9.n _ (by decide)).trans ((q8.n _ (by decide)).trans (q7.v)))))))
  have f236_14 := (q14.n _ (by decide)).trans ((q13.n _ (by decide)).trans ((q12.n _ (by decide)).trans ((q11.n _ (by decide)).trans ((q10.n _ (by decide)).trans ((q9.n _ (by decide)).trans (q8.v))))))
  have f237_14 := (q14.n _ (by decide)).trans ((q13.n _ (by decide)).trans ((q12.n _ (by decide)).trans ((q11.n _ (by decide)).trans ((q10.n _ (by decide)).trans (q9.v)))))
  have f238_14 := (q14.n _ (by decide)).trans ((q13.n _ (by decide)).trans ((q12.n _ (by decide)).trans ((q11.n _ (by decide)).trans (q10.v))))
  have f239_14 := (q14.n _ (by decide)).trans ((q13.n _ (by decide)).trans ((q12.n _ (by decide)).trans (q11.v)))
  have f240_14 := (q14.n _ (by decide)).trans ((q13.n _ (by decide)).trans (q12.v))
  have f241_14 := (q14.n _ (by decide)).trans (q13.v)
  refine wlCall (exCall14 (f229_14) (f230_14) (f231_14) (f232_14) (f233_14) (f234_14) (f235_14) (f236_14) (f237_14) (f238_14) (f239_14) (f240_14) (f241_14) (q14.v) rfl (by go_simp)) hre (ltz zz14 rfl) ?_
  rintro e w' ⟨rfl, hR, hFR⟩
  refine ⟨_, rfl, fun aE qE => wpList_nil ?_⟩
  refine endA rfl (qE.f.trans dd14) ⟨rfl, hR, ?_⟩
  refine ((hF0.mono (fun _ _ _ f => f.elim)).trans ((h.fr.mono (T := Or2 (Rng d q 8) (Rng g 0 3)) (fun _ _ _ f => .inr f)).trans (hFR.mono (fun _ _ _ f => .inl f)))).mono (fun k o hk f => ?_)
  rcases f with f | f
  · exact f
  have := f.1; omega
set_option maxHeartbeats 4000000 in
theorem arithMul {p00 p01 p02 p03 p04 p05 p06 p07 p10 p11 p12 p13 p14 p15 p16 p17 p20 p21 p22 p23 p24 p25 p26 p27 p30 p31 p32 p33 p34 p35 p36 p37 p40 p41 p42 p43 p44 p45 p46 p47 p50 p51 p52 p53 p54 p55 p56 p57 p60 p61 p62 p63 p64 p65 p66 p67 p70 p71 p72 p73 p74 p75 p76 p77 A0 A1 A2 A3 A4 A5 A6 A7 A8 A9 A10 A11 A12 A13 A14 A15 Z : Int} (hz : Z = 1 * p00 + 4294967296 * p01 + 18446744073709551616 * p02 + 79228162514264337593543950336 * p03 + 340282366920938463463374607431768211456 * p04 + 1461501637330902918203684832716283019655932542976 * p05 + 6277101735386680763835789423207666416102355444464034512896 * p06 + 26959946667150639794667015087019630673637144422540572481103610249216 * p07 + 4294967296 * p10 + 18446744073709551616 * p11 + 79228162514264337593543950336 * p12 + 340282366920938463463374607431768211456 * p13 + 1461501637330902918203684832716283019655932542976 * p14 + 6277101735386680763835789423207666416102355444464034512896 * p15 + 26959946667150639794667015087019630673637144422540572481103610249216 * p16 + 115792089237316195423570985008687907853269984665640564039457584007913129639936 * p17 + 18446744073709551616 * p20 + 79228162514264337593543950336 * p21 + 340282366920938463463374607431768211456 * p22 + 1461501637330902918203684832716283019655932542976 * p23 + 6277101735386680763835789423207666416102355444464034512896 * p24 + 26959946667150639794667015087019630673637144422540572481103610249216 * p25 + 115792089237316195423570985008687907853269984665640564039457584007913129639936 * p26 + 497323236409786642155382248146820840100456150797347717440463976893159497012533375533056 * p27 + 79228162514264337593543950336 * p30 + 340282366920938463463374607431768211456 * p31 + 1461501637330902918203684832716283019655932542976 * p32 + 6277101735386680763835789423207666416102355444464034512896 * p33 + 26959946667150639794667015087019630673637144422540572481103610249216 * p34 + 115792089237316195423570985008687907853269984665640564039457584007913129639936 * p35 + 497323236409786642155382248146820840100456150797347717440463976893159497012533375533056 * p36 + 2135987035920910082395021706169552114602704522356652769947041607822219725780640550022962086936576 * p37 + 340282366920938463463374607431768211456 * p40 + 1461501637330902918203684832716283019655932542976 * p41 + 6277101735386680763835789423207666416102355444464034512896 * p42 + 26959946667150639794667015087019630673637144422540572481103610249216 * p43 + 115792089237316195423570985008687907853269984665640564039457584007913129639936 * p44 + 497323236409786642155382248146820840100456150797347717440463976893159497012533375533056 * p45 + 2135987035920910082395021706169552114602704522356652769947041607822219725780640550022962086936576 * p46 + 9173994463960286046443283581208347763186259956673124494950355357547691504353939232280074212440502746218496 * p47 + 1461501637330902918203684832716283019655932542976 * p50 + 6277101735386680763835789423207666416102355444464034512896 * p51 + 26959946667150639794667015087019630673637144422540572481103610249216 * p52 + 115792089237316195423570985008687907853269984665640564039457584007913129639936 * p53 + 497323236409786642155382248146820840100456150797347717440463976893159497012533375533056 * p54 + 2135987035920910082395021706169552114602704522356652769947041607822219725780640550022962086936576 * p55 + 9173994463960286046443283581208347763186259956673124494950355357547691504353939232280074212440502746218496 * p56 + 39402006196394479212279040100143613805079739270465446667948293404245721771497210611414266254884915640806627990306816 * p57 + 6277101735386680763835789423207666416102355444464034512896 * p60 + 26959946667150639794667015087019630673637144422540572481103610249216 * p61 + 115792089237316195423570985008687907853269984665640564039457584007913129639936 * p62 + 497323236409786642155382248146820840100456150797347717440463976893159497012533375533056 * p63 + 2135987035920910082395021706169552114602704522356652769947041607822219725780640550022962086936576 * p64 + 9173994463960286046443283581208347763186259956673124494950355357547691504353939232280074212440502746218496 * p65 + 39402006196394479212279040100143613805079739270465446667948293404245721771497210611414266254884915640806627990306816 * p66 + 169230328010303641331690318856389386196071598838855992136870091590247882556495704531248437872567112920983350278405979725889536 * p67 + 26959946667150639794667015087019630673637144422540572481103610249216 * p70 + 115792089237316195423570985008687907853269984665640564039457584007913129639936 * p71 + 497323236409786642155382248146820840100456150797347717440463976893159497012533375533056 * p72 + 2135987035920910082395021706169552114602704522356652769947041607822219725780640550022962086936576 * p73 + 9173994463960286046443283581208347763186259956673124494950355357547691504353939232280074212440502746218496 * p74 + 39402006196394479212279040100143613805079739270465446667948293404245721771497210611414266254884915640806627990306816 * p75 + 169230328010303641331690318856389386196071598838855992136870091590247882556495704531248437872567112920983350278405979725889536 * p76 + 726838724295606890549323807888004534353641360687318060281490199180639288113397923326191050713763565560762521606266177933534601628614656 * p77) (hz0 : 0 ≤ Z) (hz' : Z < 13407807929942597099574024998205846127479365820592393377723561443721764030073546976801874298166903427690031858186486050853753882811946569946433649006084096) (h0 : A0 = 0 + p00) (h1 : A1 = A0 / 4294967296 + p01 + p10) (h2 : A2 = A1 / 4294967296 + p02 + p11 + p20) (h3 : A3 = A2 / 4294967296 + p03 + p12 + p21 + p30) (h4 : A4 = A3 / 4294967296 + p04 + p13 + p22 + p31 + p40) (h5 : A5 = A4 / 4294967296 + p05 + p14 + p23 + p32 + p41 + p50) (h6 : A6 = A5 / 4294967296 + p06 + p15 + p24 + p33 + p42 + p51 + p60) (h7 : A7 = A6 / 4294967296 + p07 + p16 + p25 + p34 + p43 + p52 + p61 + p70) (h8 : A8 = A7 / 4294967296 + p17 + p26 + p35 + p44 + p53 + p62 + p71) (h9 : A9 = A8 / 4294967296 + p27 + p36 + p45 + p54 + p63 + p72) (h10 : A10 = A9 / 4294967296 + p37 + p46 + p55 + p64 + p73) (h11 : A11 = A10 / 4294967296 + p47 + p56 + p65 + p74) (h12 : A12 = A11 / 4294967296 + p57 + p66 + p75) (h13 : A13 = A12 / 4294967296 + p67 + p76) (h14 : A14 = A13 / 4294967296 + p77) (h15 : A15 = A14 / 4294967296) : val16 (A0 % 4294967296) (A1 % 4294967296) (A2 % 4294967296) (A3 % 4294967296) (A4 % 4294967296) (A5 % 4294967296) (A6 % 4294967296) (A7 % 4294967296) (A8 % 4294967296) (A9 % 4294967296) (A10 % 4294967296) (A11 % 4294967296) (A12 % 4294967296) (A13 % 4294967296) (A14 % 4294967296) (A15 % 4294967296) = Z := by
  obtain ⟨P0, hP0⟩ : ∃ P, P = 1 * (A0 % 4294967296) := ⟨_, rfl⟩
  obtain ⟨C0, hC0⟩ : ∃ C, C = 1 * p00 := ⟨_, rfl⟩
  have s0 : P0 + 4294967296 * (A0 / 4294967296) = C0 := by
    clear h1 h2 h3 h4 h5 h6 h7 h8 h9 h10 h11 h12 h13 h14 h15 hz hz0 hz'
    omega
  obtain ⟨P1, hP1⟩ : ∃ P, P = P0 + 4294967296 * (A1 % 4294967296) := ⟨_, rfl⟩
  obtain ⟨C1, hC1⟩ : ∃ C, C = C0 + 4294967296 * p01 + 4294967296 * p10 := ⟨_, rfl⟩
  have s1 : P1 + 18446744073709551616 * (A1 / 4294967296) = C1 := by
    clear hP0 hC0 h0 h2 h3 h4 h5 h6 h7 h8 h9 h10 h11 h12 h13 h14 h15 hz hz0 hz'
    omega
  obtain ⟨P2, hP2⟩ : ∃ P, P = P1 + 18446744073709551616 * (A2 % 4294967296) := ⟨_, rfl⟩
  obtain ⟨C2, hC2⟩ : ∃ C, C = C1 + 18446744073709551616 * p02 + 18446744073709551616 * p11 + 18446744073709551616 * p20 := ⟨_, rfl⟩
  have s2 : P2 + 79228162514264337593543950336 * (A2 / 4294967296) = C2 := by
    clear hP0 hC0 hP1 hC1 s0 h0 h1 h3 h4 h5 h6 h7 h8 h9 h10 h11 h12 h13 h14 h15 hz hz0 hz'
    omega
  obtain ⟨P3, hP3⟩ : ∃ P, P = P2 + 79228162514264337593543950336 * (A3 % 4294967296) := ⟨_, rfl⟩
  obtain ⟨C3, hC3⟩ : ∃ C, C = C2 + 79228162514264337593543950336 * p03 + 79228162514264337593543950336 * p12 + 79228162514264337593543950336 * p21 + 79228162514264337593543950336 * p30 := ⟨_, rfl⟩
  have s3 : P3 + 340282366920938463463374607431768211456 * (A3 / 4294967296) = C3 := by
    clear hP0 hC0 hP1 hC1 hP2 hC2 s0 s1 h0 h1 h2 h4 h5 h6 h7 h8 h9 h10 h11 h12 h13 h14 h15 hz hz0 hz'
    omega
  obtain ⟨P4, hP4⟩ : ∃ P, P = P3 + 340282366920938463463374607431768211456 * (A4 % 4294967296) := ⟨_, rfl⟩
  obtain ⟨C4, hC4⟩ : ∃ C, C = C3 + 340282366920938463463374607431768211456 * p04 + 340282366920938463463374607431768211456 * p13 + 340282366920938463463374607431768211456 * p22 + 340282366920938463463374607431768211456 * p31 + 340282366920938463463374607431768211456 * p40 := ⟨_, rfl⟩
  have s4 : P4 + 1461501637330902918203684832716283019655932542976 * (A4 / 4294967296) = C4 := by
    clear hP0 hC0 hP1 hC1 hP2 hC2 hP3 hC3 s0 s1 s2 h0 h1 h2 h3 h5 h6 h7 h8 h9 h10 h11 h12 h13 h14 h15 hz hz0 hz'
    omega
  obtain ⟨P5, hP5⟩ : ∃ P, P = P4 + 1461501637330902918203684832716283019655932542976 * (A5 % 4294967296) := ⟨_, rfl⟩
  obtain ⟨C5, hC5⟩ : ∃ C, C = C4 + 1461501637330902918203684832716283019655932542976 * p05 + 1461501637330902918203684832716283019655932542976 * p14 + 1461501637330902918203684832716283019655932542976 * p23 + 1461501637330902918203684832716283019655932542976 * p32 + 1461501637330902918203684832716283019655932542976 * p41 + 1461501637330902918203684832716283019655932542976 * p50 := ⟨_, rfl⟩
  have s5 : P5 + 6277101735386680763835789423207666416102355444464034512896 * (A5 / 4294967296) = C5 := by
    clear hP0 hC0 hP1 hC1 hP2 hC2 hP3 hC3 hP4 hC4 s0 s1 s2 s3 h0 h1 h2 h3 h4 h6 h7 h8 h9 h10 h11 h12 h13 h14 h15 hz hz0 hz'
    omega
  obtain ⟨P6, hP6⟩ : ∃ P, P = P5 + 6277101735386680763835789423207666416102355444464034512896 * (A6 % 4294967296) := ⟨_, rfl⟩
  obtain ⟨C6, hC6⟩ : ∃ C, C = C5 + 6277101735386680763835789423207666416102355444464034512896 * p06 + 6277101735386680763835789423207666416102355444464034512896 * p15 + 6277101735386680763835789423207666416102355444464034512896 * p24 + 6277101735386680763835789423207666416102355444464034512896 * p33 + 6277101735386680763835789423207666416102355444464034512896 * p42 + 6277101735386680763835789423207666416102355444464034512896 * p51 + 6277101735386680763835789423207666416102355444464034512896 * p60 := ⟨_, rfl⟩
  have s6 : P6 + 26959946667150639794667015087019630673637144422540572481103610249216 * (A6 / 4294967296) = C6 := by
    clear hP0 hC0 hP1 hC1 hP2 hC2 hP3 hC3 hP4 hC4 hP5 hC5 s0 s1 s2 s3 s4 h0 h1 h2 h3 h4 h5 h7 h8 h9 h10 h11 h12 h13 h14 h15 hz hz0 hz'
    omega
  obtain ⟨P7, hP7⟩ : ∃ P, P = P6 + 26959946667150639794667015087019630673637144422540572481103610249216 * (A7 % 4294967296) := ⟨_, rfl⟩
  obtain ⟨C7, hC7⟩ : ∃ C, C = C6 + 26959946667150639794667015087019630673637144422540572481103610249216 * p07 + 26959946667150639794667015087019630673637144422540572481103610249216 * p16 + 26959946667150639794667015087019630673637144422540572481103610249216 * p25 + 26959946667150639794667015087019630673637144422540572481103610249216 * p34 + 26959946667150639794667015087019630673637144422540572481103610249216 * p43 + 26959946667150639794667015087019630673637144422540572481103610249216 * p52 + 26959946667150639794667015087019630673637144422540572481103610249216 * p61 + 26959946667150639794667015087019630673637144422540572481103610249216 * p70 := ⟨_, rfl⟩
  have s7 : P7 + 115792089237316195423570985008687907853269984665640564039457584007913129639936 * (A7 / 4294967296) = C7 := by
    clear hP0 hC0 hP1 hC1 hP2 hC2 hP3 hC3 hP4 hC4 hP5 hC5 hP6 hC6 s0 s1 s2 s3 s4 s5 h0 h1 h2 h3 h4 h5 h6 h8 h9 h10 h11 h12 h13 h14 h15 hz hz0 hz'
    omega
  obtain ⟨P8, hP8⟩ : ∃ P, P = P7 + 115792089237316195423570985008687907853269984665640564039457584007913129639936 * (A8 % 4294967296) := ⟨_, rfl⟩
  obtain ⟨C8, hC8⟩ : ∃ C, C = C7 + 115792089237316195423570985008687907853269984665640564039457584007913129639936 * p17 + 115792089237316195423570985008687907853269984665640564039457584007913129639936 * p26 + 115792089237316195423570985008687907853269984665640564039457584007913129639936 * p35 + 115792089237316195423570985008687907853269984665640564039457584007913129639936 * p44 + 115792089237316195423570985008687907853269984665640564039457584007913129639936 * p53 + 115792089237316195423570985008687907853269984665640564039457584007913129639936 * p62 + 115792089237316195423570985008687907853269984665640564039457584007913129639936 * p71 := ⟨_, rfl⟩
  have s8 : P8 + 497323236409786642155382248146820840100456150797347717440463976893159497012533375533056 * (A8 / 4294967296) = C8 := by
    clear hP0 hC0 hP1 hC1 hP2 hC2 hP3 hC3 hP4 hC4 hP5 hC5 hP6 hC6 hP7 hC7 s0 s1 s2 s3 s4 s5 s6 h0 h1 h2 h3 h4 h5 h6 h7 h9 h10 h11 h12 h13 h14 h15 hz hz0 hz'
    omega
  obtain ⟨P9, hP9⟩ : ∃ P, P = P8 + 497323236409786642155382248146820840100456150797347717440463976893159497012533375533056 * (A9 % 4294967296) := ⟨_, rfl⟩
  obtain ⟨C9, hC9⟩ : ∃ C, C = C8 + 497323236409786642155382248146820840100456150797347717440463976893159497012533375533056 * p27 + 497323236409786642155382248146820840100456150797347717440463976893159497012533375533056 * p36 + 497323236409786642155382248146820840100456150797347717440463976893159497012533375533056 * p45 + 497323236409786642155382248146820840100456150797347717440463976893159497012533375533056 * p54 + 497323236409786642155382248146820840100456150797347717440463976893159497012533375533056 * p63 + 497323236409786642155382248146820840100456150797347717440463976893159497012533375533056 * p72 := ⟨_, rfl⟩
  have s9 : P9 + 2135987035920910082395021706169552114602704522356652769947041607822219725780640550022962086936576 * (A9 / 4294967296) = C9 := by
    clear hP0 hC0 hP1 hC1 hP2 hC2 hP3 hC3 hP4 hC4 hP5 hC5 hP6 hC6 hP7 hC7 hP8 hC8 s0 s1 s2 s3 s4 s5 s6 s7 h0 h1 h2 h3 h4 h5 h6 h7 h8 h10 h11 h12 h13 h14 h15 hz hz0 hz'
    omega
  obtain ⟨P10, hP10⟩ : ∃ P, P = P9 + 2135987035920910082395021706169552114602704522356652769947041607822219725780640550022962086936576 * (A10 % 4294967296) := ⟨_, rfl⟩
  obtain ⟨C10, hC10⟩ : ∃ C, C = C9 + 2135987035920910082395021706169552114602704522356652769947041607822219725780640550022962086936576 * p37 + 2135987035920910082395021706169552114602704522356652769947041607822219725780640550022962086936576 * p46 + 2135987035920910082395021706169552114602704522356652769947041607822219725780640550022962086936576 * p55 + 2135987035920910082395021706169552114602704522356652769947041607822219725780640550022962086936576 * p64 + 2135987035920910082395021706169552114602704522356652769947041607822219725780640550022962086936576 * p73 := ⟨_, rfl⟩
  have s10 : P10 + 9173994463960286046443283581208347763186259956673124494950355357547691504353939232280074212440502746218496 * (A10 / 4294967296) = C10 := by
    clear hP0 hC0 hP1 hC1 hP2 hC2 hP3 hC3 hP4 hC4 hP5 hC5 hP6 hC6 hP7 hC7 hP8 hC8 hP9 hC9 s0 s1 s2 s3 s4 s5 s6 s7 s8 h0 h1 h2 h3 h4 h5 h6 h7 h8 h9 h11 h12 h13 h14 h15 hz hz0 hz'
    omega
  obtain ⟨P11, hP11⟩ : ∃ P, P = P10 + 9173994463960286046443283581208347763186259956673124494950355357547691504353939232280074212440502746218496 * (A11 % 4294967296) := ⟨_, rfl⟩
  obtain ⟨C11, hC11⟩ : ∃ C, C = C10 + 9173994463960286046443283581208347763186259956673124494950355357547691504353939232280074212440502746218496 * p47 + 9173994463960286046443283581208347763186259956673124494950355357547691504353939232280074212440502746218496 * p56 + 9173994463960286046443283581208347763186259956673124494950355357547691504353939232280074212440502746218496 * p65 + 9173994463960286046443283581208347763186259956673124494950355357547691504353939232280074212440502746218496 * p74 := ⟨_, rfl⟩
  have s11 : P11 + 39402006196394479212279040100143613805079739270465446667948293404245721771497210611414266254884915640806627990306816 * (A11 / 4294967296) = C11 := by
    clear hP0 hC0 hP1 hC1 hP2 hC2 hP3 hC3 hP4 hC4 hP5 hC5 hP6 hC6 hP7 hC7 hP8 hC8 hP9 hC9 hP10 hC10 s0 s1 s2 s3 s4 s5 s6 s7 s8 s9 h0 h1 h2 h3 h4 h5 h6 h7 h8 h9 h10 h12 h13 h14 h15 hz hz0 hz'
    omega
  obtain ⟨P12, hP12⟩ : ∃ P, P = P11 + 39402006196394479212279040100143613805079739270465446667948293404245721771497210611414266254884915640806627990306816 * (A12 % 4294967296) := ⟨_, rfl⟩
  obtain ⟨C12, hC12⟩ : ∃ C, C = C11 + 39402006196394479212279040100143613805079739270465446667948293404245721771497210611414266254884915640806627990306816 * p57 + 39402006196394479212279040100143613805079739270465446667948293404245721771497210611414266254884915640806627990306816 * p66 + 39402006196394479212279040100143613805079739270465446667948293404245721771497210611414266254884915640806627990306816 * p75 := ⟨_, rfl⟩
  have s12 : P12 + 169230328010303641331690318856389386196071598838855992136870091590247882556495704531248437872567112920983350278405979725889536 * (A12 / 4294967296) = C12 := by
    clear hP0 hC0 hP1 hC1 hP2 hC2 hP3 hC3 hP4 hC4 hP5 hC5 hP6 hC6 hP7 hC7 hP8 hC8 hP9 hC9 hP10 hC10 hP11 hC11 s0 s1 s2 s3 s4 s5 s6 s7 s8 s9 s10 h0 h1 h2 h3 h4 h5 h6 h7 h8 h9 h10 h11 h13 h14 h15 hz hz0 hz'
    omega
  obtain ⟨P13, hP13⟩ : ∃ P, P = P12 + 169230328010303641331690318856389386196071598838855992136870091590247882556495704531248437872567112920983350278405979725889536 * (A13 % 4294967296) := ⟨_, rfl⟩
  obtain ⟨C13, hC13⟩ : ∃ C, C = C12 + 169230328010303641331690318856389386196071598838855992136870091590247882556495704531248437872567112920983350278405979725889536 * p67 + 169230328010303641331690318856389386196071598838855992136870091590247882556495704531248437872567112920983350278405979725889536 * p76 := ⟨_, rfl⟩
  have s13 : P13 + 726838724295606890549323807888004534353641360687318060281490199180639288113397923326191050713763565560762521606266177933534601628614656 * (A13 / 4294967296) = C13 := by
    clear hP0 hC0 hP1 hC1 hP2 hC2 hP3 hC3 hP4 hC4 hP5 hC5 hP6 hC6 hP7 hC7 hP8 hC8 hP9 hC9 hP10 hC10 hP11 hC11 hP12 hC12 s0 s1 s2 s3 s4 s5 s6 s7 s8 s9 s10 s11 h0 h1 h2 h3 h4 h5 h6 h7 h8 h9 h10 h11 h12 h14 h15 hz hz0 hz'
    omega
  obtain ⟨P14, hP14⟩ : ∃ P, P = P13 + 726838724295606890549323807888004534353641360687318060281490199180639288113397923326191050713763565560762521606266177933534601628614656 * (A14 % 4294967296) := ⟨_, rfl⟩
  obtain ⟨C14, hC14⟩ : ∃ C, C = C13 + 726838724295606890549323807888004534353641360687318060281490199180639288113397923326191050713763565560762521606266177933534601628614656 * p77 := ⟨_, rfl⟩
  have s14 : P14 + 3121748550315992231381597229793166305748598142664971150859156959625371738819765620120306103063491971159826931121406622895447975679288285306290176 * (A14 / 4294967296) = C14 := by
    clear hP0 hC0 hP1 hC1 hP2 hC2 hP3 hC3 hP4 hC4 hP5 hC5 hP6 hC6 hP7 hC7 hP8 hC8 hP9 hC9 hP10 hC10 hP11 hC11 hP12 hC12 hP13 hC13 s0 s1 s2 s3 s4 s5 s6 s7 s8 s9 s10 s11 s12 h0 h1 h2 h3 h4 h5 h6 h7 h8 h9 h10 h11 h12 h13 h15 hz hz0 hz'
    omega
  obtain ⟨P15, hP15⟩ : ∃ P, P = P14 + 3121748550315992231381597229793166305748598142664971150859156959625371738819765620120306103063491971159826931121406622895447975679288285306290176 * (A15 % 4294967296) := ⟨_, rfl⟩
  obtain ⟨C15, hC15⟩ : ∃ C, C = C14 + 0 := ⟨_, rfl⟩
  have s15 : P15 + 13407807929942597099574024998205846127479365820592393377723561443721764030073546976801874298166903427690031858186486050853753882811946569946433649006084096 * (A15 / 4294967296) = C15 := by
    clear hP0 hC0 hP1 hC1 hP2 hC2 hP3 hC3 hP4 hC4 hP5 hC5 hP6 hC6 hP7 hC7 hP8 hC8 hP9 hC9 hP10 hC10 hP11 hC11 hP12 hC12 hP13 hC13 hP14 hC14 s0 s1 s2 s3 s4 s5 s6 s7 s8 s9 s10 s11 s12 s13 h0 h1 h2 h3 h4 h5 h6 h7 h8 h9 h10 h11 h12 h13 h14 hz hz0 hz'
    omega
  have e0 : val16 (A0 % 4294967296) (A1 % 4294967296) (A2 % 4294967296) (A3 % 4294967296) (A4 % 4294967296) (A5 % 4294967296) (A6 % 4294967296) (A7 % 4294967296) (A8 % 4294967296) (A9 % 4294967296) (A10 % 4294967296) (A11 % 4294967296) (A12 % 4294967296) (A13 % 4294967296) (A14 % 4294967296) (A15 % 4294967296) = P15 := by
    unfold val16; rw [hP15, hP14, hP13, hP12, hP11, hP10, hP9, hP8, hP7, hP6, hP5, hP4, hP3, hP2, hP1, hP0]; clear hC0 s0 h0 hP0 hC1 s1 h1 hP1 hC2 s2 h2 hP2 hC3 s3 h3 hP3 hC4 s4 h4 hP4 hC5 s5 h5 hP5 hC6 s6 h6 hP6 hC7 s7 h7 hP7 hC8 s8 h8 hP8 hC9 s9 h9 hP9 hC10 s10 h10 hP10 hC11 s11 h11 hP11 hC12 s12 h12 hP12 hC13 s13 h13 hP13 hC14 s14 h14 hP14 hC15 s15 h15 hP15 hz hz0 hz'; omega
  have e1 : C15 = Z := by
    rw [hz, hC15, hC14, hC13, hC12, hC11, hC10, hC9, hC8, hC7, hC6, hC5, hC4, hC3, hC2, hC1, hC0]; clear hC0 s0 h0 hP0 hC1 s1 h1 hP1 hC2 s2 h2 hP2 hC3 s3 h3 hP3 hC4 s4 h4 hP4 hC5 s5 h5 hP5 hC6 s6 h6 hP6 hC7 s7 h7 hP7 hC8 s8 h8 hP8 hC9 s9 h9 hP9 hC10 s10 h10 hP10 hC11 s11 h11 hP11 hC12 s12 h12 hP12 hC13 s13 h13 hP13 hC14 s14 h14 hP14 hC15 s15 h15 hP15 hz hz0 hz' e0; omega
  have e2 : 0 ≤ P15 := by rw [← e0]; unfold val16; clear hC0 s0 h0 hP0 hC1 s1 h1 hP1 hC2 s2 h2 hP2 hC3 s3 h3 hP3 hC4 s4 h4 hP4 hC5 s5 h5 hP5 hC6 s6 h6 hP6 hC7 s7 h7 hP7 hC8 s8 h8 hP8 hC9 s9 h9 hP9 hC10 s10 h10 hP10 hC11 s11 h11 hP11 hC12 s12 h12 hP12 hC13 s13 h13 hP13 hC14 s14 h14 hP14 hC15 s15 h15 hP15 hz hz0 hz' e0 e1; omega
  have e3 : P15 < 13407807929942597099574024998205846127479365820592393377723561443721764030073546976801874298166903427690031858186486050853753882811946569946433649006084096 := by rw [← e0]; unfold val16; clear hC0 s0 h0 hP0 hC1 s1 h1 hP1 hC2 s2 h2 hP2 hC3 s3 h3 hP3 hC4 s4 h4 hP4 hC5 s5 h5 hP5 hC6 s6 h6 hP6 hC7 s7 h7 hP7 hC8 s8 h8 hP8 hC9 s9 h9 hP9 hC10 s10 h10 hP10 hC11 s11 h11 hP11 hC12 s12 h12 hP12 hC13 s13 h13 hP13 hC14 s14 h14 hP14 hC15 s15 h15 hP15 hz hz0 hz' e0 e1 e2; omega
  rw [e0]
  clear hC0 h0 hP0 hC1 h1 hP1 hC2 h2 hP2 hC3 h3 hP3 hC4 h4 hP4 hC5 h5 hP5 hC6 h6 hP6 hC7 h7 hP7 hC8 h8 hP8 hC9 h9 hP9 hC10 h10 hP10 hC11 h11 hP11 hC12 h12 hP12 hC13 h13 hP13 hC14 h14 hP14 hC15 h15 hP15 s0 s1 s2 s3 s4 s5 s6 s7 s8 s9 s10 s11 s12 s13 s14 hz e0
  omega
theorem mulExpand (X Y : Nat → Int) : val8 (X 0) (X 1) (X 2) (X 3) (X 4) (X 5) (X 6) (X 7) * val8 (Y 0) (Y 1) (Y 2) (Y 3) (Y 4) (Y 5) (Y 6) (Y 7) = 1 * (X 0 * Y 0) + 4294967296 * (X 0 * Y 1) + 18446744073709551616 * (X 0 * Y 2) + 79228162514264337593543950336 * (X 0 * Y 3) + 340282366920938463463374607431768211456 * (X 0 * Y 4) + 1461501637330902918203684832716283019655932542976 * (X 0 * Y 5) + 6277101735386680763835789423207666416102355444464034512896 * (X 0 * Y 6) + 26959946667150639794667015087019630673637144422540572481103610249216 * (X 0 * Y 7) + 4294967296 * (X 1 * Y 0) + 18446744073709551616 * (X 1 * Y 1) + 79228162514264337593543950336 * (X 1 * Y 2) + 340282366920938463463374607431768211456 * (X 1 * Y 3) + 1461501637330902918203684832716283019655932542976 * (X 1 * Y 4) + 6277101735386680763835789423207666416102355444464034512896 * (X 1 * Y 5) + 26959946667150639794667015087019630673637144422540572481103610249216 * (X 1 * Y 6) + 115792089237316195423570985008687907853269984665640564039457584007913129639936 * (X 1 * Y 7) + 18446744073709551616 * (X 2 * Y 0) + 79228162514264337593543950336 * (X 2 * Y 1) + 340282366920938463463374607431768211456 * (X 2 * Y 2) + 1461501637330902918203684832716283019655932542976 * (X 2 * Y 3) + 6277101735386680763835789423207666416102355444464034512896 * (X 2 * Y 4) + 26959946667150639794667015087019630673637144422540572481103610249216 * (X 2 * Y 5) + 115792089237316195423570985008687907853269984665640564039457584007913129639936 * (X 2 * Y 6) + 497323236409786642155382248146820840100456150797347717440463976893159497012533375533056 * (X 2 * Y 7) + 79228162514264337593543950336 * (X 3 * Y 0) + 340282366920938463463374607431768211456 * (X 3 * Y 1) + 1461501637330902918203684832716283019655932542976 * (X 3 * Y 2) + 6277101735386680763835789423207666416102355444464034512896 * (X 3 * Y 3) + 26959946667150639794667015087019630673637144422540572481103610249216 * (X 3 * Y 4) + 115792089237316195423570985008687907853269984665640564039457584007913129639936 * (X 3 * Y 5) + 497323236409786642155382248146820840100456150797347717440463976893159497012533375533056 * (X 3 * Y 6) + 2135987035920910082395021706169552114602704522356652769947041607822219725780640550022962086936576 * (X 3 * Y 7) + 340282366920938463463374607431768211456 * (X 4 * Y 0) + 1461501637330902918203684832716283019655932542976 * (X 4 * Y 1) + 6277101735386680763835789423207666416102355444464034512896 * (X 4 * Y 2) + 26959946667150639794667015087019630673637144422540572481103610249216 * (X 4 * Y 3) + 115792089237316195423570985008687907853269984665640564039457584007913129639936 * (X 4 * Y 4) + 497323236409786642155382248146820840100456150797347717440463976893159497012533375533056 * (X 4 * Y 5) + 2135987035920910082395021706169552114602704522356652769947041607822219725780640550022962086936576 * (X 4 * Y 6) + 9173994463960286046443283581208347763186259956673124494950355357547691504353939232280074212440502746218496 * (X 4 * Y 7) + 1461501637330902918203684832716283019655932542976 * (X 5 * Y 0) + 6277101735386680763835789423207666416102355444464034512896 * (X 5 * Y 1) + 26959946667150639794667015087019630673637144422540572481103610249216 * (X 5 * Y 2) + 115792089237316195423570985008687907853269984665640564039457584007913129639936 * (X 5 * Y 3) + 497323236409786642155382248146820840100456150797347717440463976893159497012533375533056 * (X 5 * Y 4) + 2135987035920910082395021706169552114602704522356652769947041607822219725780640550022962086936576 * (X 5 * Y 5) + 9173994463960286046443283581208347763186259956673124494950355357547691504353939232280074212440502746218496 * (X 5 * Y 6) + 39402006196394479212279040100143613805079739270465446667948293404245721771497210611414266254884915640806627990306816 * (X 5 * Y 7) + 6277101735386680763835789423207666416102355444464034512896 * (X 6 * Y 0) + 26959946667150639794667015087019630673637144422540572481103610249216 * (X 6 * Y 1) + 115792089237316195423570985008687907853269984665640564039457584007913129639936 * (X 6 * Y 2) + 497323236409786642155382248146820840100456150797347717440463976893159497012533375533056 * (X 6 * Y 3) + 2135987035920910082395021706169552114602704522356652769947041607822219725780640550022962086936576 * (X 6 * Y 4) + 9173994463960286046443283581208347763186259956673124494950355357547691504353939232280074212440502746218496 * (X 6 * Y 5) + 39402006196394479212279040100143613805079739270465446667948293404245721771497210611414266254884915640806627990306816 * (X 6 * Y 6) + 169230328010303641331690318856389386196071598838855992136870091590247882556495704531248437872567112920983350278405979725889536 * (X 6 * Y 7) + 26959946667150639794667015087019630673637144422540572481103610249216 * (X 7 * Y 0) + 115792089237316195423570985008687907853269984665640564039457584007913129639936 * (X 7 * Y 1) + 497323236409786642155382248146820840100456150797347717440463976893159497012533375533056 * (X 7 * Y 2) + 2135987035920910082395021706169552114602704522356652769947041607822219725780640550022962086936576 * (X 7 * Y 3) + 9173994463960286046443283581208347763186259956673124494950355357547691504353939232280074212440502746218496 * (X 7 * Y 4) + 39402006196394479212279040100143613805079739270465446667948293404245721771497210611414266254884915640806627990306816 * (X 7 * Y 5) + 169230328010303641331690318856389386196071598838855992136870091590247882556495704531248437872567112920983350278405979725889536 * (X 7 * Y 6) + 726838724295606890549323807888004534353641360687318060281490199180639288113397923326191050713763565560762521606266177933534601628614656 * (X 7 * Y 7) := by
  unfold val8; grind
theorem mulLim (X Y : Nat → Int) (hX : ∀ i, i < 8 → U32 (X i)) (hY : ∀ i, i < 8 → U32 (Y i)) : 0 ≤ val8 (X 0) (X 1) (X 2) (X 3) (X 4) (X 5) (X 6) (X 7) * val8 (Y 0) (Y 1) (Y 2) (Y 3) (Y 4) (Y 5) (Y 6) (Y 7) ∧ val8 (X 0) (X 1) (X 2) (X 3) (X 4) (X 5) (X 6) (X 7) * val8 (Y 0) (Y 1) (Y 2) (Y 3) (Y 4) (Y 5) (Y 6) (Y 7) < 13407807929942597099574024998205846127479365820592393377723561443721764030073546976801874298166903427690031858186486050853753882811946569946433649006084096 := by
  have a : 0 ≤ val8 (X 0) (X 1) (X 2) (X 3) (X 4) (X 5) (X 6) (X 7) ∧ val8 (X 0) (X 1) (X 2) (X 3) (X 4) (X 5) (X 6) (X 7) ≤ 115792089237316195423570985008687907853269984665640564039457584007913129639935 := by
    have h0 := hX 0 (by decide); have h1 := hX 1 (by decide); have h2 := hX 2 (by decide); have h3 := hX 3 (by decide); have h4 := hX 4 (by decide); have h5 := hX 5 (by decide); have h6 := hX 6 (by decide); have h7 := hX 7 (by decide)
    unfold U32 at *; unfold val8; omega
  have b : 0 ≤ val8 (Y 0) (Y 1) (Y 2) (Y 3) (Y 4) (Y 5) (Y 6) (Y 7) ∧ val8 (Y 0) (Y 1) (Y 2) (Y 3) (Y 4) (Y 5) (Y 6) (Y 7) ≤ 115792089237316195423570985008687907853269984665640564039457584007913129639935 := by
    have h0 := hY 0 (by decide); have h1 := hY 1 (by decide); have h2 := hY 2 (by decide); have h3 := hY 3 (by decide); have h4 := hY 4 (by decide); have h5 := hY 5 (by decide); have h6 := hY 6 (by decide); have h7 := hY 7 (by decide)
    unfold U32 at *; unfold val8; omega
  have := Int.mul_le_mul (a := val8 (X 0) (X 1) (X 2) (X 3) (X 4) (X 5) (X 6) (X 7)) (c := 115792089237316195423570985008687907853269984665640564039457584007913129639935) (b := val8 (Y 0) (Y 1) (Y 2) (Y 3) (Y 4) (Y 5) (Y 6) (Y 7)) (d := 115792089237316195423570985008687907853269984665640564039457584007913129639935) a.2 b.2 b.1 (by decide)
  have h0 := Int.mul_nonneg a.1 b.1
  omega
theorem exCall17 {ρ : Operand → Value} {w : World} {d : Option Nat} {ty : TypeId} {pos : String} {after : Array Edge} {g : Option (Nat × Bool)} {f : FuncId} {x0 x1 x2 x3 x4 x5 x6 x7 x8 x9 x10 x11 x12 x13 x14 x15 x16 : Operand} {y0 y1 y2 y3 y4 y5 y6 y7 y8 y9 y10 y11 y12 y13 y14 y15 y16 : Value} {ts : Array TypeId} (h0 : ρ x0 = y0) (h1 : ρ x1 = y1) (h2 : ρ x2 = y2) (h3 : ρ x3 = y3) (h4 : ρ x4 = y4) (h5 : ρ x5 = y5) (h6 : ρ x6 = y6) (h7 : ρ x7 = y7) (h8 : ρ x8 = y8) (h9 : ρ x9 = y9) (h10 : ρ x10 = y10) (h11 : ρ x11 = y11) (h12 : ρ x12 = y12) (h13 : ρ x13 = y13) (h14 : ρ x14 = y14) (h15 : ρ x15 = y15) (h16 : ρ x16 = y16) (hf : ρ (.func f) = .func (.func f) #[] #[])
    (hF : (callFunc f #[y0, y1, y2, y3, y4, y5, y6, y7, y8, y9, y10, y11, y12, y13, y14, y15, y16]).run Tryz.prog w = .ok (.enter f #[y0, y1, y2, y3, y4, y5, y6, y7, y8, y9, y10, y11, y12, y13, y14, y15, y16]) w) :
    (execOp ρ ⟨d, .call { callee := .value (.func f), args := #[x0, x1, x2, x3, x4, x5, x6, x7, x8, x9, x10, x11, x12, x13, x14, x15, x16], argTypes := ts }, ty, pos, after, g⟩).run Tryz.prog w = .ok (.enter f #[y0, y1, y2, y3, y4, y5, y6, y7, y8, y9, y10, y11, y12, y13, y14, y15, y16]) w := by
  simp only [execOp]; go_simp
set_option maxRecDepth 100000 in
set_option maxHeartbeats 4000000 in
theorem mul2 (d q b o c p : Nat) (x : Int) (X Y : Nat → Int) (w : World) (hx : W8 w b o X) (hy : W8 w c p Y) (hS : Sc w d q x) (hf : F8 w d q) :
    Calls Tryz.prog 36 #[.pointer (some ⟨d, q, none⟩), .pointer (some ⟨b, o, none⟩), .pointer (some ⟨c, p, none⟩)] w fun e w' => e = .returned (.pointer (some ⟨d, q, none⟩)) ∧ Sc w' d q ((val8 (X 0) (X 1) (X 2) (X 3) (X 4) (X 5) (X 6) (X 7) * val8 (Y 0) (Y 1) (Y 2) (Y 3) (Y 4) (Y 5) (Y 6) (Y 7)) % NN) ∧ Fr (Rng d q 8) w w' := by
  have hld := hS.lt
  have hlb : b < w.heap.size := World.block_lt_of_cell? w _ (hx 0 (by decide)).1
  have hlc : c < w.heap.size := World.block_lt_of_cell? w _ (hy 0 (by decide)).1
  refine enterA Tryz.func36 rfl (fun a0 z0 d0 ha => ?_)
  have e0 := ha 0 _ rfl
  have e1 := ha 1 _ rfl
  have e2 := ha 2 _ rfl
  replace z0 : a0.tmps.size = 1018 := z0
  refine wp_seq (wp_region1 (wlPut (exAssign rfl) (ltz z0 rfl) fun a1 p1 => wpList_nil (Exit.at_normal ?_)))
  have z1 := p1.z.trans z0
  refine wp_seq (wp_region1 (wlPut exAlloc75 (ltz z1 rfl) fun a2 p2 => wpList_nil (Exit.at_normal ?_)))
  have z2 := p2.z.trans z1
  have e0' := (p2.n 0 (by decide)).trans ((p1.n 0 (by decide)).trans e0)
  have e1' := (p2.n 1 (by decide)).trans ((p1.n 1 (by decide)).trans e1)
  have e2' := (p2.n 2 (by decide)).trans ((p1.n 2 (by decide)).trans e2)
  have d2 := p2.f.trans (p1.f.trans d0)
  have hF0 : Fr NoT w (w.alloc (.cells #[.int .u32 0, .int .u32 0, .int .u32 0] 75)) := (Fr.refl _ _).alloc _
  have hx0 : W8 (w.alloc (.cells #[.int .u32 0, .int .u32 0, .int .u32 0] 75)) b o X := fun i hi => ⟨hF0.someCell (hx i hi).1 (fun f => f), (hx i hi).2⟩
  have hy0 : W8 (w.alloc (.cells #[.int .u32 0, .int .u32 0, .int .u32 0] 75)) c p Y := fun i hi => ⟨hF0.someCell (hy i hi).1 (fun f => f), (hy i hi).2⟩
  have hS0 := hS.fr hF0 (fun _ _ _ f => f)
  have hf0 := F8.fr hF0 hld hf
  have hdg : d ≠ w.heap.size := by omega
  have hbg : b ≠ w.heap.size := by omega
  have hcg : c ≠ w.heap.size := by omega
  obtain ⟨hA0, hg0⟩ := allocAcc w
  obtain ⟨g, hg⟩ : ∃ g, g = w.heap.size := ⟨_, rfl⟩
  rw [← hg] at hA0 hg0 hbg hcg hdg
  have h : AM 8 8 7 g a2 (w.alloc (.cells #[.int .u32 0, .int .u32 0, .int .u32 0] 75)) (fun _ => 0) 0 0 a2 (w.alloc (.cells #[.int .u32 0, .int .u32 0, .int .u32 0] 75)) :=
    ⟨Past.refl _ _, p2.v.trans (by rw [hg]), fun k h1 h2 => absurd h1 (by omega), hA0, hg0, by decide, by decide, Fr.refl _ _⟩
  generalize w.alloc (.cells #[.int .u32 0, .int .u32 0, .int .u32 0] 75) = w0 at h hF0 hx0 hy0 hS0 hf0 ⊢
  refine wp_seq (mul_am (s := 24) (i := 0) (j := 0) h e1' e2' hx0 hy0 hbg hcg (by decide) (by decide) (by rw [z2]; decide) (by decide) (by kernel_rfl) (fun bb1 ww1 h' zz => Exit.at_normal ?_))
  have y1 := zz.trans z2; replace h := h'; clear h' zz
  obtain ⟨A0, hA0, h⟩ := am_name h
  refine wp_seq (get_region (s := 38) (d := 8) (top := 9) h (by decide) (by rw [y1]; decide) (by decide) (by decide) (fun k _ _ => by omega) (fun bb2 ww2 h' zz => Exit.at_normal ?_))
  have y2 := zz.trans y1; replace h := h'; clear h' zz
  refine wp_seq (rsh_region (s := 42) h (by decide) (by rw [y2]; decide) (by decide) (fun bb3 ww3 h' zz => Exit.at_normal ?_))
  have y3 := zz.trans y2; replace h := h'; clear h' zz
  refine wp_seq (mul_am (s := 43) (i := 0) (j := 1) h e1' e2' hx0 hy0 hbg hcg (by decide) (by decide) (by rw [y3]; decide) (by decide) (by kernel_rfl) (fun bb4 ww4 h' zz => Exit.at_normal ?_))
  have y4 := zz.trans y3; replace h := h'; clear h' zz
  refine wp_seq (mul_am (s := 57) (i := 1) (j := 0) h e1' e2' hx0 hy0 hbg hcg (by decide) (by decide) (by rw [y4]; decide) (by decide) (by kernel_rfl) (fun bb5 ww5 h' zz => Exit.at_normal ?_))
  have y5 := zz.trans y4; replace h := h'; clear h' zz
  obtain ⟨A1, hA1, h⟩ := am_name h
  refine wp_seq (get_region (s := 71) (d := 9) (top := 10) h (by decide) (by rw [y5]; decide) (by decide) (by decide) (fun k _ _ => by omega) (fun bb6 ww6 h' zz => Exit.at_normal ?_))
  have y6 := zz.trans y5; replace h := h'; clear h' zz
  refine wp_seq (rsh_region (s := 75) h (by decide) (by rw [y6]; decide) (by decide) (fun bb7 ww7 h' zz => Exit.at_normal ?_))
  have y7 := zz.trans y6; replace h := h'; clear h' zz
  refine wp_seq (mul_am (s := 76) (i := 0) (j := 2) h e1' e2' hx0 hy0 hbg hcg (by decide) (by decide) (by rw [y7]; decide) (by decide) (by kernel_rfl) (fun bb8 ww8 h' zz => Exit.at_normal ?_))
  have y8 := zz.trans y7; replace h := h'; clear h' zz
  refine wp_seq (mul_am (s := 90) (i := 1) (j := 1) h e1' e2' hx0 hy0 hbg hcg (by decide) (by decide) (by rw [y8]; decide) (by decide) (by kernel_rfl) (fun bb9 ww9 h' zz => Exit.at_normal ?_))
  have y9 := zz.trans y8; replace h := h'; clear h' zz
  refine wp_seq (mul_am (s := 104) (i := 2) (j := 0) h e1' e2' hx0 hy0 hbg hcg (by decide) (by decide) (by rw [y9]; decide) (by decide) (by kernel_rfl) (fun bb10 ww10 h' zz => Exit.at_normal ?_))
  have y10 := zz.trans y9; replace h := h'; clear h' zz
  obtain ⟨A2, hA2, h⟩ := am_name h
  refine wp_seq (get_region (s := 118) (d := 10) (top := 11) h (by decide) (by rw [y10]; decide) (by decide) (by decide) (fun k _ _ => by omega) (fun bb11 ww11 h' zz => Exit.at_normal ?_))
  have y11 := zz.trans y10; replace h := h'; clear h' zz
  refine wp_seq (rsh_region (s := 122) h (by decide) (by rw [y11]; decide) (by decide) (fun bb12 ww12 h' zz => Exit.at_normal ?_))
  have y12 := zz.trans y11; replace h := h'; clear h' zz
  refine wp_seq (mul_am (s := 123) (i := 0) (j := 3) h e1' e2' hx0 hy0 hbg hcg (by decide) (by decide) (by rw [y12]; decide) (by decide) (by kernel_rfl) (fun bb13 ww13 h' zz => Exit.at_normal ?_))
  have y13 := zz.trans y12; replace h := h'; clear h' zz
  refine wp_seq (mul_am (s := 137) (i := 1) (j := 2) h e1' e2' hx0 hy0 hbg hcg (by decide) (by decide) (by rw [y13]; decide) (by decide) (by kernel_rfl) (fun bb14 ww14 h' zz => Exit.at_normal ?_))
  have y14 := zz.trans y13; replace h := h'; clear h' zz
  refine wp_seq (mul_am (s := 151) (i := 2) (j := 1) h e1' e2' hx0 hy0 hbg hcg (by decide) (by decide) (by rw [y14]; decide) (by decide) (by kernel_rfl) (fun bb15 ww15 h' zz => Exit.at_normal ?_))
  have y15 := zz.trans y14; replace h := h'; clear h' zz
  refine wp_seq (mul_am (s := 165) (i := 3) (j := 0) h e1' e2' hx0 hy0 hbg hcg (by decide) (by decide) (by rw [y15]; decide) (by decide) (by kernel_rfl) (fun bb16 ww16 h' zz => Exit.at_normal ?_))
  have y16 := zz.trans y15; replace h := h'; clear h' zz
  obtain ⟨A3, hA3, h⟩ := am_name h
  refine wp_seq (get_region (s := 179) (d := 11) (top := 12) h (by decide) (by rw [y16]; decide) (by decide) (by decide) (fun k _ _ => by omega) (fun bb17 ww17 h' zz => Exit.at_normal ?_))
  have y17 := zz.trans y16; replace h := h'; clear h' zz
  refine wp_seq (rsh_region (s := 183) h (by decide) (by rw [y17]; decide) (by decide) (fun bb18 ww18 h' zz => Exit.at_normal ?_))
  have y18 := zz.trans y17; replace h := h'; clear h' zz
  refine wp_seq (mul_am (s := 184) (i := 0) (j := 4) h e1' e2' hx0 hy0 hbg hcg (by decide) (by decide) (by rw [y18]; decide) (by decide) (by kernel_rfl) (fun bb19 ww19 h' zz => Exit.at_normal ?_))
  have y19 := zz.trans y18; replace h := h'; clear h' zz
  refine wp_seq (mul_am (s := 198) (i := 1) (j := 3) h e1' e2' hx0 hy0 hbg hcg (by decide) (by decide) (by rw [y19]; decide) (by decide) (by kernel_rfl) (fun bb20 ww20 h' zz => Exit.at_normal ?_))
  have y20 := zz.trans y19; replace h := h'; clear h' zz
  refine wp_seq (mul_am (s := 212) (i := 2) (j := 2) h e1' e2' hx0 hy0 hbg hcg (by decide) (by decide) (by rw [y20]; decide) (by decide) (by kernel_rfl) (fun bb21 ww21 h' zz => Exit.at_normal ?_))
  have y21 := zz.trans y20; replace h := h'; clear h' zz
  refine wp_seq (mul_am (s := 226) (i := 3) (j := 1) h e1' e2' hx0 hy0 hbg hcg (by decide) (by decide) (by rw [y21]; decide) (by decide) (by kernel_rfl) (fun bb22 ww22 h' zz => Exit.at_normal ?_))
  have y22 := zz.trans y21; replace h := h'; clear h' zz
  refine wp_seq (mul_am (s := 240) (i := 4) (j := 0) h e1' e2' hx0 hy0 hbg hcg (by decide) (by decide) (by rw [y22]; decide) (by decide) (by kernel_rfl) (fun bb23 ww23 h' zz => Exit.at_normal ?_))
  have y23 := zz.trans y22; replace h := h'; clear h' zz
  obtain ⟨A4, hA4, h⟩ := am_name h
  refine wp_seq (get_region (s := 254) (d := 12) (top := 13) h (by decide) (by rw [y23]; decide) (by decide) (by decide) (fun k _ _ => by omega) (fun bb24 ww24 h' zz => Exit.at_normal ?_))
  have y24 := zz.trans y23; replace h := h'; clear h' zz
  refine wp_seq (rsh_region (s := 258) h (by decide) (by rw [y24]; decide) (by decide) (fun bb25 ww25 h' zz => Exit.at_normal ?_))
  have y25 := zz.trans y24; replace h := h'; clear h' zz
  refine wp_seq (mul_am (s := 259) (i := 0) (j := 5) h e1' e2' hx0 hy0 hbg hcg (by decide) (by decide) (by rw [y25]; decide) (by decide) (by kernel_rfl) (fun bb26 ww26 h' zz => Exit.at_normal ?_))
  have y26 := zz.trans y25; replace h := h'; clear h' zz
  refine wp_seq (mul_am (s := 273) (i := 1) (j := 4) h e1' e2' hx0 hy0 hbg hcg (by decide) (by decide) (by rw [y26]; decide) (by decide) (by kernel_rfl) (fun bb27 ww27 h' zz => Exit.at_normal ?_))
  have y27 := zz.trans y26; replace h := h'; clear h' zz
  refine wp_seq (mul_am (s := 287) (i := 2) (j := 3) h e1' e2' hx0 hy0 hbg hcg (by decide) (by decide) (by rw [y27]; decide) (by decide) (by kernel_rfl) (fun bb28 ww28 h' zz => Exit.at_normal ?_))
  have y28 := zz.trans y27; replace h := h'; clear h' zz
  refine wp_seq (mul_am (s := 301) (i := 3) (j := 2) h e1' e2' hx0 hy0 hbg hcg (by decide) (by decide) (by rw [y28]; decide) (by decide) (by kernel_rfl) (fun bb29 ww29 h' zz => Exit.at_normal ?_))
  have y29 := zz.trans y28; replace h := h'; clear h' zz
  refine wp_seq (mul_am (s := 315) (i := 4) (j := 1) h e1' e2' hx0 hy0 hbg hcg (by decide) (by decide) (by rw [y29]; decide) (by decide) (by kernel_rfl) (fun bb30 ww30 h' zz => Exit.at_normal ?_))
  have y30 := zz.trans y29; replace h := h'; clear h' zz
  refine wp_seq (mul_am (s := 329) (i := 5) (j := 0) h e1' e2' hx0 hy0 hbg hcg (by decide) (by decide) (by rw [y30]; decide) (by decide) (by kernel_rfl) (fun bb31 ww31 h' zz => Exit.at_normal ?_))
  have y31 := zz.trans y30; replace h := h'; clear h' zz
  obtain ⟨A5, hA5, h⟩ := am_name h
  refine wp_seq (get_region (s := 343) (d := 13) (top := 14) h (by decide) (by rw [y31]; decide) (by decide) (by decide) (fun k _ _ => by omega) (fun bb32 ww32 h' zz => Exit.at_normal ?_))
  have y32 := zz.trans y31; replace h := h'; clear h' zz
  refine wp_seq (rsh_region (s := 347) h (by decide) (by rw [y32]; decide) (by decide) (fun bb33 ww33 h' zz => Exit.at_normal ?_))
  have y33 := zz.trans y32; replace h := h'; clear h' zz
  refine wp_seq (mul_am (s := 348) (i := 0) (j := 6) h e1' e2' hx0 hy0 hbg hcg (by decide) (by decide) (by rw [y33]; decide) (by decide) (by kernel_rfl) (fun bb34 ww34 h' zz => Exit.at_normal ?_))
  have y34 := zz.trans y33; replace h := h'; clear h' zz
  refine wp_seq (mul_am (s := 362) (i := 1) (j := 5) h e1' e2' hx0 hy0 hbg hcg (by decide) (by decide) (by rw [y34]; decide) (by decide) (by kernel_rfl) (fun bb35 ww35 h' zz => Exit.at_normal ?_))
  have y35 := zz.trans y34; replace h := h'; clear h' zz
  refine wp_seq (mul_am (s := 376) (i := 2) (j := 4) h e1' e2' hx0 hy0 hbg hcg (by decide) (by decide) (by rw [y35]; decide) (by decide) (by kernel_rfl) (fun bb36 ww36 h' zz => Exit.at_normal ?_))
  have y36 := zz.trans y35; replace h := h'; clear h' zz
  refine wp_seq (mul_am (s := 390) (i := 3) (j := 3) h e1' e2' hx0 hy0 hbg hcg (by decide) (by decide) (by rw [y36]; decide) (by decide) (by kernel_rfl) (fun bb37 ww37 h' zz => Exit.at_normal ?_))
  have y37 := zz.trans y36; replace h := h'; clear h' zz
  refine wp_seq (mul_am (s := 404) (i := 4) (j := 2) h e1' e2' hx0 hy0 hbg hcg (by decide) (by decide) (by rw [y37]; decide) (by decide) (by kernel_rfl) (fun bb38 ww38 h' zz => Exit.at_normal ?_))
  have y38 := zz.trans y37; replace h := h'; clear h' zz
  refine wp_seq (mul_am (s := 418) (i := 5) (j := 1) h e1' e2' hx0 hy0 hbg hcg (by decide) (by decide) (by rw [y38]; decide) (by decide) (by kernel_rfl) (fun bb39 ww39 h' zz => Exit.at_normal ?_))
  have y39 := zz.trans y38; replace h := h'; clear h' zz
  refine wp_seq (mul_am (s := 432) (i := 6) (j := 0) h e1' e2' hx0 hy0 hbg hcg (by decide) (by decide) (by rw [y39]; decide) (by decide) (by kernel_rfl) (fun bb40 ww40 h' zz => Exit.at_normal ?_))
  have y40 := zz.trans y39; replace h := h'; clear h' zz
  obtain ⟨A6, hA6, h⟩ := am_name h
  refine wp_seq (get_region (s := 446) (d := 14) (top := 15) h (by decide) (by rw [y40]; decide) (by decide) (by decide) (fun k _ _ => by omega) (fun bb41 ww41 h' zz => Exit.at_normal ?_))
  have y41 := zz.trans y40; replace h := h'; clear h' zz
  refine wp_seq (rsh_region (s := 450) h (by decide) (by rw [y41]; decide) (by decide) (fun bb42 ww42 h' zz => Exit.at_normal ?_))
  have y42 := zz.trans y41; replace h := h'; clear h' zz
  refine wp_seq (mul_am (s := 451) (i := 0) (j := 7) h e1' e2' hx0 hy0 hbg hcg (by decide) (by decide) (by rw [y42]; decide) (by decide) (by kernel_rfl) (fun bb43 ww43 h' zz => Exit.at_normal ?_))
  have y43 := zz.trans y42; replace h := h'; clear h' zz
  refine wp_seq (mul_am (s := 465) (i := 1) (j := 6) h e1' e2' hx0 hy0 hbg hcg (by decide) (by decide) (by rw [y43]; decide) (by decide) (by kernel_rfl) (fun bb44 ww44 h' zz => Exit.at_normal ?_))
  have y44 := zz.trans y43; replace h := h'; clear h' zz
  refine wp_seq (mul_am (s := 479) (i := 2) (j := 5) h e1' e2' hx0 hy0 hbg hcg (by decide) (by decide) (by rw [y44]; decide) (by decide) (by kernel_rfl) (fun bb45 ww45 h' zz => Exit.at_normal ?_))
  have y45 := zz.trans y44; replace h := h'; clear h' zz
  refine wp_seq (mul_am (s := 493) (i := 3) (j := 4) h e1' e2' hx0 hy0 hbg hcg (by decide) (by decide) (by rw [y45]; decide) (by decide) (by kernel_rfl) (fun bb46 ww46 h' zz => Exit.at_normal ?_))
  have y46 := zz.trans y45; replace h := h'; clear h' zz
  refine wp_seq (mul_am (s := 507) (i := 4) (j := 3) h e1' e2' hx0 hy0 hbg hcg (by decide) (by decide) (by rw [y46]; decide) (by decide) (by kernel_rfl) (fun bb47 ww47 h' zz => Exit.at_normal ?_))
  have y47 := zz.trans y46; replace h := h'; clear h' zz
  refine wp_seq (mul_am (s := 521) (i := 5) (j := 2) h e1' e2' hx0 hy0 hbg hcg (by decide) (by decide) (by rw [y47]; decide) (by decide) (by kernel_rfl) (fun bb48 ww48 h' zz => Exit.at_normal ?_))
  have y48 := zz.trans y47; replace h := h'; clear h' zz
  refine wp_seq (mul_am (s := 535) (i := 6) (j := 1) h e1' e2' hx0 hy0 hbg hcg (by decide) (by decide) (by rw [y48]; decide) (by decide) (by kernel_rfl) (fun bb49 ww49 h' zz => Exit.at_normal ?_))
  have y49 := zz.trans y48; replace h := h'; clear h' zz
  refine wp_seq (mul_am (s := 549) (i := 7) (j := 0) h e1' e2' hx0 hy0 hbg hcg (by decide) (by decide) (by rw [y49]; decide) (by decide) (by kernel_rfl) (fun bb50 ww50 h' zz => Exit.at_normal ?_))
  have y50 := zz.trans y49; replace h := h'; clear h' zz
  obtain ⟨A7, hA7, h⟩ := am_name h
  refine wp_seq (get_region (s := 563) (d := 15) (top := 16) h (by decide) (by rw [y50]; decide) (by decide) (by decide) (fun k _ _ => by omega) (fun bb51 ww51 h' zz => Exit.at_normal ?_))
  have y51 := zz.trans y50; replace h := h'; clear h' zz
  refine wp_seq (rsh_region (s := 567) h (by decide) (by rw [y51]; decide) (by decide) (fun bb52 ww52 h' zz => Exit.at_normal ?_))
  have y52 := zz.trans y51; replace h := h'; clear h' zz
  refine wp_seq (mul_am (s := 568) (i := 1) (j := 7) h e1' e2' hx0 hy0 hbg hcg (by decide) (by decide) (by rw [y52]; decide) (by decide) (by kernel_rfl) (fun bb53 ww53 h' zz => Exit.at_normal ?_))
  have y53 := zz.trans y52; replace h := h'; clear h' zz
  refine wp_seq (mul_am (s := 582) (i := 2) (j := 6) h e1' e2' hx0 hy0 hbg hcg (by decide) (by decide) (by rw [y53]; decide) (by decide) (by kernel_rfl) (fun bb54 ww54 h' zz => Exit.at_normal ?_))
  have y54 := zz.trans y53; replace h := h'; clear h' zz
  refine wp_seq (mul_am (s := 596) (i := 3) (j := 5) h e1' e2' hx0 hy0 hbg hcg (by decide) (by decide) (by rw [y54]; decide) (by decide) (by kernel_rfl) (fun bb55 ww55 h' zz => Exit.at_normal ?_))
  have y55 := zz.trans y54; replace h := h'; clear h' zz
  refine wp_seq (mul_am (s := 610) (i := 4) (j := 4) h e1' e2' hx0 hy0 hbg hcg (by decide) (by decide) (by rw [y55]; decide) (by decide) (by kernel_rfl) (fun bb56 ww56 h' zz => Exit.at_normal ?_))
  have y56 := zz.trans y55; replace h := h'; clear h' zz
  refine wp_seq (mul_am (s := 624) (i := 5) (j := 3) h e1' e2' hx0 hy0 hbg hcg (by decide) (by decide) (by rw [y56]; decide) (by decide) (by kernel_rfl) (fun bb57 ww57 h' zz => Exit.at_normal ?_))
  have y57 := zz.trans y56; replace h := h'; clear h' zz
  refine wp_seq (mul_am (s := 638) (i := 6) (j := 2) h e1' e2' hx0 hy0 hbg hcg (by decide) (by decide) (by rw [y57]; decide) (by decide) (by kernel_rfl) (fun bb58 ww58 h' zz => Exit.at_normal ?_))
  have y58 := zz.trans y57; replace h := h'; clear h' zz
  refine wp_seq (mul_am (s := 652) (i := 7) (j := 1) h e1' e2' hx0 hy0 hbg hcg (by decide) (by decide) (by rw [y58]; decide) (by decide) (by kernel_rfl) (fun bb59 ww59 h' zz => Exit.at_normal ?_))
  have y59 := zz.trans y58; replace h := h'; clear h' zz
  obtain ⟨A8, hA8, h⟩ := am_name h
  refine wp_seq (get_region (s := 666) (d := 16) (top := 17) h (by decide) (by rw [y59]; decide) (by decide) (by decide) (fun k _ _ => by omega) (fun bb60 ww60 h' zz => Exit.at_normal ?_))
  have y60 := zz.trans y59; replace h := h'; clear h' zz
  refine wp_seq (rsh_region (s := 670) h (by decide) (by rw [y60]; decide) (by decide) (fun bb61 ww61 h' zz => Exit.at_normal ?_))
  have y61 := zz.trans y60; replace h := h'; clear h' zz
  refine wp_seq (mul_am (s := 671) (i := 2) (j := 7) h e1' e2' hx0 hy0 hbg hcg (by decide) (by decide) (by rw [y61]; decide) (by decide) (by kernel_rfl) (fun bb62 ww62 h' zz => Exit.at_normal ?_))
  have y62 := zz.trans y61; replace h := h'; clear h' zz
  refine wp_seq (mul_am (s := 685) (i := 3) (j := 6) h e1' e2' hx0 hy0 hbg hcg (by decide) (by decide) (by rw [y62]; decide) (by decide) (by kernel_rfl) (fun bb63 ww63 h' zz => Exit.at_normal ?_))
  have y63 := zz.trans y62; replace h := h'; clear h' zz
  refine wp_seq (mul_am (s := 699) (i := 4) (j := 5) h e1' e2' hx0 hy0 hbg hcg (by decide) (by decide) (by rw [y63]; decide) (by decide) (by kernel_rfl) (fun bb64 ww64 h' zz => Exit.at_normal ?_))
  have y64 := zz.trans y63; replace h := h'; clear h' zz
  refine wp_seq (mul_am (s := 713) (i := 5) (j := 4) h e1' e2' hx0 hy0 hbg hcg (by decide) (by decide) (by rw [y64]; decide) (by decide) (by kernel_rfl) (fun bb65 ww65 h' zz => Exit.at_normal ?_))
  have y65 := zz.trans y64; replace h := h'; clear h' zz
  refine wp_seq (mul_am (s := 727) (i := 6) (j := 3) h e1' e2' hx0 hy0 hbg hcg (by decide) (by decide) (by rw [y65]; decide) (by decide) (by kernel_rfl) (fun bb66 ww66 h' zz => Exit.at_normal ?_))
  have y66 := zz.trans y65; replace h := h'; clear h' zz
  refine wp_seq (mul_am (s := 741) (i := 7) (j := 2) h e1' e2' hx0 hy0 hbg hcg (by decide) (by decide) (by rw [y66]; decide) (by decide) (by kernel_rfl) (fun bb67 ww67 h' zz => Exit.at_normal ?_))
  have y67 := zz.trans y66; replace h := h'; clear h' zz
  obtain ⟨A9, hA9, h⟩ := am_name h
  refine wp_seq (get_region (s := 755) (d := 17) (top := 18) h (by decide) (by rw [y67]; decide) (by decide) (by decide) (fun k _ _ => by omega) (fun bb68 ww68 h' zz => Exit.at_normal ?_))
  have y68 := zz.trans y67; replace h := h'; clear h' zz
  refine wp_seq (rsh_region (s := 759) h (by decide) (by rw [y68]; decide) (by decide) (fun bb69 ww69 h' zz => Exit.at_normal ?_))
  have y69 := zz.trans y68; replace h := h'; clear h' zz
  refine wp_seq (mul_am (s := 760) (i := 3) (j := 7) h e1' e2' hx0 hy0 hbg hcg (by decide) (by decide) (by rw [y69]; decide) (by decide) (by kernel_rfl) (fun bb70 ww70 h' zz => Exit.at_normal ?_))
  have y70 := zz.trans y69; replace h := h'; clear h' zz
  refine wp_seq (mul_am (s := 774) (i := 4) (j := 6) h e1' e2' hx0 hy0 hbg hcg (by decide) (by decide) (by rw [y70]; decide) (by decide) (by kernel_rfl) (fun bb71 ww71 h' zz => Exit.at_normal ?_))
  have y71 := zz.trans y70; replace h := h'; clear h' zz
  refine wp_seq (mul_am (s := 788) (i := 5) (j := 5) h e1' e2' hx0 hy0 hbg hcg (by decide) (by decide) (by rw [y71]; decide) (by decide) (by kernel_rfl) (fun bb72 ww72 h' zz => Exit.at_normal ?_))
  have y72 := zz.trans y71; replace h := h'; clear h' zz
  refine wp_seq (mul_am (s := 802) (i := 6) (j := 4) h e1' e2' hx0 hy0 hbg hcg (by decide) (by decide) (by rw [y72]; decide) (by decide) (by kernel_rfl) (fun bb73 ww73 h' zz => Exit.at_normal ?_))
  have y73 := zz.trans y72; replace h := h'; clear h' zz
  refine wp_seq (mul_am (s := 816) (i := 7) (j := 3) h e1' e2' hx0 hy0 hbg hcg (by decide) (by decide) (by rw [y73]; decide) (by decide) (by kernel_rfl) (fun bb74 ww74 h' zz => Exit.at_normal ?_))
  have y74 := zz.trans y73; replace h := h'; clear h' zz
  obtain ⟨A10, hA10, h⟩ := am_name h
  refine wp_seq (get_region (s := 830) (d := 18) (top := 19) h (by decide) (by rw [y74]; decide) (by decide) (by decide) (fun k _ _ => by omega) (fun bb75 ww75 h' zz => Exit.at_normal ?_))
  have y75 := zz.trans y74; replace h := h'; clear h' zz
  refine wp_seq (rsh_region (s := 834) h (by decide) (by rw [y75]; decide) (by decide) (fun bb76 ww76 h' zz => Exit.at_normal ?_))
  have y76 := zz.trans y75; replace h := h'; clear h' zz
  refine wp_seq (mul_am (s := 835) (i := 4) (j := 7) h e1' e2' hx0 hy0 hbg hcg (by decide) (by decide) (by rw [y76]; decide) (by decide) (by kernel_rfl) (fun bb77 ww77 h' zz => Exit.at_normal ?_))
  have y77 := zz.trans y76; replace h := h'; clear h' zz
  refine wp_seq (mul_am (s := 849) (i := 5) (j := 6) h e1' e2' hx0 hy0 hbg hcg (by decide) (by decide) (by rw [y77]; decide) (by decide) (by kernel_rfl) (fun bb78 ww78 h' zz => Exit.at_normal ?_))
  have y78 := zz.trans y77; replace h := h'; clear h' zz
  refine wp_seq (mul_am (s := 863) (i := 6) (j := 5) h e1' e2' hx0 hy0 hbg hcg (by decide) (by decide) (by rw [y78]; decide) (by decide) (by kernel_rfl) (fun bb79 ww79 h' zz => Exit.at_normal ?_))
  have y79 := zz.trans y78; replace h := h'; clear h' zz
  refine wp_seq (mul_am (s := 877) (i := 7) (j := 4) h e1' e2' hx0 hy0 hbg hcg (by decide) (by decide) (by rw [y79]; decide) (by decide) (by kernel_rfl) (fun bb80 ww80 h' zz => Exit.at_normal ?_))
  have y80 := zz.trans y79; replace h := h'; clear h' zz
  obtain ⟨A11, hA11, h⟩ := am_name h
  refine wp_seq (get_region (s := 891) (d := 19) (top := 20) h (by decide) (by rw [y80]; decide) (by decide) (by decide) (fun k _ _ => by omega) (fun bb81 ww81 h' zz => Exit.at_normal ?_))
  have y81 := zz.trans y80; replace h := h'; clear h' zz
  refine wp_seq (rsh_region (s := 895) h (by decide) (by rw [y81]; decide) (by decide) (fun bb82 ww82 h' zz => Exit.at_normal ?_))
  have y82 := zz.trans y81; replace h := h'; clear h' zz
  refine wp_seq (mul_am (s := 896) (i := 5) (j := 7) h e1' e2' hx0 hy0 hbg hcg (by decide) (by decide) (by rw [y82]; decide) (by decide) (by kernel_rfl) (fun bb83 ww83 h' zz => Exit.at_normal ?_))
  have y83 := zz.trans y82; replace h := h'; clear h' zz
  refine wp_seq (mul_am (s := 910) (i := 6) (j := 6) h e1' e2' hx0 hy0 hbg hcg (by decide) (by decide) (by rw [y83]; decide) (by decide) (by kernel_rfl) (fun bb84 ww84 h' zz => Exit.at_normal ?_))
  have y84 := zz.trans y83; replace h := h'; clear h' zz
  refine wp_seq (mul_am (s := 924) (i := 7) (j := 5) h e1' e2' hx0 hy0 hbg hcg (by decide) (by decide) (by rw [y84]; decide) (by decide) (by kernel_rfl) (fun bb85 ww85 h' zz => Exit.at_normal ?_))
  have y85 := zz.trans y84; replace h := h'; clear h' zz
  obtain ⟨A12, hA12, h⟩ := am_name h
  refine wp_seq (get_region (s := 938) (d := 20) (top := 21) h (by decide) (by rw [y85]; decide) (by decide) (by decide) (fun k _ _ => by omega) (fun bb86 ww86 h' zz => Exit.at_normal ?_))
  have y86 := zz.trans y85; replace h := h'; clear h' zz
  refine wp_seq (rsh_region (s := 942) h (by decide) (by rw [y86]; decide) (by decide) (fun bb87 ww87 h' zz => Exit.at_normal ?_))
  have y87 := zz.trans y86; replace h := h'; clear h' zz
  refine wp_seq (mul_am (s := 943) (i := 6) (j := 7) h e1' e2' hx0 hy0 hbg hcg (by decide) (by decide) (by rw [y87]; decide) (by decide) (by kernel_rfl) (fun bb88 ww88 h' zz => Exit.at_normal ?_))
  have y88 := zz.trans y87; replace h := h'; clear h' zz
  refine wp_seq (mul_am (s := 957) (i := 7) (j := 6) h e1' e2' hx0 hy0 hbg hcg (by decide) (by decide) (by rw [y88]; decide) (by decide) (by kernel_rfl) (fun bb89 ww89 h' zz => Exit.at_normal ?_))
  have y89 := zz.trans y88; replace h := h'; clear h' zz
  obtain ⟨A13, hA13, h⟩ := am_name h
  refine wp_seq (get_region (s := 971) (d := 21) (top := 22) h (by decide) (by rw [y89]; decide) (by decide) (by decide) (fun k _ _ => by omega) (fun bb90 ww90 h' zz => Exit.at_normal ?_))
  have y90 := zz.trans y89; replace h := h'; clear h' zz
  refine wp_seq (rsh_region (s := 975) h (by decide) (by rw [y90]; decide) (by decide) (fun bb91 ww91 h' zz => Exit.at_normal ?_))
  have y91 := zz.trans y90; replace h := h'; clear h' zz
  refine wp_seq (mul_am (s := 976) (i := 7) (j := 7) h e1' e2' hx0 hy0 hbg hcg (by decide) (by decide) (by rw [y91]; decide) (by decide) (by kernel_rfl) (fun bb92 ww92 h' zz => Exit.at_normal ?_))
  have y92 := zz.trans y91; replace h := h'; clear h' zz
  obtain ⟨A14, hA14, h⟩ := am_name h
  refine wp_seq (get_region (s := 990) (d := 22) (top := 23) h (by decide) (by rw [y92]; decide) (by decide) (by decide) (fun k _ _ => by omega) (fun bb93 ww93 h' zz => Exit.at_normal ?_))
  have y93 := zz.trans y92; replace h := h'; clear h' zz
  refine wp_seq (rsh_region (s := 994) h (by decide) (by rw [y93]; decide) (by decide) (fun bb94 ww94 h' zz => Exit.at_normal ?_))
  have y94 := zz.trans y93; replace h := h'; clear h' zz
  obtain ⟨A15, hA15, h⟩ := am_name h
  refine wp_seq (get_region (s := 995) (d := 23) (top := 24) h (by decide) (by rw [y94]; decide) (by decide) (by decide) (fun k _ _ => by omega) (fun bb95 ww95 h' zz => Exit.at_normal ?_))
  have y95 := zz.trans y94; replace h := h'; clear h' zz
  have g0 := (h.past.n 0 (by decide)).trans e0'
  have dd0 := h.past.f.trans d2
  have w0 : bb95.eval (.tmp 8) = .int .u64 (A0 % 4294967296) := (h.v 8 (by decide) (by decide)).1
  have R0 : U32 (A0 % 4294967296) := (h.v 8 (by decide) (by decide)).2
  have w1 : bb95.eval (.tmp 9) = .int .u64 (A1 % 4294967296) := (h.v 9 (by decide) (by decide)).1
  have R1 : U32 (A1 % 4294967296) := (h.v 9 (by decide) (by decide)).2
  have w2 : bb95.eval (.tmp 10) = .int .u64 (A2 % 4294967296) := (h.v 10 (by decide) (by decide)).1
  have R2 : U32 (A2 % 4294967296) := (h.v 10 (by decide) (by decide)).2
  have w3 : bb95.eval (.tmp 11) = .int .u64 (A3 % 4294967296) := (h.v 11 (by decide) (by decide)).1
  have R3 : U32 (A3 % 4294967296) := (h.v 11 (by decide) (by decide)).2
  have w4 : bb95.eval (.tmp 12) = .int .u64 (A4 % 4294967296) := (h.v 12 (by decide) (by decide)).1
  have R4 : U32 (A4 % 4294967296) := (h.v 12 (by decide) (by decide)).2
  have w5 : bb95.eval (.tmp 13) = .int .u64 (A5 % 4294967296) := (h.v 13 (by decide) (by decide)).1
  have R5 : U32 (A5 % 4294967296) := (h.v 13 (by decide) (by decide)).2
  have w6 : bb95.eval (.tmp 14) = .int .u64 (A6 % 4294967296) := (h.v 14 (by decide) (by decide)).1
  have R6 : U32 (A6 % 4294967296) := (h.v 14 (by decide) (by decide)).2
  have w7 : bb95.eval (.tmp 15) = .int .u64 (A7 % 4294967296) := (h.v 15 (by decide) (by decide)).1
  have R7 : U32 (A7 % 4294967296) := (h.v 15 (by decide) (by decide)).2
  have w8 : bb95.eval (.tmp 16) = .int .u64 (A8 % 4294967296) := (h.v 16 (by decide) (by decide)).1
  have R8 : U32 (A8 % 4294967296) := (h.v 16 (by decide) (by decide)).2
  have w9 : bb95.eval (.tmp 17) = .int .u64 (A9 % 4294967296) := (h.v 17 (by decide) (by decide)).1
  have R9 : U32 (A9 % 4294967296) := (h.v 17 (by decide) (by decide)).2
  have w10 : bb95.eval (.tmp 18) = .int .u64 (A10 % 4294967296) := (h.v 18 (by decide) (by decide)).1
  have R10 : U32 (A10 % 4294967296) := (h.v 18 (by decide) (by decide)).2
  have w11 : bb95.eval (.tmp 19) = .int .u64 (A11 % 4294967296) := (h.v 19 (by decide) (by decide)).1
  have R11 : U32 (A11 % 4294967296) := (h.v 19 (by decide) (by decide)).2
  have w12 : bb95.eval (.tmp 20) = .int .u64 (A12 % 4294967296) := (h.v 20 (by decide) (by decide)).1
  have R12 : U32 (A12 % 4294967296) := (h.v 20 (by decide) (by decide)).2
  have w13 : bb95.eval (.tmp 21) = .int .u64 (A13 % 4294967296) := (h.v 21 (by decide) (by decide)).1
  have R13 : U32 (A13 % 4294967296) := (h.v 21 (by decide) (by decide)).2
  have w14 : bb95.eval (.tmp 22) = .int .u64 (A14 % 4294967296) := (h.v 22 (by decide) (by decide)).1
  have R14 : U32 (A14 % 4294967296) := (h.v 22 (by decide) (by decide)).2
  have w15 : bb95.eval (.tmp 23) = .int .u64 (A15 % 4294967296) := (h.v 23 (by decide) (by decide)).1
  have R15 : U32 (A15 % 4294967296) := (h.v 23 (by decide) (by decide)).2
  have hZ := arithMul (mulExpand X Y) (mulLim X Y (fun i hi => (hx i hi).2) (fun i hi => (hy i hi).2)).1 (mulLim X Y (fun i hi => (hx i hi).2) (fun i hi => (hy i hi).2)).2 hA0 hA1 hA2 hA3 hA4 hA5 hA6 hA7 hA8 hA9 hA10 hA11 hA12 hA13 hA14 hA15
  have hSw := hS0.fr h.fr (fun _ _ _ f => hdg f.1)
  have hfw := F8.fr h.fr hS0.lt hf0
  have hre := reduce512 d q _ (A0 % 4294967296) (A1 % 4294967296) (A2 % 4294967296) (A3 % 4294967296) (A4 % 4294967296) (A5 % 4294967296) (A6 % 4294967296) (A7 % 4294967296) (A8 % 4294967296) (A9 % 4294967296) (A10 % 4294967296) (A11 % 4294967296) (A12 % 4294967296) (A13 % 4294967296) (A14 % 4294967296) (A15 % 4294967296) _ hSw hfw R0 R1 R2 R3 R4 R5 R6 R7 R8 R9 R10 R11 R12 R13 R14 R15
  rw [hZ] at hre
  refine wp_seq (wp_region_lit ?_)
  show wpList _ _ _ _ _ _
  refine wlPut (exMove (g0)) (ltz y95 rfl) ?_
  intro ac1 q1
  have zz1 := q1.z.trans y95
  have dd1 := q1.f.trans dd0
  refine wlPut (exMove ((q1.n _ (by decide)).trans (w0))) (ltz zz1 rfl) ?_
  intro ac2 q2
  have zz2 := q2.z.trans zz1
  have dd2 := q2.f.trans dd1
  refine wlPut (exMove ((q2.n _ (by decide)).trans ((q1.n _ (by decide)).trans (w1)))) (ltz zz2 rfl) ?_
  intro ac3 q3
  have zz3 := q3.z.trans zz2
  have dd3 := q3.f.trans dd2
  refine wlPut (exMove ((q3.n _ (by decide)).trans ((q2.n _ (by decide)).trans ((q1.n _ (by decide)).trans (w2))))) (ltz zz3 rfl) ?_
  intro ac4 q4
  have zz4 := q4.z.trans zz3
  have dd4 := q4.f.trans dd3
  refine wlPut (exMove ((q4.n _ (by decide)).trans ((q3.n _ (by decide)).trans ((q2.n _ (by decide)).trans ((q1.n _ (by decide)).trans (w3)))))) (ltz zz4 rfl) ?_
  intro ac5 q5
  have zz5 := q5.z.trans zz4
  have dd5 := q5.f.trans dd4
  refine wlPut (exMove ((q5.n _ (by decide)).trans ((q4.n _ (by decide)).trans ((q3.n _ (by decide)).trans ((q2.n _ (by decide)).trans ((q1.n _ (by decide)).trans (w4))))))) (ltz zz5 rfl) ?_
  intro ac6 q6
  have zz6 := q6.z.trans zz5
  have dd6 := q6.f.trans dd5
  refine wlPut (exMove ((q6.n _ (by decide)).trans ((q5.n _ (by decide)).trans ((q4.n _ (by decide)).trans ((q3.n _ (by decide)).trans ((q2.n _ (by decide)).trans ((q1.n _ (by decide)).trans (w5)))))))) (ltz zz6 rfl) ?_
  intro ac7 q7
  have zz7 := q7.z.trans zz6
  have dd7 := q7.f.trans dd6
  refine wlPut (exMove ((q7.n _ (by decide)).trans ((q6.n _ (by decide)).trans ((q5.n _ (by decide)).trans ((q4.n _ (by decide)).trans ((q3.n _ (by decide)).trans ((q2.n _ (by decide)).trans ((q1.n _ (by decide)).trans (w6))))))))) (ltz zz7 rfl) ?_
  intro ac8 q8
  have zz8 := q8.z.trans zz7
  have dd8 := q8.f.trans dd7
  refine wlPut (exMove ((q8.n _ (by decide)).trans ((q7.n _ (by decide)).trans ((q6.n _ (by decide)).trans ((q5.n _ (by decide)).trans ((q4.n _ (by decide)).trans ((q3.n _ (by decide)).trans ((q2.n _ (by decide)).trans ((q1.n _ (by decide)).trans (w7)))))))))) (ltz zz8 rfl) ?_
  intro ac9 q9
  have zz9 := q9.z.trans zz8
  have dd9 := q9.f.trans dd8
  refine wlPut (exMove ((q9.n _ (by decide)).trans ((q8.n _ (by decide)).trans ((q7.n _ (by decide)).trans ((q6.n _ (by decide)).trans ((q5.n _ (by decide)).trans ((q4.n _ (by decide)).trans ((q3.n _ (by decide)).trans ((q2.n _ (by decide)).trans ((q1.n _ (by decide)).trans (w8))))))))))) (ltz zz9 rfl) ?_
  intro ac10 q10
  have zz10 := q10.z.trans zz9
  have dd10 := q10.f.trans dd9
  refine wlPut (exMove ((q10.n _ (by decide)).trans ((q9.n _ (by decide)).trans ((q8.n _ (by decide)).trans ((q7.n _ (by decide)).trans ((q6.n _ (by decide)).trans ((q5.n _ (by decide)).trans ((q4.n _ (by decide)).trans ((q3.n _ (by decide)).trans ((q2.n _ (by decide)).trans ((q1.n _ (by decide)).trans (w9)))))))))))) (ltz zz10 rfl) ?_
  intro ac11 q11
  have zz11 := q11.z.trans zz10
  have dd11 := q11.f.trans dd10
  refine wlPut (exMove ((q11.n _ (by decide)).trans ((q10.n _ (by decide)).trans ((q9.n _ (by decide)).trans ((q8.n _ (by decide)).trans ((q7.n _ (by decide)).trans ((q6.n _ (by decide)).trans ((q5.n _ (by decide)).trans ((q4.n _ (by decide)).trans ((q3.n _ (by decide)).trans ((q2.n _ (by decide)).trans ((q1.n _ (by decide)).trans (w10))))))))))))) (ltz zz11 rfl) ?_
  intro ac12 q12
  have zz12 := q12.z.trans zz11
  have dd12 := q12.f.trans dd11
  refine wlPut (exMove ((q12.n _ (by decide)).trans ((q11.n _ (by decide)).trans ((q10.n _ (by decide)).trans ((q9.n _ (by decide)).trans ((q8.n _ (by decide)).trans ((q7.n _ (by decide)).trans ((q6.n _ (by decide)).trans ((q5.n _ (by decide)).trans ((q4.n _ (by decide)).trans ((q3.n _ (by decide)).trans ((q2.n _ (by decide)).trans ((q1.n _ (by decide)).trans (w11)))))))))))))) (ltz zz12 rfl) ?_
  intro ac13 q13
  have zz13 := q13.z.trans zz12
  have dd13 := q13.f.trans dd12
  refine wlPut (exMove ((q13.n _ (by decide)).trans ((q12.n _ (by decide)).trans ((q11.n _ (by decide)).trans ((q10.n _ (by decide)).trans ((q9.n _ (by decide)).trans ((q8.n _ (by decide)).trans ((q7.n _ (by decide)).trans ((q6.n _ (by decide)).trans ((q5.n _ (by decide)).trans ((q4.n _ (by decide)).trans ((q3.n _ (by decide)).trans ((q2.n _ (by decide)).trans ((q1.n _ (by decide)).trans (w12))))))))))))))) (ltz zz13 rfl) ?_
  intro ac14 q14
  have zz14 := q14.z.trans zz13
  have dd14 := q14.f.trans dd13
  refine wlPut (exMove ((q14.n _ (by decide)).trans ((q13.n _ (by decide)).trans ((q12.n _ (by decide)).trans ((q11.n _ (by decide)).trans ((q10.n _ (by decide)).trans ((q9.n _ (by decide)).trans ((q8.n _ (by decide)).trans ((q7.n _ (by decide)).trans ((q6.n _ (by decide)).trans ((q5.n _ (by decide)).trans ((q4.n _ (by decide)).trans ((q3.n _ (by decide)).trans ((q2.n _ (by decide)).trans ((q1.n _ (by decide)).trans (w13)))))))))))))))) (ltz zz14 rfl) ?_
  intro ac15 q15
  have zz15 := q15.z.trans zz14
  have dd15 := q15.f.trans dd14
  refine wlPut (exMove ((q15.n _ (by decide)).trans ((q14.n _ (by decide)).trans ((q13.n _ (by decide)).trans ((q12.n _ (by decide)).trans ((q11.n _ (by decide)).trans ((q10.n _ (by decide)).trans ((q9.n _ (by decide)).trans ((q8.n _ (by decide)).trans ((q7.n _ (by decide)).trans ((q6.n _ (by decide)).trans ((q5.n _ (by decide)).trans ((q4.n _ (by decide)).trans ((q3.n _ (by decide)).trans ((q2.n _ (by decide)).trans ((q1.n _ (by decide)).trans (w14))))))))))))))))) (ltz zz15 rfl) ?_
  intro ac16 q16
  have zz16 := q16.z.trans zz15
  have dd16 := q16.f.trans dd15
  refine wlPut (exMove ((q16.n _ (by decide)).trans ((q15.n _ (by decide)).trans ((q14.n _ (by decide)).trans ((q13.n _ (by decide)).trans ((q12.n _ (by decide)).trans ((q11.n _ (by decide)).trans ((q10.n _ (by decide)).trans ((q9.n _ (by decide)).trans ((q8.n _ (by decide)).trans ((q7.n _ (by decide)).trans ((q6.n _ (by decide)).trans ((q5.n _ (by decide)).trans ((q4.n _ (by decide)).trans ((q3.n _ (by decide)).trans ((q2.n _ (by decide)).trans ((q1.n _ (by decide)).trans (w15)))))))))))))))))) (ltz zz16 rfl) ?_
  intro ac17 q17
  have zz17 := q17.z.trans zz16
  have dd17 := q17.f.trans dd16
  have f999_17 := (q17.n _ (by decide)).trans ((q16.n _ (by decide)).trans ((q15.n _ (by decide)).trans ((q14.n _ (by decide)).trans ((q13.n _ (by decide)).trans ((q12.n _ (by decide)).trans ((q11.n _ (by decide)).trans ((q10.n _ (by decide)).trans ((q9.n _ (by decide)).trans ((q8.n _ (by decide)).trans ((q7.n _ (by decide)).trans ((q6.n _ (by decide)).trans ((q5.n _ (by decide)).trans ((q4.n _ (by decide)).trans ((q3.n _ (by decide)).trans ((q2.n _ (by decide)).trans (q1.v))))))))))))))))
  have f1000_17 := (q17.n _ (by decide)).trans ((q16.n _ (by decide)).trans ((q15.n _ (by decide)).trans ((q14.n _ (by decide)).trans ((q13.n _ (by decide)).trans ((q12.n _ (by decide)).trans ((q11.n _ (by decide)).trans ((q10.n _ (by decide)).trans ((q9.n _ (by decide)).trans ((q8.n _ (by decide)).trans ((q7.n _ (by decide)).trans ((q6.n _ (by decide)).trans ((q5.n _ (by decide)).trans ((q4.n _ (by decide)).trans ((q3.n _ (by decide)).trans (q2.v)))))))))))))))
  have f1001_17 := (q17.n _ (by decide)).trans ((q16.n _ (by decide)).trans ((q15.n _ (by decide)).trans ((q14.n _ (by decide)).trans ((q13.n _ (by decide)).trans ((q12.n _ (by decide)).trans ((q11.n _ (by decide)).trans ((q10.n _ (by decide)).trans ((q9.n _ (by decide)).trans ((q8.n _ (by decide)).trans ((q7.n _ (by decide)).trans ((q6.n _ (by decide)).trans ((q5.n _ (by decide)).trans ((q4.n _ (by decide)).trans (q3.v))))))))))))))
  have f1002_17 := (q17.n _ (by decide)).trans ((q16.n _ (by decide)).trans ((q15.n _ (by decide)).trans ((q14.n _ (by decide)).trans ((q13.n _ (by decide)).trans ((q12.n _ (by decide)).trans ((q11.n _ (by decide)).trans ((q10.n _ (by decide)).trans ((q9.n _ (by decide)).trans ((q8.n _ (by decide)).trans ((q7.n _ (by decide)).trans ((q6.n _ (by decide)).trans ((q5.n _ (by decide)).trans (q4.v)))))))))))))
  have f1003_17 := (q17.n _ (by decide)).trans ((q16.n _ (by decide)).trans ((q15.n _ (by decide)).trans ((q14.n _ (by decide)).trans ((q13.n _ (by decide)).trans ((q12.n _ (by decide)).trans ((q11.n _ (by decide)).trans ((q10.n _ (by decide)).trans ((q9.n _ (by decide)).trans ((q8.n _ (by decide)).trans ((q7.n _ (by decide)).trans ((q6.n _ (by decide)).trans (q5.v))))))))))))
  have f1004_17 := (q17.n _ (by decide)).trans ((q16.n _ (by decide)).trans ((q15.n _ (by decide)).trans ((q14.n _ (by decide)).trans ((q13.n _ (by decide)).trans ((q12.n _ (by decide)).trans ((q11.n _ (by decide)).trans ((q10.n _ (by decide)).trans ((q9.n _ (by decide)).trans ((q8.n _ (by decide)).trans ((q7.n _ (by decide)).trans (q6.v)))))))))))
  have f1005_17 := (q17.n _ (by decide)).trans ((q16.n _ (by decide)).trans ((q15.n _ (by decide)).trans ((q14.n _ (by decide)).trans ((q13.n _ (by decide)).trans ((q12.n _ (by decide)).trans ((q11.n _ (by decide)).trans ((q10.n _ (by decide)).trans ((q9.n _ (by decide)).trans ((q8.n _ (by decide)).trans (q7.v))))))))))
  have f1006_17 := (q17.n _ (by decide)).trans ((q16.n _ (by decide)).trans ((q15.n _ (by decide)).trans ((q14.n _ (by decide)).trans ((q13.n _ (by decide)).trans ((q12.n _ (by decide)).trans ((q11.n _ (by decide)).trans ((q10.n _ (by decide)).trans ((q9.n _ (by decide)).trans (q8.v)))))))))
  have f1007_17 := (q17.n _ (by decide)).trans ((q16.n _ (by decide)).trans ((q15.n _ (by decide)).trans ((q14.n _ (by decide)).trans ((q13.n _ (by decide)).trans ((q12.n _ (by decide)).trans ((q11.n _ (by decide)).trans ((q10.n _ (by decide)).trans (q9.v))))))))
  have f1008_17 := (q17.n _ (by decide)).trans ((q16.n _ (by decide)).trans ((q15.n _ (by decide)).trans ((q14.n _ (by decide)).trans ((q13.n _ (by decide)).trans ((q12.n _ (by decide)).trans ((q11.n _ (by decide)).trans (q10.v)))))))
  have f1009_17 := (q17.n _ (by decide)).trans ((q16.n _ (by decide)).trans ((q15.n _ (by decide)).trans ((q14.n _ (by decide)).trans ((q13.n _ (by decide)).trans ((q12.n _ (by decide)).trans (q11.v))))))
  have f1010_17 := (q17.n _ (by decide)).trans ((q16.n _ (by decide)).trans ((q15.n _ (by decide)).trans ((q14.n _ (by decide)).trans ((q13.n _ (by decide)).trans (q12.v)))))
  have f1011_17 := (q17.n _ (by decide)).trans ((q16.n _ (by decide)).trans ((q15.n _ (by decide)).trans ((q14.n _ (by decide)).trans (q13.v))))
  have f1012_17 := (q17.n _ (by decide)).trans ((q16.n _ (by decide)).trans ((q15.n _ (by decide)).trans (q14.v)))
  have f1013_17 := (q17.n _ (by decide)).trans ((q16.n _ (by decide)).trans (q15.v))
  have f1014_17 := (q17.n _ (by decide)).trans (q16.v)
  have f0_17 := (q17.n _ (by decide)).trans ((q16.n _ (by decide)).trans ((q15.n _ (by decide)).trans ((q14.n _ (by decide)).trans ((q13.n _ (by decide)).trans ((q12.n _ (by decide)).trans ((q11.n _ (by decide)).trans ((q10.n _ (by decide)).trans ((q9.n _ (by decide)).trans ((q8.n _ (by decide)).trans ((q7.n _ (by decide)).trans ((q6.n _ (by decide)).trans ((q5.n _ (by decide)).trans ((q4.n _ (by decide)).trans ((q3.n _ (by decide)).trans ((q2.n _ (by decide)).trans ((q1.n _ (by decide)).trans (g0)))))))))))))))))
  refine wlCall (exCall17 (f999_17) (f1000_17) (f1001_17) (f1002_17) (f1003_17) (f1004_17) (f1005_17) (f1006_17) (f1007_17) (f1008_17) (f1009_17) (f1010_17) (f1011_17) (f1012_17) (f1013_17) (f1014_17) (q17.v) rfl (by go_simp)) hre (ltz zz17 rfl) ?_
  rintro e w' ⟨rfl, hR, hFR⟩
  refine ⟨_, rfl, fun ac18 q18 => wpList_nil (Exit.at_normal ?_)⟩
  have zz18 := q18.z.trans zz17
  have dd18 := q18.f.trans dd17
  refine wp_seq (wp_region_lit ?_)
  show wpList _ _ _ _ _ _
  refine wlPut (exMove ((q18.n _ (by decide)).trans (f0_17))) (ltz zz18 rfl) ?_
  intro ac19 q19
  have zz19 := q19.z.trans zz18
  have dd19 := q19.f.trans dd18
  refine wlPut (exAssign (q19.v)) (ltz zz19 rfl) ?_
  intro ac20 q20
  have zz20 := q20.z.trans zz19
  have dd20 := q20.f.trans dd19
  refine wpList_nil (Exit.at_normal ?_)
  refine retA rfl dd20 (q20.v) ⟨rfl, hR, ?_⟩
  refine ((hF0.mono (fun _ _ _ f => f.elim)).trans ((h.fr.mono (T := Or2 (Rng d q 8) (Rng g 0 3)) (fun _ _ _ f => .inr f)).trans (hFR.mono (fun _ _ _ f => .inl f)))).mono (fun k o hk f => ?_)
  rcases f with f | f
  · exact f
  have := f.1; omega
section
variable {ρ : Operand → Value} {w : World} {d : Option Nat} {ty : TypeId} {pos : String} {after : Array Edge} {g : Option (Nat × Bool)}
theorem exIndex24 {x : Operand} {b o i : Nat} (h : ρ x = .pointer (some ⟨b, o, none⟩)) (hc : ρ (.const (.int .i64 i)) = .int .i64 i) (hi : i < 32) : (execOp ρ ⟨d, .indexAddr 24 x (.const (.int .i64 i)), ty, pos, after, g⟩).run Tryz.prog w = .ok (.value (.pointer (some ⟨b, o + i, none⟩))) w := by
  simp only [execOp, h, hc]
  go_simp
  intro hle; exact absurd hle (by omega)
theorem exLoad5 {x : Operand} {A : Addr} {n : Int} (h : ρ x = .pointer (some A)) (hc : w.cell? A = some (.int .u8 n)) : (execOp ρ ⟨d, .load 5 x, ty, pos, after, g⟩).run Tryz.prog w = .ok (.value (.int .u8 n)) w := by
  simp only [execOp, h]; go_simp
theorem exConv8 {x : Operand} {n : Int} (h : ρ x = .int .u8 n) (hn : 0 ≤ n ∧ n < 256) : (execOp ρ ⟨d, .convert 5 33 x, ty, pos, after, g⟩).run Tryz.prog w = .ok (.value (.int .u32 n)) w := by
  obtain ⟨h0, h1⟩ := hn
  have e : IntKind.u32.wrap n = n := by rw [wrapU32]; omega
  simp only [execOp, h]; go_simp
theorem exShl8 {x : Operand} {n : Int} (h : ρ x = .int .u32 n) (hc : ρ (.const (.int .u64 8)) = .int .u64 8) (hn : 0 ≤ n ∧ n < 256) : (execOp ρ ⟨d, .binOp .shl 33 x (.const (.int .u64 8)) 54, ty, pos, after, g⟩).run Tryz.prog w = .ok (.value (.int .u32 (n * 256))) w := by
  have e : IntKind.u32.wrap (n * 256) = n * 256 := by rw [wrapU32]; omega
  simp only [execOp, h, hc]; go_simp
theorem exShl16 {x : Operand} {n : Int} (h : ρ x = .int .u32 n) (hc : ρ (.const (.int .u64 16)) = .int .u64 16) (hn : 0 ≤ n ∧ n < 256) : (execOp ρ ⟨d, .binOp .shl 33 x (.const (.int .u64 16)) 54, ty, pos, after, g⟩).run Tryz.prog w = .ok (.value (.int .u32 (n * 65536))) w := by
  have e : IntKind.u32.wrap (n * 65536) = n * 65536 := by rw [wrapU32]; omega
  simp only [execOp, h, hc]; go_simp
theorem exShl24 {x : Operand} {n : Int} (h : ρ x = .int .u32 n) (hc : ρ (.const (.int .u64 24)) = .int .u64 24) (hn : 0 ≤ n ∧ n < 256) : (execOp ρ ⟨d, .binOp .shl 33 x (.const (.int .u64 24)) 54, ty, pos, after, g⟩).run Tryz.prog w = .ok (.value (.int .u32 (n * 16777216))) w := by
  have e : IntKind.u32.wrap (n * 16777216) = n * 16777216 := by rw [wrapU32]; omega
  simp only [execOp, h, hc]; go_simp
theorem exOr {x y : Operand} {n m : Int} (h : ρ x = .int .u32 n) (h' : ρ y = .int .u32 m) : (execOp ρ ⟨d, .binOp .or 33 x y 33, ty, pos, after, g⟩).run Tryz.prog w = .ok (.value (.int .u32 (bits .or .u32 n m))) w := by
  simp only [execOp, h, h']; go_simp
end
def bytesOps (s i0 i1 i2 i3 j : Nat) (pos : String) : List Oper :=
  [⟨some s, .move (.tmp 0), 51, pos, #[], none⟩, ⟨some (s + 1), .move (.tmp 1), 59, pos, #[], none⟩, ⟨some (s + 2), .nilCheck (.tmp (s + 1)), 0, pos, #[⟨1, .data⟩], none⟩, ⟨some (s + 3), .indexAddr 24 (.tmp (s + 2)) (.const (.int .i64 i0)), 0, pos, #[⟨2, .data⟩], none⟩, ⟨some (s + 4), .load 5 (.tmp (s + 3)), 5, pos, #[⟨3, .data⟩], none⟩, ⟨some (s + 5), .convert 5 33 (.tmp (s + 4)), 33, pos, #[⟨4, .data⟩], none⟩, ⟨some (s + 6), .move (.tmp 1), 59, pos, #[], none⟩, ⟨some (s + 7), .nilCheck (.tmp (s + 6)), 0, pos, #[⟨6, .data⟩], none⟩, ⟨some (s + 8), .indexAddr 24 (.tmp (s + 7)) (.const (.int .i64 i1)), 0, pos, #[⟨7, .data⟩], none⟩, ⟨some (s + 9), .load 5 (.tmp (s + 8)), 5, pos, #[⟨8, .data⟩], none⟩, ⟨some (s + 10), .convert 5 33 (.tmp (s + 9)), 33, pos, #[⟨9, .data⟩], none⟩, ⟨some (s + 11), .binOp .shl 33 (.tmp (s + 10)) (.const (.int .u64 8)) 54, 33, pos, #[⟨10, .data⟩], none⟩, ⟨some (s + 12), .binOp .or 33 (.tmp (s + 5)) (.tmp (s + 11)) 33, 33, pos, #[⟨5, .data⟩, ⟨11, .data⟩], none⟩, ⟨some (s + 13), .move (.tmp 1), 59, pos, #[], none⟩, ⟨some (s + 14), .nilCheck (.tmp (s + 13)), 0, pos, #[⟨13, .data⟩], none⟩, ⟨some (s + 15), .indexAddr 24 (.tmp (s + 14)) (.const (.int .i64 i2)), 0, pos, #[⟨14, .data⟩], none⟩, ⟨some (s + 16), .load 5 (.tmp (s + 15)), 5, pos, #[⟨15, .data⟩], none⟩, ⟨some (s + 17), .convert 5 33 (.tmp (s + 16)), 33, pos, #[⟨16, .data⟩], none⟩, ⟨some (s + 18), .binOp .shl 33 (.tmp (s + 17)) (.const (.int .u64 16)) 54, 33, pos, #[⟨17, .data⟩], none⟩, ⟨some (s + 19), .binOp .or 33 (.tmp (s + 12)) (.tmp (s + 18)) 33, 33, pos, #[⟨12, .data⟩, ⟨18, .data⟩], none⟩, ⟨some (s + 20), .move (.tmp 1), 59, pos, #[], none⟩, ⟨some (s + 21), .nilCheck (.tmp (s + 20)), 0, pos, #[⟨20, .data⟩], none⟩, ⟨some (s + 22), .indexAddr 24 (.tmp (s + 21)) (.const (.int .i64 i3)), 0, pos, #[⟨21, .data⟩], none⟩, ⟨some (s + 23), .load 5 (.tmp (s + 22)), 5, pos, #[⟨22, .data⟩], none⟩, ⟨some (s + 24), .convert 5 33 (.tmp (s + 23)), 33, pos, #[⟨23, .data⟩], none⟩, ⟨some (s + 25), .binOp .shl 33 (.tmp (s + 24)) (.const (.int .u64 24)) 54, 33, pos, #[⟨24, .data⟩], none⟩, ⟨some (s + 26), .binOp .or 33 (.tmp (s + 19)) (.tmp (s + 25)) 33, 33, pos, #[⟨19, .data⟩, ⟨25, .data⟩], none⟩, ⟨some (s + 27), .nilCheck (.tmp s), 0, pos, #[⟨0, .data⟩], none⟩, ⟨some (s + 28), .fieldAddr 44 (.tmp (s + 27)) 0, 0, pos, #[⟨27, .data⟩], none⟩, ⟨some (s + 29), .indexAddr 42 (.tmp (s + 28)) (.const (.int .i64 j)), 0, pos, #[⟨28, .data⟩, ⟨0, .phase⟩, ⟨1, .phase⟩, ⟨2, .phase⟩, ⟨3, .phase⟩, ⟨4, .phase⟩, ⟨5, .phase⟩, ⟨6, .phase⟩, ⟨7, .phase⟩, ⟨8, .phase⟩, ⟨9, .phase⟩, ⟨10, .phase⟩, ⟨11, .phase⟩, ⟨12, .phase⟩, ⟨13, .phase⟩, ⟨14, .phase⟩, ⟨15, .phase⟩, ⟨16, .phase⟩, ⟨17, .phase⟩, ⟨18, .phase⟩, ⟨19, .phase⟩, ⟨20, .phase⟩, ⟨21, .phase⟩, ⟨22, .phase⟩, ⟨23, .phase⟩, ⟨24, .phase⟩, ⟨25, .phase⟩, ⟨26, .phase⟩], none⟩, ⟨none, .store 33 (.tmp (s + 29)) (.tmp (s + 26)), 0, pos, #[⟨29, .data⟩, ⟨26, .data⟩, ⟨0, .phase⟩, ⟨1, .phase⟩, ⟨2, .phase⟩, ⟨3, .phase⟩, ⟨4, .phase⟩, ⟨5, .phase⟩, ⟨6, .phase⟩, ⟨7, .phase⟩, ⟨8, .phase⟩, ⟨9, .phase⟩, ⟨10, .phase⟩, ⟨11, .phase⟩, ⟨12, .phase⟩, ⟨13, .phase⟩, ⟨14, .phase⟩, ⟨15, .phase⟩, ⟨16, .phase⟩, ⟨17, .phase⟩, ⟨18, .phase⟩, ⟨19, .phase⟩, ⟨20, .phase⟩, ⟨21, .phase⟩, ⟨22, .phase⟩, ⟨23, .phase⟩, ⟨24, .phase⟩, ⟨25, .phase⟩, ⟨26, .phase⟩], none⟩]
set_option maxRecDepth 100000 in
theorem bytes_region {id s i0 i1 i2 i3 j : Nat} {pos : String} {Q : Exit → Act → World → Prop} {a : Act} {w : World} {b o c p : Nat} {m : Int} {Y : Nat → Int}
    (hs : 2 ≤ s) (hz : s + 30 ≤ a.tmps.size) (e0 : a.eval (.tmp 0) = .pointer (some ⟨b, o, none⟩)) (e1 : a.eval (.tmp 1) = .pointer (some ⟨c, p, none⟩)) (hy : By w c p 32 Y)
    (hi : i0 < 32 ∧ i1 < 32 ∧ i2 < 32 ∧ i3 < 32) (hj : j < 8) (hc : w.cell? ⟨b, o + j, none⟩ = some (.int .u32 m)) (hf : w.frozen? ⟨b, o + j, none⟩ = false) (hB : Region.lexTailB .any (bytesOps s i0 i1 i2 i3 j pos).toArray 30 = true)
    (h : ∀ a', Past a a' s → Q .normal a' (w.drew.setCell ⟨b, o + j, none⟩ (.int .u32 (Y i0 + Y i1 * 256 + Y i2 * 65536 + Y i3 * 16777216)))) :
    Code.wp Tryz.prog (.region id (bytesOps s i0 i1 i2 i3 j pos).toArray true) Q a w := by
  have y0 := hy i0 hi.1
  have y1 := hy i1 hi.2.1
  have y2 := hy i2 hi.2.2.1
  have y3 := hy i3 hi.2.2.2
  have ho := or4 y0.2 y1.2 y2.2 y3.2
  refine wp_region_still_tail (l := bytesOps s i0 i1 i2 i3 j pos) 30 (by kernel_rfl) hB ?_
  change wpStill _ _ _ _ [_, _, _, _, _, _, _, _, _, _, _, _, _, _, _, _, _, _, _, _, _, _, _, _, _, _, _, _, _, _] _
  have q := Past.refl a s
  refine stPut (exMove e0) (by have := q.z; omega) ?_
  intro a0 p0
  replace q := q.put p0 (by omega)
  have L1 := (q.n 1 (by omega)).trans e1
  refine stPut (exMove L1) (by have := q.z; omega) ?_
  intro a1 p1
  replace q := q.put p1 (by omega)
  refine stPut (exNil p1.v) (by have := q.z; omega) ?_
  intro a2 p2
  replace q := q.put p2 (by omega)
  refine stPut (exIndex24 p2.v rfl hi.1) (by have := q.z; omega) ?_
  intro a3 p3
  replace q := q.put p3 (by omega)
  refine stPut (exLoad5 p3.v y0.1) (by have := q.z; omega) ?_
  intro a4 p4
  replace q := q.put p4 (by omega)
  refine stPut (exConv8 p4.v y0.2) (by have := q.z; omega) ?_
  intro a5 p5
  replace q := q.put p5 (by omega)
  have L1 := (q.n 1 (by omega)).trans e1
  refine stPut (exMove L1) (by have := q.z; omega) ?_
  intro a6 p6
  replace q := q.put p6 (by omega)
  refine stPut (exNil p6.v) (by have := q.z; omega) ?_
  intro a7 p7
  replace q := q.put p7 (by omega)
  refine stPut (exIndex24 p7.v rfl hi.2.1) (by have := q.z; omega) ?_
  intro a8 p8
  replace q := q.put p8 (by omega)
  refine stPut (exLoad5 p8.v y1.1) (by have := q.z; omega) ?_
  intro a9 p9
  replace q := q.put p9 (by omega)
  refine stPut (exConv8 p9.v y1.2) (by have := q.z; omega) ?_
  intro a10 p10
  replace q := q.put p10 (by omega)
  refine stPut (exShl8 p10.v rfl y1.2) (by have := q.z; omega) ?_
  intro a11 p11
  replace q := q.put p11 (by omega)
  refine stPut (exOr ((p11.n _ (by omega)).trans ((p10.n _ (by omega)).trans ((p9.n _ (by omega)).trans ((p8.n _ (by omega)).trans ((p7.n _ (by omega)).trans ((p6.n _ (by omega)).trans (p5.v))))))) p11.v) (by have := q.z; omega) ?_
  intro a12 p12
  replace q := q.put p12 (by omega)
  have L1 := (q.n 1 (by omega)).trans e1
  refine stPut (exMove L1) (by have := q.z; omega) ?_
  intro a13 p13
  replace q := q.put p13 (by omega)
  refine stPut (exNil p13.v) (by have := q.z; omega) ?_
  intro a14 p14
  replace q := q.put p14 (by omega)
  refine stPut (exIndex24 p14.v rfl hi.2.2.1) (by have := q.z; omega) ?_
  intro a15 p15
  replace q := q.put p15 (by omega)
  refine stPut (exLoad5 p15.v y2.1) (by have := q.z; omega) ?_
  intro a16 p16
  replace q := q.put p16 (by omega)
  refine stPut (exConv8 p16.v y2.2) (by have := q.z; omega) ?_
  intro a17 p17
  replace q := q.put p17 (by omega)
  refine stPut (exShl16 p17.v rfl y2.2) (by have := q.z; omega) ?_
  intro a18 p18
  replace q := q.put p18 (by omega)
  refine stPut (exOr ((p18.n _ (by omega)).trans ((p17.n _ (by omega)).trans ((p16.n _ (by omega)).trans ((p15.n _ (by omega)).trans ((p14.n _ (by omega)).trans ((p13.n _ (by omega)).trans (p12.v))))))) p18.v) (by have := q.z; omega) ?_
  intro a19 p19
  replace q := q.put p19 (by omega)
  have L1 := (q.n 1 (by omega)).trans e1
  refine stPut (exMove L1) (by have := q.z; omega) ?_
  intro a20 p20
  replace q := q.put p20 (by omega)
  refine stPut (exNil p20.v) (by have := q.z; omega) ?_
  intro a21 p21
  replace q := q.put p21 (by omega)
  refine stPut (exIndex24 p21.v rfl hi.2.2.2) (by have := q.z; omega) ?_
  intro a22 p22
  replace q := q.put p22 (by omega)
  refine stPut (exLoad5 p22.v y3.1) (by have := q.z; omega) ?_
  intro a23 p23
  replace q := q.put p23 (by omega)
  refine stPut (exConv8 p23.v y3.2) (by have := q.z; omega) ?_
  intro a24 p24
  replace q := q.put p24 (by omega)
  refine stPut (exShl24 p24.v rfl y3.2) (by have := q.z; omega) ?_
  intro a25 p25
  replace q := q.put p25 (by omega)
  refine stPut (exOr ((p25.n _ (by omega)).trans ((p24.n _ (by omega)).trans ((p23.n _ (by omega)).trans ((p22.n _ (by omega)).trans ((p21.n _ (by omega)).trans ((p20.n _ (by omega)).trans (p19.v))))))) p25.v) (by have := q.z; omega) ?_
  intro a26 p26
  replace q := q.put p26 (by omega)
  refine stPut (exNil ((p26.n _ (by omega)).trans ((p25.n _ (by omega)).trans ((p24.n _ (by omega)).trans ((p23.n _ (by omega)).trans ((p22.n _ (by omega)).trans ((p21.n _ (by omega)).trans ((p20.n _ (by omega)).trans ((p19.n _ (by omega)).trans ((p18.n _ (by omega)).trans ((p17.n _ (by omega)).trans ((p16.n _ (by omega)).trans ((p15.n _ (by omega)).trans ((p14.n _ (by omega)).trans ((p13.n _ (by omega)).trans ((p12.n _ (by omega)).trans ((p11.n _ (by omega)).trans ((p10.n _ (by omega)).trans ((p9.n _ (by omega)).trans ((p8.n _ (by omega)).trans ((p7.n _ (by omega)).trans ((p6.n _ (by omega)).trans ((p5.n _ (by omega)).trans ((p4.n _ (by omega)).trans ((p3.n _ (by omega)).trans ((p2.n _ (by omega)).trans ((p1.n _ (by omega)).trans (p0.v)))))))))))))))))))))))))))) (by have := q.z; omega) ?_
  intro a27 p27
  replace q := q.put p27 (by omega)
  refine stPut (exField44 p27.v) (by have := q.z; omega) ?_
  intro a28 p28
  replace q := q.put p28 (by omega)
  refine stPut (exIndex42 p28.v rfl hj) (by have := q.z; omega) ?_
  intro a29 p29
  replace q := q.put p29 (by omega)
  refine wpStill_nil ?_
  change wpList _ _ _ [_] _ _
  refine wlSkip (exStore33 p29.v ((p29.n _ (by omega)).trans ((p28.n _ (by omega)).trans ((p27.n _ (by omega)).trans (p26.v)))) hc hf) (wpList_nil ?_)
  rw [ho]
  exact h _ q
set_option maxRecDepth 100000 in
theorem setBytes (b o c p : Nat) (x : Int) (Y : Nat → Int) (w : World) (hS : Sc w b o x) (hf : F8 w b o) (hbc : b ≠ c) (hy : By w c p 32 Y) :
    Calls Tryz.prog 30 #[.pointer (some ⟨b, o, none⟩), .pointer (some ⟨c, p, none⟩)] w fun e w' => e = .returned (.int .u32 (ovN (be Y 32))) ∧ Sc w' b o (be Y 32 - NN * ovN (be Y 32)) ∧ Fr (Rng b o 8) w w' := by
  obtain ⟨m0, m1, m2, m3, m4, m5, m6, m7, hS, HX⟩ := hS
  clear HX
  refine enterA Tryz.func30 rfl (fun a0 z0 d0 ha => ?_)
  have e0 := ha 0 _ rfl
  have e1 := ha 1 _ rfl
  replace z0 : a0.tmps.size = 252 := z0
  refine wp_seq (wp_region1 (wlPut (exAssign rfl) (ltz z0 rfl) fun a1 p1 => wpList_nil (Exit.at_normal ?_)))
  have z1 := p1.z.trans z0
  have d1 := p1.f.trans d0
  replace e0 := (p1.n 0 (by decide)).trans e0
  replace e1 := (p1.n 1 (by decide)).trans e1
  have hF : Fr (Rng b o 8) w w := Fr.refl _ _
  refine wp_seq (bytes_region (s := 6) (i0 := 31) (i1 := 30) (i2 := 29) (i3 := 28) (j := 0) (by decide) (by rw [z1]; decide) e0 e1 hy (by decide) (by decide) hS.1 hf.1 (by kernel_rfl) (fun a' q => Exit.at_normal ?_))
  replace e0 := (q.n 0 (by decide)).trans e0
  replace e1 := (q.n 1 (by decide)).trans e1
  replace z1 := q.z.trans z1
  replace d1 := q.f.trans d1
  have U0 : U32 (Y 31 + Y 30 * 256 + Y 29 * 65536 + Y 28 * 16777216) := by have h0 := (hy 31 (by decide)).2; have h1 := (hy 30 (by decide)).2; have h2 := (hy 29 (by decide)).2; have h3 := (hy 28 (by decide)).2; unfold U32; omega
  have hG : Fr (Rng b o 8) w (w.drew.setCell ⟨b, o + 0, none⟩ (.int .u32 (Y 31 + Y 30 * 256 + Y 29 * 65536 + Y 28 * 16777216))) := (Fr.refl _ _).drew.setCell (b := b) (o := o + 0) (fun _ => ⟨rfl, by omega, by omega⟩) _
  replace hf := F8.fr hG hS.lt hf
  replace hS := S8.set0 (w := w.drew) hS _ U0
  replace hy := hy.fr hG (fun _ _ _ f => hbc f.1.symm)
  replace hF := hF.trans hG
  clear hG q
  change Code.wp _ _ _ _ (w.drew.setCell ⟨b, o + 0, none⟩ (.int .u32 (Y 31 + Y 30 * 256 + Y 29 * 65536 + Y 28 * 16777216)))
  replace hS : S8 (w.drew.setCell ⟨b, o + 0, none⟩ (.int .u32 (Y 31 + Y 30 * 256 + Y 29 * 65536 + Y 28 * 16777216))) b o _ _ _ _ _ _ _ _ := hS
  generalize w.drew.setCell ⟨b, o + 0, none⟩ (.int .u32 (Y 31 + Y 30 * 256 + Y 29 * 65536 + Y 28 * 16777216)) = w0 at hf hS hy hF ⊢
  refine wp_seq (bytes_region (s := 36) (i0 := 27) (i1 := 26) (i2 := 25) (i3 := 24) (j := 1) (by decide) (by rw [z1]; decide) e0 e1 hy (by decide) (by decide) hS.2.1 hf.2.1 (by kernel_rfl) (fun a' q => Exit.at_normal ?_))
  replace e0 := (q.n 0 (by decide)).trans e0
  replace e1 := (q.n 1 (by decide)).trans e1
  replace z1 := q.z.trans z1
  replace d1 := q.f.trans d1
  have U1 : U32 (Y 27 + Y 26 * 256 + Y 25 * 65536 + Y 24 * 16777216) := by have h0 := (hy 27 (by decide)).2; have h1 := (hy 26 (by decide)).2; have h2 := (hy 25 (by decide)).2; have h3 := (hy 24 (by decide)).2; unfold U32; omega
  have hG : Fr (Rng b o 8) w0 (w0.drew.setCell ⟨b, o + 1, none⟩ (.int .u32 (Y 27 + Y 26 * 256 + Y 25 * 65536 + Y 24 * 16777216))) := (Fr.refl _ _).drew.setCell (b := b) (o := o + 1) (fun _ => ⟨rfl, by omega, by omega⟩) _
  replace hf := F8.fr hG hS.lt hf
  replace hS := S8.set1 (w := w0.drew) hS _ U1
  replace hy := hy.fr hG (fun _ _ _ f => hbc f.1.symm)
  replace hF := hF.trans hG
  clear hG q
  change Code.wp _ _ _ _ (w0.drew.setCell ⟨b, o + 1, none⟩ (.int .u32 (Y 27 + Y 26 * 256 + Y 25 * 65536 + Y 24 * 16777216)))
  replace hS : S8 (w0.drew.setCell ⟨b, o + 1, none⟩ (.int .u32 (Y 27 + Y 26 * 256 + Y 25 * 65536 + Y 24 * 16777216))) b o _ _ _ _ _ _ _ _ := hS
  generalize w0.drew.setCell ⟨b, o + 1, none⟩ (.int .u32 (Y 27 + Y 26 * 256 + Y 25 * 65536 + Y 24 * 16777216)) = w1 at hf hS hy hF ⊢
  refine wp_seq (bytes_region (s := 66) (i0 := 23) (i1 := 22) (i2 := 21) (i3 := 20) (j := 2) (by decide) (by rw [z1]; decide) e0 e1 hy (by decide) (by decide) hS.2.2.1 hf.2.2.1 (by kernel_rfl) (fun a' q => Exit.at_normal ?_))
  replace e0 := (q.n 0 (by decide)).trans e0
  replace e1 := (q.n 1 (by decide)).trans e1
  replace z1 := q.z.trans z1
  replace d1 := q.f.trans d1
  have U2 : U32 (Y 23 + Y 22 * 256 + Y 21 * 65536 + Y 20 * 16777216) := by have h0 := (hy 23 (by decide)).2; have h1 := (hy 22 (by decide)).2; have h2 := (hy 21 (by decide)).2; have h3 := (hy 20 (by decide)).2; unfold U32; omega
  have hG : Fr (Rng b o 8) w1 (w1.drew.setCell ⟨b, o + 2, none⟩ (.int .u32 (Y 23 + Y 22 * 256 + Y 21 * 65536 + Y 20 * 16777216))) := (Fr.refl _ _).drew.setCell (b := b) (o := o + 2) (fun _ => ⟨rfl, by omega, by omega⟩) _
  replace hf := F8.fr hG hS.lt hf
  replace hS := S8.set2 (w := w1.drew) hS _ U2
  replace hy := hy.fr hG (fun _ _ _ f => hbc f.1.symm)
  replace hF := hF.trans hG
  clear hG q
  change Code.wp _ _ _ _ (w1.drew.setCell ⟨b, o + 2, none⟩ (.int .u32 (Y 23 + Y 22 * 256 + Y 21 * 65536 + Y 20 * 16777216)))
  replace hS : S8 (w1.drew.setCell ⟨b, o + 2, none⟩ (.int .u32 (Y 23 + Y 22 * 256 + Y 21 * 65536 + Y 20 * 16777216))) b o _ _ _ _ _ _ _ _ := hS
  generalize w1.drew.setCell ⟨b, o + 2, none⟩ (.int .u32 (Y 23 + Y 22 * 256 + Y 21 * 65536 + Y 20 * 16777216)) = w2 at hf hS hy hF ⊢
  refine wp_seq (bytes_region (s := 96) (i0 := 19) (i1 := 18) (i2 := 17) (i3 := 16) (j := 3) (by decide) (by rw [z1]; decide) e0 e1 hy (by decide) (by decide) hS.2.2.2.1 hf.2.2.2.1 (by kernel_rfl) (fun a' q => Exit.at_normal ?_))
  replace e0 := (q.n 0 (by decide)).trans e0
  replace e1 := (q.n 1 (by decide)).trans e1
  replace z1 := q.z.trans z1
  replace d1 := q.f.trans d1
  have U3 : U32 (Y 19 + Y 18 * 256 + Y 17 * 65536 + Y 16 * 16777216) := by have h0 := (hy 19 (by decide)).2; have h1 := (hy 18 (by decide)).2; have h2 := (hy 17 (by decide)).2; have h3 := (hy 16 (by decide)).2; unfold U32; omega
  have hG : Fr (Rng b o 8) w2 (w2.drew.setCell ⟨b, o + 3, none⟩ (.int .u32 (Y 19 + Y 18 * 256 + Y 17 * 65536 + Y 16 * 16777216))) := (Fr.refl _ _).drew.setCell (b := b) (o := o + 3) (fun _ => ⟨rfl, by omega, by omega⟩) _
  replace hf := F8.fr hG hS.lt hf
  replace hS := S8.set3 (w := w2.drew) hS _ U3
  replace hy := hy.fr hG (fun _ _ _ f => hbc f.1.symm)
  replace hF := hF.trans hG
  clear hG q
  change Code.wp _ _ _ _ (w2.drew.setCell ⟨b, o + 3, none⟩ (.int .u32 (Y 19 + Y 18 * 256 + Y 17 * 65536 + Y 16 * 16777216)))
  replace hS : S8 (w2.drew.setCell ⟨b, o + 3, none⟩ (.int .u32 (Y 19 + Y 18 * 256 + Y 17 * 65536 + Y 16 * 16777216))) b o _ _ _ _ _ _ _ _ := hS
  generalize w2.drew.setCell ⟨b, o + 3, none⟩ (.int .u32 (Y 19 + Y 18 * 256 + Y 17 * 65536 + Y 16 * 16777216)) = w3 at hf hS hy hF ⊢
  refine wp_seq (bytes_region (s := 126) (i0 := 15) (i1 := 14) (i2 := 13) (i3 := 12) (j := 4) (by decide) (by rw [z1]; decide) e0 e1 hy (by decide) (by decide) hS.2.2.2.2.1 hf.2.2.2.2.1 (by kernel_rfl) (fun a' q => Exit.at_normal ?_))
  replace e0 := (q.n 0 (by decide)).trans e0
  replace e1 := (q.n 1 (by decide)).trans e1
  replace z1 := q.z.trans z1
  replace d1 := q.f.trans d1
  have U4 : U32 (Y 15 + Y 14 * 256 + Y 13 * 65536 + Y 12 * 16777216) := by have h0 := (hy 15 (by decide)).2; have h1 := (hy 14 (by decide)).2; have h2 := (hy 13 (by decide)).2; have h3 := (hy 12 (by decide)).2; unfold U32; omega
  have hG : Fr (Rng b o 8) w3 (w3.drew.setCell ⟨b, o + 4, none⟩ (.int .u32 (Y 15 + Y 14 * 256 + Y 13 * 65536 + Y 12 * 16777216))) := (Fr.refl _ _).drew.setCell (b := b) (o := o + 4) (fun _ => ⟨rfl, by omega, by omega⟩) _
  replace hf := F8.fr hG hS.lt hf
  replace hS := S8.set4 (w := w3.drew) hS _ U4
  replace hy := hy.fr hG (fun _ _ _ f => hbc f.1.symm)
  replace hF := hF.trans hG
  clear hG q
  change Code.wp _ _ _ _ (w3.drew.setCell ⟨b, o + 4, none⟩ (.int .u32 (Y 15 + Y 14 * 256 + Y 13 * 65536 + Y 12 * 16777216)))
  replace hS : S8 (w3.drew.setCell ⟨b, o + 4, none⟩ (.int .u32 (Y 15 + Y 14 * 256 + Y 13 * 65536 + Y 12 * 16777216))) b o _ _ _ _ _ _ _ _ := hS
  generalize w3.drew.setCell ⟨b, o + 4, none⟩ (.int .u32 (Y 15 + Y 14 * 256 + Y 13 * 65536 + Y 12 * 16777216)) = w4 at hf hS hy hF ⊢
  refine wp_seq (bytes_region (s := 156) (i0 := 11) (i1 := 10) (i2 := 9) (i3 := 8) (j := 5) (by decide) (by rw [z1]; decide) e0 e1 hy (by decide) (by decide) hS.2.2.2.2.2.1 hf.2.2.2.2.2.1 (by kernel_rfl) (fun a' q => Exit.at_normal ?_))
  replace e0 := (q.n 0 (by decide)).trans e0
  replace e1 := (q.n 1 (by decide)).trans e1
  replace z1 := q.z.trans z1
  replace d1 := q.f.trans d1
  have U5 : U32 (Y 11 + Y 10 * 256 + Y 9 * 65536 + Y 8 * 16777216) := by have h0 := (hy 11 (by decide)).2; have h1 := (hy 10 (by decide)).2; have h2 := (hy 9 (by decide)).2; have h3 := (hy 8 (by decide)).2; unfold U32; omega
  have hG : Fr (Rng b o 8) w4 (w4.drew.setCell ⟨b, o + 5, none⟩ (.int .u32 (Y 11 + Y 10 * 256 + Y 9 * 65536 + Y 8 * 16777216))) := (Fr.refl _ _).drew.setCell (b := b) (o := o + 5) (fun _ => ⟨rfl, by omega, by omega⟩) _
  replace hf := F8.fr hG hS.lt hf
  replace hS := S8.set5 (w := w4.drew) hS _ U5
  replace hy := hy.fr hG (fun _ _ _ f => hbc f.1.symm)
  replace hF := hF.trans hG
  clear hG q
  change Code.wp _ _ _ _ (w4.drew.setCell ⟨b, o + 5, none⟩ (.int .u32 (Y 11 + Y 10 * 256 + Y 9 * 65536 + Y 8 * 16777216)))
  replace hS : S8 (w4.drew.setCell ⟨b, o + 5, none⟩ (.int .u32 (Y 11 + Y 10 * 256 + Y 9 * 65536 + Y 8 * 16777216))) b o _ _ _ _ _ _ _ _ := hS
  generalize w4.drew.setCell ⟨b, o + 5, none⟩ (.int .u32 (Y 11 + Y 10 * 256 + Y 9 * 65536 + Y 8 * 16777216)) = w5 at hf hS hy hF ⊢
  refine wp_seq (bytes_region (s := 186) (i0 := 7) (i1 := 6) (i2 := 5) (i3 := 4) (j := 6) (by decide) (by rw [z1]; decide) e0 e1 hy (by decide) (by decide) hS.2.2.2.2.2.2.1 hf.2.2.2.2.2.2.1 (by kernel_rfl) (fun a' q => Exit.at_normal ?_))
  replace e0 := (q.n 0 (by decide)).trans e0
  replace e1 := (q.n 1 (by decide)).trans e1
  replace z1 := q.z.trans z1
  replace d1 := q.f.trans d1
  have U6 : U32 (Y 7 + Y 6 * 256 + Y 5 * 65536 + Y 4 * 16777216) := by have h0 := (hy 7 (by decide)).2; have h1 := (hy 6 (by decide)).2; have h2 := (hy 5 (by decide)).2; have h3 := (hy 4 (by decide)).2; unfold U32; omega
  have hG : Fr (Rng b o 8) w5 (w5.drew.setCell ⟨b, o + 6, none⟩ (.int .u32 (Y 7 + Y 6 * 256 + Y 5 * 65536 + Y 4 * 16777216))) := (Fr.refl _ _).drew.setCell (b := b) (o := o + 6) (fun _ => ⟨rfl, by omega, by omega⟩) _
  replace hf := F8.fr hG hS.lt hf
  replace hS := S8.set6 (w := w5.drew) hS _ U6
  replace hy := hy.fr hG (fun _ _ _ f => hbc f.1.symm)
  replace hF := hF.trans hG
  clear hG q
  change Code.wp _ _ _ _ (w5.drew.setCell ⟨b, o + 6, none⟩ (.int .u32 (Y 7 + Y 6 * 256 + Y 5 * 65536 + Y 4 * 16777216)))
  replace hS : S8 (w5.drew.setCell ⟨b, o + 6, none⟩ (.int .u32 (Y 7 + Y 6 * 256 + Y 5 * 65536 + Y 4 * 16777216))) b o _ _ _ _ _ _ _ _ := hS
  generalize w5.drew.setCell ⟨b, o + 6, none⟩ (.int .u32 (Y 7 + Y 6 * 256 + Y 5 * 65536 + Y 4 * 16777216)) = w6 at hf hS hy hF ⊢
  refine wp_seq (bytes_region (s := 216) (i0 := 3) (i1 := 2) (i2 := 1) (i3 := 0) (j := 7) (by decide) (by rw [z1]; decide) e0 e1 hy (by decide) (by decide) hS.2.2.2.2.2.2.2.1 hf.2.2.2.2.2.2.2 (by kernel_rfl) (fun a' q => Exit.at_normal ?_))
  replace e0 := (q.n 0 (by decide)).trans e0
  replace e1 := (q.n 1 (by decide)).trans e1
  replace z1 := q.z.trans z1
  replace d1 := q.f.trans d1
  have U7 : U32 (Y 3 + Y 2 * 256 + Y 1 * 65536 + Y 0 * 16777216) := by have h0 := (hy 3 (by decide)).2; have h1 := (hy 2 (by decide)).2; have h2 := (hy 1 (by decide)).2; have h3 := (hy 0 (by decide)).2; unfold U32; omega
  have hG : Fr (Rng b o 8) w6 (w6.drew.setCell ⟨b, o + 7, none⟩ (.int .u32 (Y 3 + Y 2 * 256 + Y 1 * 65536 + Y 0 * 16777216))) := (Fr.refl _ _).drew.setCell (b := b) (o := o + 7) (fun _ => ⟨rfl, by omega, by omega⟩) _
  replace hf := F8.fr hG hS.lt hf
  replace hS := S8.set7 (w := w6.drew) hS _ U7
  replace hy := hy.fr hG (fun _ _ _ f => hbc f.1.symm)
  replace hF := hF.trans hG
  clear hG q
  change Code.wp _ _ _ _ (w6.drew.setCell ⟨b, o + 7, none⟩ (.int .u32 (Y 3 + Y 2 * 256 + Y 1 * 65536 + Y 0 * 16777216)))
  replace hS : S8 (w6.drew.setCell ⟨b, o + 7, none⟩ (.int .u32 (Y 3 + Y 2 * 256 + Y 1 * 65536 + Y 0 * 16777216))) b o _ _ _ _ _ _ _ _ := hS
  generalize w6.drew.setCell ⟨b, o + 7, none⟩ (.int .u32 (Y 3 + Y 2 * 256 + Y 1 * 65536 + Y 0 * 16777216)) = w7 at hf hS hy hF ⊢
  rename_i aL
  have hSc : Sc w7 b o (be Y 32) := ⟨_, _, _, _, _, _, _, _, hS, (be_split Y).symm⟩
  have hov := overflows _ _ _ _ _ _ _ _ _ _ _ hS
  rw [← be_split] at hov
  refine wp_seq (wp_region_lit ?_)
  show wpList _ _ _ _ _ _
  refine wlPut (exMove e0) (ltz z1 rfl) ?_
  intro b1 r1
  refine wlCall (exCall1 r1.v rfl (by go_simp)) hov (ltz (r1.z.trans z1) rfl) ?_
  rintro e w' ⟨rfl, rfl⟩
  refine ⟨_, rfl, fun b2 r2 => ?_⟩
  refine wlPut (exAssign r2.v) (ltz (r2.z.trans (r1.z.trans z1)) rfl) ?_
  intro b3 r3
  refine wpList_nil (Exit.at_normal ?_)
  have z3 := r3.z.trans (r2.z.trans (r1.z.trans z1))
  have e3 := (r3.n 0 (by decide)).trans ((r2.n 0 (by decide)).trans ((r1.n 0 (by decide)).trans e0))
  have d3 := r3.f.trans (r2.f.trans (r1.f.trans d1))
  refine wp_seq (wp_region_lit ?_)
  show wpList _ _ _ _ _ _
  refine wlPut (exMove e3) (ltz z3 rfl) ?_
  intro b4 r4
  refine wlPut (exMove ((r4.n _ (by decide)).trans r3.v)) (ltz (r4.z.trans z3) rfl) ?_
  intro b5 r5
  refine wlCall (exCall2 ((r5.n _ (by decide)).trans r4.v) r5.v rfl (by go_simp)) (reduce256 b o _ _ hSc hf) (ltz (r5.z.trans (r4.z.trans z3)) rfl) ?_
  rintro e w' ⟨rfl, hR, hFR⟩
  refine ⟨_, rfl, fun b6 r6 => wpList_nil (Exit.at_normal ?_)⟩
  have z6 := r6.z.trans (r5.z.trans (r4.z.trans z3))
  have v5 := (r6.n 5 (by decide)).trans ((r5.n 5 (by decide)).trans ((r4.n 5 (by decide)).trans r3.v))
  refine wp_seq (wp_region_lit ?_)
  show wpList _ _ _ _ _ _
  refine wlPut (exMove v5) (ltz z6 rfl) ?_
  intro b7 r7
  refine wlPut (exAssign r7.v) (ltz (r7.z.trans z6) rfl) ?_
  intro b8 r8
  refine wpList_nil (Exit.at_normal ?_)
  exact retA rfl (r8.f.trans (r7.f.trans (r6.f.trans (r5.f.trans (r4.f.trans d3))))) r8.v ⟨rfl, hR, hF.trans hFR⟩
section
variable {ρ : Operand → Value} {w : World} {d : Option Nat} {ty : TypeId} {pos : String} {after : Array Edge} {g : Option (Nat × Bool)}
theorem exConvB {x : Operand} {n : Int} (h : ρ x = .int .u32 n) : (execOp ρ ⟨d, .convert 33 5 x, ty, pos, after, g⟩).run Tryz.prog w = .ok (.value (.int .u8 (n % 256))) w := by
  rw [← IntKind.wrap_u8']
  simp only [execOp, h]; go_simp
theorem exShr8 {x : Operand} {n : Int} (h : ρ x = .int .u32 n) (hc : ρ (.const (.int .u64 8)) = .int .u64 8) (hn : U32 n) : (execOp ρ ⟨d, .binOp .shr 33 x (.const (.int .u64 8)) 54, ty, pos, after, g⟩).run Tryz.prog w = .ok (.value (.int .u32 (n / 256))) w := by
  have e : IntKind.u32.wrap (n / 256) = n / 256 := by unfold U32 at hn; rw [wrapU32]; omega
  simp only [execOp, h, hc]; go_simp
theorem exShr16 {x : Operand} {n : Int} (h : ρ x = .int .u32 n) (hc : ρ (.const (.int .u64 16)) = .int .u64 16) (hn : U32 n) : (execOp ρ ⟨d, .binOp .shr 33 x (.const (.int .u64 16)) 54, ty, pos, after, g⟩).run Tryz.prog w = .ok (.value (.int .u32 (n / 65536))) w := by
  have e : IntKind.u32.wrap (n / 65536) = n / 65536 := by unfold U32 at hn; rw [wrapU32]; omega
  simp only [execOp, h, hc]; go_simp
theorem exShr24 {x : Operand} {n : Int} (h : ρ x = .int .u32 n) (hc : ρ (.const (.int .u64 24)) = .int .u64 24) (hn : U32 n) : (execOp ρ ⟨d, .binOp .shr 33 x (.const (.int .u64 24)) 54, ty, pos, after, g⟩).run Tryz.prog w = .ok (.value (.int .u32 (n / 16777216))) w := by
  have e : IntKind.u32.wrap (n / 16777216) = n / 16777216 := by unfold U32 at hn; rw [wrapU32]; omega
  simp only [execOp, h, hc]; go_simp
theorem exIndex65 {x : Operand} {b o l cp i : Nat} (h : ρ x = .slice (some ⟨b, o, none⟩) l cp) (hc : ρ (.const (.int .i64 i)) = .int .i64 i) (hi : i < l) : (execOp ρ ⟨d, .indexAddr 65 x (.const (.int .i64 i)), ty, pos, after, g⟩).run Tryz.prog w = .ok (.value (.pointer (some ⟨b, o + i, none⟩))) w := by
  simp only [execOp, h, hc]
  go_simp
  try (intro hle; exact absurd hle (by omega))
theorem exStore5 {x y : Operand} {A : Addr} {n m : Int} (h : ρ x = .pointer (some A)) (h' : ρ y = .int .u8 n) (hc : w.cell? A = some (.int .u8 m)) (hf : w.frozen? A = false) : (execOp ρ ⟨d, .store 5 x y, ty, pos, after, g⟩).run Tryz.prog w = .ok .skip (w.setCell A (.int .u8 n)) := by
  simp only [execOp, h, h']; go_simp
end
def Zb (X : Nat → Int) (i : Nat) : Int := X (7 - i / 4) / 256 ^ (3 - i % 4) % 256
structure PB (w : World) (c p : Nat) (X : Nat → Int) (i : Nat) (wk : World) : Prop where
  done : ∀ j, i ≤ j → j < 32 → wk.cell? ⟨c, p + j, none⟩ = some (.int .u8 (Zb X j))
  all : ∀ j, j < 32 → ∃ y, wk.cell? ⟨c, p + j, none⟩ = some (.int .u8 y)
  fz : ∀ j, j < 32 → wk.frozen? ⟨c, p + j, none⟩ = false
  fr : Fr (Rng c p 32) w wk
theorem PB.step {w wk : World} {c p i : Nat} {X : Nat → Int} (h : PB w c p X (i + 1) wk) (hi : i < 32) : PB w c p X i (wk.setCell ⟨c, p + i, none⟩ (.int .u8 (Zb X i))) := by
  refine ⟨fun j h1 h2 => ?_, fun j hj => ?_, fun j hj => by rw [World.frozen?_setCell]; exact h.fz j hj, h.fr.setCell (b := c) (o := p + i) (fun _ => ⟨rfl, by omega, by omega⟩) _⟩
  · by_cases e : j = i
    · subst e
      obtain ⟨y, hy⟩ := h.all j h2
      exact (cellSet hy).trans (by simp)
    exact (cellSet (h.done j (by omega) h2)).trans (by simp [e])
  obtain ⟨y, hy⟩ := h.all j hj
  by_cases e : j = i
  · exact ⟨Zb X i, (cellSet hy).trans (by simp [e])⟩
  exact ⟨y, (cellSet hy).trans (by simp [e])⟩
def putOps0 (s k i : Nat) (pos : String) (f0 f1 f2 f3 f4 f5 f6 f7 f8 : Array Edge) : List Oper :=
  [⟨some s, .move (.tmp 1), 65, pos, f0, none⟩,
   ⟨some (s + 1), .move (.tmp 0), 51, pos, f1, none⟩,
   ⟨some (s + 2), .nilCheck (.tmp (s + 1)), 0, pos, f2, none⟩,
   ⟨some (s + 3), .fieldAddr 44 (.tmp (s + 2)) 0, 0, pos, f3, none⟩,
   ⟨some (s + 4), .indexAddr 42 (.tmp (s + 3)) (.const (.int .i64 k)), 0, pos, f4, none⟩,
   ⟨some (s + 5), .load 33 (.tmp (s + 4)), 33, pos, f5, none⟩,
   ⟨some (s + 6), .convert 33 5 (.tmp (s + 5)), 5, pos, f6, none⟩,
   ⟨some (s + 7), .indexAddr 65 (.tmp s) (.const (.int .i64 i)), 0, pos, f7, none⟩,
   ⟨none, .store 5 (.tmp (s + 7)) (.tmp (s + 6)), 0, pos, f8, none⟩]
theorem put_region0 {id s k i b o c p l cp : Nat} {pos : String} {f0 f1 f2 f3 f4 f5 f6 f7 f8 : Array Edge} {Q : Exit → Act → World → Prop} {a : Act} {w0 w : World} {X : Nat → Int} (hs : 2 ≤ s) (hz : s + 8 ≤ a.tmps.size)
    (e0 : a.eval (.tmp 0) = .pointer (some ⟨b, o, none⟩)) (e1 : a.eval (.tmp 1) = .slice (some ⟨c, p, none⟩) l cp) (hl : 32 ≤ l) (hx : W8 w0 b o X) (hbc : b ≠ c) (hP : PB w0 c p X (i + 1) w) (hi : i < 32) (hk : k = 7 - i / 4) (hr : i % 4 = 3)
    (h : ∀ a' w', Past a a' s → PB w0 c p X i w' → Q .normal a' w') : Code.wp Tryz.prog (.region id (putOps0 s k i pos f0 f1 f2 f3 f4 f5 f6 f7 f8).toArray false) Q a w := by
  have hxk := hx k (by omega)
  have hxc := hP.fr.someCell hxk.1 (fun f => hbc f.1)
  obtain ⟨y, hy⟩ := hP.all i hi
  have q := Past.refl a s
  refine wp_region_lit (l := putOps0 s k i pos f0 f1 f2 f3 f4 f5 f6 f7 f8) ?_
  change wpList _ _ _ [_, _, _, _, _, _, _, _, _] _ _
  refine wlPut (exMove e1) (by have := q.z; omega) ?_
  intro a0 p0
  replace q := q.put p0 (by omega)
  refine wlPut (exMove ((q.n 0 (by omega)).trans e0)) (by have := q.z; omega) ?_
  intro a1 p1
  replace q := q.put p1 (by omega)
  refine wlPut (exNil p1.v) (by have := q.z; omega) ?_
  intro a2 p2
  replace q := q.put p2 (by omega)
  refine wlPut (exField44 p2.v) (by have := q.z; omega) ?_
  intro a3 p3
  replace q := q.put p3 (by omega)
  refine wlPut (exIndex42 p3.v rfl (by omega)) (by have := q.z; omega) ?_
  intro a4 p4
  replace q := q.put p4 (by omega)
  refine wlPut (exLoad33 p4.v hxc) (by have := q.z; omega) ?_
  intro a5 p5
  replace q := q.put p5 (by omega)
  refine wlPut (exConvB p5.v) (by have := q.z; omega) ?_
  intro a6 p6
  replace q := q.put p6 (by omega)
  refine wlPut (exIndex65 ((p6.n _ (by omega)).trans ((p5.n _ (by omega)).trans ((p4.n _ (by omega)).trans ((p3.n _ (by omega)).trans ((p2.n _ (by omega)).trans ((p1.n _ (by omega)).trans (p0.v))))))) rfl (by omega)) (by have := q.z; omega) ?_
  intro a7 p7
  replace q := q.put p7 (by omega)
  have hZ : X k % 256 = Zb X i := by unfold Zb; rw [hr, ← hk]; simp
  refine wlSkip (exStore5 p7.v ((p7.n _ (by omega)).trans p6.v) hy (hP.fz i hi)) (wpList_nil ?_)
  rw [hZ]
  exact h _ _ q (hP.step hi)
def putOps8 (s k i : Nat) (pos : String) (f0 f1 f2 f3 f4 f5 f6 f7 f8 f9 : Array Edge) : List Oper :=
  [⟨some s, .move (.tmp 1), 65, pos, f0, none⟩,
   ⟨some (s + 1), .move (.tmp 0), 51, pos, f1, none⟩,
   ⟨some (s + 2), .nilCheck (.tmp (s + 1)), 0, pos, f2, none⟩,
   ⟨some (s + 3), .fieldAddr 44 (.tmp (s + 2)) 0, 0, pos, f3, none⟩,
   ⟨some (s + 4), .indexAddr 42 (.tmp (s + 3)) (.const (.int .i64 k)), 0, pos, f4, none⟩,
   ⟨some (s + 5), .load 33 (.tmp (s + 4)), 33, pos, f5, none⟩,
   ⟨some (s + 6), .binOp .shr 33 (.tmp (s + 5)) (.const (.int .u64 8)) 54, 33, pos, f6, none⟩,
   ⟨some (s + 7), .convert 33 5 (.tmp (s + 6)), 5, pos, f7, none⟩,
   ⟨some (s + 8), .indexAddr 65 (.tmp s) (.const (.int .i64 i)), 0, pos, f8, none⟩,
   ⟨none, .store 5 (.tmp (s + 8)) (.tmp (s + 7)), 0, pos, f9, none⟩]
theorem put_region8 {id s k i b o c p l cp : Nat} {pos : String} {f0 f1 f2 f3 f4 f5 f6 f7 f8 f9 : Array Edge} {Q : Exit → Act → World → Prop} {a : Act} {w0 w : World} {X : Nat → Int} (hs : 2 ≤ s) (hz : s + 9 ≤ a.tmps.size)
    (e0 : a.eval (.tmp 0) = .pointer (some ⟨b, o, none⟩)) (e1 : a.eval (.tmp 1) = .slice (some ⟨c, p, none⟩) l cp) (hl : 32 ≤ l) (hx : W8 w0 b o X) (hbc : b ≠ c) (hP : PB w0 c p X (i + 1) w) (hi : i < 32) (hk : k = 7 - i / 4) (hr : i % 4 = 2)
    (h : ∀ a' w', Past a a' s → PB w0 c p X i w' → Q .normal a' w') : Code.wp Tryz.prog (.region id (putOps8 s k i pos f0 f1 f2 f3 f4 f5 f6 f7 f8 f9).toArray false) Q a w := by
  have hxk := hx k (by omega)
  have hxc := hP.fr.someCell hxk.1 (fun f => hbc f.1)
  obtain ⟨y, hy⟩ := hP.all i hi
  have q := Past.refl a s
  refine wp_region_lit (l := putOps8 s k i pos f0 f1 f2 f3 f4 f5 f6 f7 f8 f9) ?_
  change wpList _ _ _ [_, _, _, _, _, _, _, _, _, _] _ _
  refine wlPut (exMove e1) (by have := q.z; omega) ?_
  intro a0 p0
  replace q := q.put p0 (by omega)
  refine wlPut (exMove ((q.n 0 (by omega)).trans e0)) (by have := q.z; omega) ?_
  intro a1 p1
  replace q := q.put p1 (by omega)
  refine wlPut (exNil p1.v) (by have := q.z; omega) ?_
  intro a2 p2
  replace q := q.put p2 (by omega)
  refine wlPut (exField44 p2.v) (by have := q.z; omega) ?_
  intro a3 p3
  replace q := q.put p3 (by omega)
  refine wlPut (exIndex42 p3.v rfl (by omega)) (by have := q.z; omega) ?_
  intro a4 p4
  replace q := q.put p4 (by omega)
  refine wlPut (exLoad33 p4.v hxc) (by have := q.z; omega) ?_
  intro a5 p5
  replace q := q.put p5 (by omega)
  refine wlPut (exShr8 p5.v rfl hxk.2) (by have := q.z; omega) ?_
  intro a6 p6
  replace q := q.put p6 (by omega)
  refine wlPut (exConvB p6.v) (by have := q.z; omega) ?_
  intro a7 p7
  replace q := q.put p7 (by omega)
  refine wlPut (exIndex65 ((p7.n _ (by omega)).trans ((p6.n _ (by omega)).trans ((p5.n _ (by omega)).trans ((p4.n _ (by omega)).trans ((p3.n _ (by omega)).trans ((p2.n _ (by omega)).trans ((p1.n _ (by omega)).trans (p0.v)))))))) rfl (by omega)) (by have := q.z; omega) ?_
  intro a8 p8
  replace q := q.put p8 (by omega)
  have hZ : X k / 256 % 256 = Zb X i := by unfold Zb; rw [hr, ← hk]; rfl
  refine wlSkip (exStore5 p8.v ((p8.n _ (by omega)).trans p7.v) hy (hP.fz i hi)) (wpList_nil ?_)
  rw [hZ]
  exact h _ _ q (hP.step hi)
def putOps16 (s k i : Nat) (pos : String) (f0 f1 f2 f3 f4 f5 f6 f7 f8 f9 : Array Edge) : List Oper :=
  [⟨some s, .move (.tmp 1), 65, pos, f0, none⟩,
   ⟨some (s + 1), .move (.tmp 0), 51, pos, f1, none⟩,
   ⟨some (s + 2), .nilCheck (.tmp (s + 1)), 0, pos, f2, none⟩,
   ⟨some (s + 3), .fieldAddr 44 (.tmp (s + 2)) 0, 0, pos, f3, none⟩,
   ⟨some (s + 4), .indexAddr 42 (.tmp (s + 3)) (.const (.int .i64 k)), 0, pos, f4, none⟩,
   ⟨some (s + 5), .load 33 (.tmp (s + 4)), 33, pos, f5, none⟩,
   ⟨some (s + 6), .binOp .shr 33 (.tmp (s + 5)) (.const (.int .u64 16)) 54, 33, pos, f6, none⟩,
   ⟨some (s + 7), .convert 33 5 (.tmp (s + 6)), 5, pos, f7, none⟩,
   ⟨some (s + 8), .indexAddr 65 (.tmp s) (.const (.int .i64 i)), 0, pos, f8, none⟩,
   ⟨none, .store 5 (.tmp (s + 8)) (.tmp (s + 7)), 0, pos, f9, none⟩]
theorem put_region16 {id s k i b o c p l cp : Nat} {pos : String} {f0 f1 f2 f3 f4 f5 f6 f7 f8 f9 : Array Edge} {Q : Exit → Act → World → Prop} {a : Act} {w0 w : World} {X : Nat → Int} (hs : 2 ≤ s) (hz : s + 9 ≤ a.tmps.size)
    (e0 : a.eval (.tmp 0) = .pointer (some ⟨b, o, none⟩)) (e1 : a.eval (.tmp 1) = .slice (some ⟨c, p, none⟩) l cp) (hl : 32 ≤ l) (hx : W8 w0 b o X) (hbc : b ≠ c) (hP : PB w0 c p X (i + 1) w) (hi : i < 32) (hk : k = 7 - i / 4) (hr : i % 4 = 1)
    (h : ∀ a' w', Past a a' s → PB w0 c p X i w' → Q .normal a' w') : Code.wp Tryz.prog (.region id (putOps16 s k i pos f0 f1 f2 f3 f4 f5 f6 f7 f8 f9).toArray false) Q a w := by
  have hxk := hx k (by omega)
  have hxc := hP.fr.someCell hxk.1 (fun f => hbc f.1)
  obtain ⟨y, hy⟩ := hP.all i hi
  have q := Past.refl a s
  refine wp_region_lit (l := putOps16 s k i pos f0 f1 f2 f3 f4 f5 f6 f7 f8 f9) ?_
  change wpList _ _ _ [_, _, _, _, _, _, _, _, _, _] _ _
  refine wlPut (exMove e1) (by have := q.z; omega) ?_
  intro a0 p0
  replace q := q.put p0 (by omega)
  refine wlPut (exMove ((q.n 0 (by omega)).trans e0)) (by have := q.z; omega) ?_
  intro a1 p1
  replace q := q.put p1 (by omega)
  refine wlPut (exNil p1.v) (by have := q.z; omega) ?_
  intro a2 p2
  replace q := q.put p2 (by omega)
  refine wlPut (exField44 p2.v) (by have := q.z; omega) ?_
  intro a3 p3
  replace q := q.put p3 (by omega)
  refine wlPut (exIndex42 p3.v rfl (by omega)) (by have := q.z; omega) ?_
  intro a4 p4
  replace q := q.put p4 (by omega)
  refine wlPut (exLoad33 p4.v hxc) (by have := q.z; omega) ?_
  intro a5 p5
  replace q := q.put p5 (by omega)
  refine wlPut (exShr16 p5.v rfl hxk.2) (by have := q.z; omega) ?_
  intro a6 p6
  replace q := q.put p6 (by omega)
  refine wlPut (exConvB p6.v) (by have := q.z; omega) ?_
  intro a7 p7
  replace q := q.put p7 (by omega)
  refine wlPut (exIndex65 ((p7.n _ (by omega)).trans ((p6.n _ (by omega)).trans ((p5.n _ (by omega)).trans ((p4.n _ (by omega)).trans ((p3.n _ (by omega)).trans ((p2.n _ (by omega)).trans ((p1.n _ (by omega)).trans (p0.v)))))))) rfl (by omega)) (by have := q.z; omega) ?_
  intro a8 p8
  replace q := q.put p8 (by omega)
  have hZ : X k / 65536 % 256 = Zb X i := by unfold Zb; rw [hr, ← hk]; rfl
  refine wlSkip (exStore5 p8.v ((p8.n _ (by omega)).trans p7.v) hy (hP.fz i hi)) (wpList_nil ?_)
  rw [hZ]
  exact h _ _ q (hP.step hi)
def putOps24 (s k i : Nat) (pos : String) (f0 f1 f2 f3 f4 f5 f6 f7 f8 f9 : Array Edge) : List Oper :=
  [⟨some s, .move (.tmp 1), 65, pos, f0, none⟩,
   ⟨some (s + 1), .move (.tmp 0), 51, pos, f1, none⟩,
   ⟨some (s + 2), .nilCheck (.tmp (s + 1)), 0, pos, f2, none⟩,
   ⟨some (s + 3), .fieldAddr 44 (.tmp (s + 2)) 0, 0, pos, f3, none⟩,
   ⟨some (s + 4), .indexAddr 42 (.tmp (s + 3)) (.const (.int .i64 k)), 0, pos, f4, none⟩,
   ⟨some (s + 5), .load 33 (.tmp (s + 4)), 33, pos, f5, none⟩,
   ⟨some (s + 6), .binOp .shr 33 (.tmp (s + 5)) (.const (.int .u64 24)) 54, 33, pos, f6, none⟩,
   ⟨some (s + 7), .convert 33 5 (.tmp (s + 6)), 5, pos, f7, none⟩,
   ⟨some (s + 8), .indexAddr 65 (.tmp s) (.const (.int .i64 i)), 0, pos, f8, none⟩,
   ⟨none, .store 5 (.tmp (s + 8)) (.tmp (s + 7)), 0, pos, f9, none⟩]
theorem put_region24 {id s k i b o c p l cp : Nat} {pos : String} {f0 f1 f2 f3 f4 f5 f6 f7 f8 f9 : Array Edge} {Q : Exit → Act → World → Prop} {a : Act} {w0 w : World} {X : Nat → Int} (hs : 2 ≤ s) (hz : s + 9 ≤ a.tmps.size)
    (e0 : a.eval (.tmp 0) = .pointer (some ⟨b, o, none⟩)) (e1 : a.eval (.tmp 1) = .slice (some ⟨c, p, none⟩) l cp) (hl : 32 ≤ l) (hx : W8 w0 b o X) (hbc : b ≠ c) (hP : PB w0 c p X (i + 1) w) (hi : i < 32) (hk : k = 7 - i / 4) (hr : i % 4 = 0)
    (h : ∀ a' w', Past a a' s → PB w0 c p X i w' → Q .normal a' w') : Code.wp Tryz.prog (.region id (putOps24 s k i pos f0 f1 f2 f3 f4 f5 f6 f7 f8 f9).toArray false) Q a w := by
  have hxk := hx k (by omega)
  have hxc := hP.fr.someCell hxk.1 (fun f => hbc f.1)
  obtain ⟨y, hy⟩ := hP.all i hi
  have q := Past.refl a s
  refine wp_region_lit (l := putOps24 s k i pos f0 f1 f2 f3 f4 f5 f6 f7 f8 f9) ?_
  change wpList _ _ _ [_, _, _, _, _, _, _, _, _, _] _ _
  refine wlPut (exMove e1) (by have := q.z; omega) ?_
  intro a0 p0
  replace q := q.put p0 (by omega)
  refine wlPut (exMove ((q.n 0 (by omega)).trans e0)) (by have := q.z; omega) ?_
  intro a1 p1
  replace q := q.put p1 (by omega)
  refine wlPut (exNil p1.v) (by have := q.z; omega) ?_
  intro a2 p2
  replace q := q.put p2 (by omega)
  refine wlPut (exField44 p2.v) (by have := q.z; omega) ?_
  intro a3 p3
  replace q := q.put p3 (by omega)
  refine wlPut (exIndex42 p3.v rfl (by omega)) (by have := q.z; omega) ?_
  intro a4 p4
  replace q := q.put p4 (by omega)
  refine wlPut (exLoad33 p4.v hxc) (by have := q.z; omega) ?_
  intro a5 p5
  replace q := q.put p5 (by omega)
  refine wlPut (exShr24 p5.v rfl hxk.2) (by have := q.z; omega) ?_
  intro a6 p6
  replace q := q.put p6 (by omega)
  refine wlPut (exConvB p6.v) (by have := q.z; omega) ?_
  intro a7 p7
  replace q := q.put p7 (by omega)
  refine wlPut (exIndex65 ((p7.n _ (by omega)).trans ((p6.n _ (by omega)).trans ((p5.n _ (by omega)).trans ((p4.n _ (by omega)).trans ((p3.n _ (by omega)).trans ((p2.n _ (by omega)).trans ((p1.n _ (by omega)).trans (p0.v)))))))) rfl (by omega)) (by have := q.z; omega) ?_
  intro a8 p8
  replace q := q.put p8 (by omega)
  have hZ : X k / 16777216 % 256 = Zb X i := by unfold Zb; rw [hr, ← hk]; rfl
  refine wlSkip (exStore5 p8.v ((p8.n _ (by omega)).trans p7.v) hy (hP.fz i hi)) (wpList_nil ?_)
  rw [hZ]
  exact h _ _ q (hP.step hi)
set_option maxRecDepth 100000 in
theorem putBytes_walk (b o c p l cp : Nat) (X : Nat → Int) (w : World) (hx : W8 w b o X) (hbc : b ≠ c) (hl : 32 ≤ l) (hP : PB w c p X 32 w) :
    Calls Tryz.prog 43 #[.pointer (some ⟨b, o, none⟩), .slice (some ⟨c, p, none⟩) l cp] w fun e w' => e = .returned (.tuple #[]) ∧ PB w c p X 0 w' := by
  refine enterA Tryz.func43 rfl (fun a0 z0 d0 ha => ?_)
  have e0 := ha 0 _ rfl
  have e1 := ha 1 _ rfl
  replace z0 : a0.tmps.size = 284 := z0
  refine wp_seq (put_region0 (s := 4) (k := 0) (i := 31) (by decide) (by rw [z0]; decide) e0 e1 hl hx hbc hP (by decide) (by decide) (by decide) (fun a' w' q hP' => Exit.at_normal ?_))
  replace e0 := (q.n 0 (by decide)).trans e0; replace e1 := (q.n 1 (by decide)).trans e1; replace z0 := q.z.trans z0; replace d0 := q.f.trans d0; clear hP; have hP := hP'; clear hP' q
  refine wp_seq (put_region8 (s := 12) (k := 0) (i := 30) (by decide) (by rw [z0]; decide) e0 e1 hl hx hbc hP (by decide) (by decide) (by decide) (fun a' w' q hP' => Exit.at_normal ?_))
  replace e0 := (q.n 0 (by decide)).trans e0; replace e1 := (q.n 1 (by decide)).trans e1; replace z0 := q.z.trans z0; replace d0 := q.f.trans d0; clear hP; have hP := hP'; clear hP' q
  refine wp_seq (put_region16 (s := 21) (k := 0) (i := 29) (by decide) (by rw [z0]; decide) e0 e1 hl hx hbc hP (by decide) (by decide) (by decide) (fun a' w' q hP' => Exit.at_normal ?_))
  replace e0 := (q.n 0 (by decide)).trans e0; replace e1 := (q.n 1 (by decide)).trans e1; replace z0 := q.z.trans z0; replace d0 := q.f.trans d0; clear hP; have hP := hP'; clear hP' q
  refine wp_seq (put_region24 (s := 30) (k := 0) (i := 28) (by decide) (by rw [z0]; decide) e0 e1 hl hx hbc hP (by decide) (by decide) (by decide) (fun a' w' q hP' => Exit.at_normal ?_))
  replace e0 := (q.n 0 (by decide)).trans e0; replace e1 := (q.n 1 (by decide)).trans e1; replace z0 := q.z.trans z0; replace d0 := q.f.trans d0; clear hP; have hP := hP'; clear hP' q
  refine wp_seq (put_region0 (s := 39) (k := 1) (i := 27) (by decide) (by rw [z0]; decide) e0 e1 hl hx hbc hP (by decide) (by decide) (by decide) (fun a' w' q hP' => Exit.at_normal ?_))
  replace e0 := (q.n 0 (by decide)).trans e0; replace e1 := (q.n 1 (by decide)).trans e1; replace z0 := q.z.trans z0; replace d0 := q.f.trans d0; clear hP; have hP := hP'; clear hP' q
  refine wp_seq (put_region8 (s := 47) (k := 1) (i := 26) (by decide) (by rw [z0]; decide) e0 e1 hl hx hbc hP (by decide) (by decide) (by decide) (fun a' w' q hP' => Exit.at_normal ?_))
  replace e0 := (q.n 0 (by decide)).trans e0; replace e1 := (q.n 1 (by decide)).trans e1; replace z0 := q.z.trans z0; replace d0 := q.f.trans d0; clear hP; have hP := hP'; clear hP' q
  refine wp_seq (put_region16 (s := 56) (k := 1) (i := 25) (by decide) (by rw [z0]; decide) e0 e1 hl hx hbc hP (by decide) (by decide) (by decide) (fun a' w' q hP' => Exit.at_normal ?_))
  replace e0 := (q.n 0 (by decide)).trans e0; replace e1 := (q.n 1 (by decide)).trans e1; replace z0 := q.z.trans z0; replace d0 := q.f.trans d0; clear hP; have hP := hP'; clear hP' q
  refine wp_seq (put_region24 (s := 65) (k := 1) (i := 24) (by decide) (by rw [z0]; decide) e0 e1 hl hx hbc hP (by decide) (by decide) (by decide) (fun a' w' q hP' => Exit.at_normal ?_))
  replace e0 := (q.n 0 (by decide)).trans e0; replace e1 := (q.n 1 (by decide)).trans e1; replace z0 := q.z.trans z0; replace d0 := q.f.trans d0; clear hP; have hP := hP'; clear hP' q
  refine wp_seq (put_region0 (s := 74) (k := 2) (i := 23) (by decide) (by rw [z0]; decide) e0 e1 hl hx hbc hP (by decide) (by decide) (by decide) (fun a' w' q hP' => Exit.at_normal ?_))
  replace e0 := (q.n 0 (by decide)).trans e0; replace e1 := (q.n 1 (by decide)).trans e1; replace z0 := q.z.trans z0; replace d0 := q.f.trans d0; clear hP; have hP := hP'; clear hP' q
  refine wp_seq (put_region8 (s := 82) (k := 2) (i := 22) (by decide) (by rw [z0]; decide) e0 e1 hl hx hbc hP (by decide) (by decide) (by decide) (fun a' w' q hP' => Exit.at_normal ?_))
  replace e0 := (q.n 0 (by decide)).trans e0; replace e1 := (q.n 1 (by decide)).trans e1; replace z0 := q.z.trans z0; replace d0 := q.f.trans d0; clear hP; have hP := hP'; clear hP' q
  refine wp_seq (put_region16 (s := 91) (k := 2) (i := 21) (by decide) (by rw [z0]; decide) e0 e1 hl hx hbc hP (by decide) (by decide) (by decide) (fun a' w' q hP' => Exit.at_normal ?_))
  replace e0 := (q.n 0 (by decide)).trans e0; replace e1 := (q.n 1 (by decide)).trans e1; replace z0 := q.z.trans z0; replace d0 := q.f.trans d0; clear hP; have hP := hP'; clear hP' q
  refine wp_seq (put_region24 (s := 100) (k := 2) (i := 20) (by decide) (by rw [z0]; decide) e0 e1 hl hx hbc hP (by decide) (by decide) (by decide) (fun a' w' q hP' => Exit.at_normal ?_))
  replace e0 := (q.n 0 (by decide)).trans e0; replace e1 := (q.n 1 (by decide)).trans e1; replace z0 := q.z.trans z0; replace d0 := q.f.trans d0; clear hP; have hP := hP'; clear hP' q
  refine wp_seq (put_region0 (s := 109) (k := 3) (i := 19) (by decide) (by rw [z0]; decide) e0 e1 hl hx hbc hP (by decide) (by decide) (by decide) (fun a' w' q hP' => Exit.at_normal ?_))
  replace e0 := (q.n 0 (by decide)).trans e0; replace e1 := (q.n 1 (by decide)).trans e1; replace z0 := q.z.trans z0; replace d0 := q.f.trans d0; clear hP; have hP := hP'; clear hP' q
  refine wp_seq (put_region8 (s := 117) (k := 3) (i := 18) (by decide) (by rw [z0]; decide) e0 e1 hl hx hbc hP (by decide) (by decide) (by decide) (fun a' w' q hP' => Exit.at_normal ?_))
  replace e0 := (q.n 0 (by decide)).trans e0; replace e1 := (q.n 1 (by decide)).trans e1; replace z0 := q.z.trans z0; replace d0 := q.f.trans d0; clear hP; have hP := hP'; clear hP' q
  refine wp_seq (put_region16 (s := 126) (k := 3) (i := 17) (by decide) (by rw [z0]; decide) e0 e1 hl hx hbc hP (by decide) (by decide) (by decide) (fun a' w' q hP' => Exit.at_normal ?_))
  replace e0 := (q.n 0 (by decide)).trans e0; replace e1 := (q.n 1 (by decide)).trans e1; replace z0 := q.z.trans z0; replace d0 := q.f.trans d0; clear hP; have hP := hP'; clear hP' q
  refine wp_seq (put_region24 (s := 135) (k := 3) (i := 16) (by decide) (by rw [z0]; decide) e0 e1 hl hx hbc hP (by decide) (by decide) (by decide) (fun a' w' q hP' => Exit.at_normal ?_))
  replace e0 := (q.n 0 (by decide)).trans e0; replace e1 := (q.n 1 (by decide)).trans e1; replace z0 := q.z.trans z0; replace d0 := q.f.trans d0; clear hP; have hP := hP'; clear hP' q
  refine wp_seq (put_region0 (s := 144) (k := 4) (i := 15) (by decide) (by rw [z0]; decide) e0 e1 hl hx hbc hP (by decide) (by decide) (by decide) (fun a' w' q hP' => Exit.at_normal ?_))
  replace e0 := (q.n 0 (by decide)).trans e0; replace e1 := (q.n 1 (by decide)).trans e1; replace z0 := q.z.trans z0; replace d0 := q.f.trans d0; clear hP; have hP := hP'; clear hP' q
  refine wp_seq (put_region8 (s := 152) (k := 4) (i := 14) (by decide) (by rw [z0]; decide) e0 e1 hl hx hbc hP (by decide) (by decide) (by decide) (fun a' w' q hP' => Exit.at_normal ?_))
  replace e0 := (q.n 0 (by decide)).trans e0; replace e1 := (q.n 1 (by decide)).trans e1; replace z0 := q.z.trans z0; replace d0 := q.f.trans d0; clear hP; have hP := hP'; clear hP' q
  refine wp_seq (put_region16 (s := 161) (k := 4) (i := 13) (by decide) (by rw [z0]; decide) e0 e1 hl hx hbc hP (by decide) (by decide) (by decide) (fun a' w' q hP' => Exit.at_normal ?_))
  replace e0 := (q.n 0 (by decide)).trans e0; replace e1 := (q.n 1 (by decide)).trans e1; replace z0 := q.z.trans z0; replace d0 := q.f.trans d0; clear hP; have hP := hP'; clear hP' q
  refine wp_seq (put_region24 (s := 170) (k := 4) (i := 12) (by decide) (by rw [z0]; decide) e0 e1 hl hx hbc hP (by decide) (by decide) (by decide) (fun a' w' q hP' => Exit.at_normal ?_))
  replace e0 := (q.n 0 (by decide)).trans e0; replace e1 := (q.n 1 (by decide)).trans e1; replace z0 := q.z.trans z0; replace d0 := q.f.trans d0; clear hP; have hP := hP'; clear hP' q
  refine wp_seq (put_region0 (s := 179) (k := 5) (i := 11) (by decide) (by rw [z0]; decide) e0 e1 hl hx hbc hP (by decide) (by decide) (by decide) (fun a' w' q hP' => Exit.at_normal ?_))
  replace e0 := (q.n 0 (by decide)).trans e0; replace e1 := (q.n 1 (by decide)).trans e1; replace z0 := q.z.trans z0; replace d0 := q.f.trans d0; clear hP; have hP := hP'; clear hP' q
  refine wp_seq (put_region8 (s := 187) (k := 5) (i := 10) (by decide) (by rw [z0]; decide) e0 e1 hl hx hbc hP (by decide) (by decide) (by decide) (fun a' w' q hP' => Exit.at_normal ?_))
  replace e0 := (q.n 0 (by decide)).trans e0; replace e1 := (q.n 1 (by decide)).trans e1; replace z0 := q.z.trans z0; replace d0 := q.f.trans d0; clear hP; have hP := hP'; clear hP' q
  refine wp_seq (put_region16 (s := 196) (k := 5) (i := 9) (by decide) (by rw [z0]; decide) e0 e1 hl hx hbc hP (by decide) (by decide) (by decide) (fun a' w' q hP' => Exit.at_normal ?_))
  replace e0 := (q.n 0 (by decide)).trans e0; replace e1 := (q.n 1 (by decide)).trans e1; replace z0 := q.z.trans z0; replace d0 := q.f.trans d0; clear hP; have hP := hP'; clear hP' q
  refine wp_seq (put_region24 (s := 205) (k := 5) (i := 8) (by decide) (by rw [z0]; decide) e0 e1 hl hx hbc hP (by decide) (by decide) (by decide) (fun a' w' q hP' => Exit.at_normal ?_))
  replace e0 := (q.n 0 (by decide)).trans e0; replace e1 := (q.n 1 (by decide)).trans e1; replace z0 := q.z.trans z0; replace d0 := q.f.trans d0; clear hP; have hP := hP'; clear hP' q
  refine wp_seq (put_region0 (s := 214) (k := 6) (i := 7) (by decide) (by rw [z0]; decide) e0 e1 hl hx hbc hP (by decide) (by decide) (by decide) (fun a' w' q hP' => Exit.at_normal ?_))
  replace e0 := (q.n 0 (by decide)).trans e0; replace e1 := (q.n 1 (by decide)).trans e1; replace z0 := q.z.trans z0; replace d0 := q.f.trans d0; clear hP; have hP := hP'; clear hP' q
  refine wp_seq (put_region8 (s := 222) (k := 6) (i := 6) (by decide) (by rw [z0]; decide) e0 e1 hl hx hbc hP (by decide) (by decide) (by decide) (fun a' w' q hP' => Exit.at_normal ?_))
  replace e0 := (q.n 0 (by decide)).trans e0; replace e1 := (q.n 1 (by decide)).trans e1; replace z0 := q.z.trans z0; replace d0 := q.f.trans d0; clear hP; have hP := hP'; clear hP' q
  refine wp_seq (put_region16 (s := 231) (k := 6) (i := 5) (by decide) (by rw [z0]; decide) e0 e1 hl hx hbc hP (by decide) (by decide) (by decide) (fun a' w' q hP' => Exit.at_normal ?_))
  replace e0 := (q.n 0 (by decide)).trans e0; replace e1 := (q.n 1 (by decide)).trans e1; replace z0 := q.z.trans z0; replace d0 := q.f.trans d0; clear hP; have hP := hP'; clear hP' q
  refine wp_seq (put_region24 (s := 240) (k := 6) (i := 4) (by decide) (by rw [z0]; decide) e0 e1 hl hx hbc hP (by decide) (by decide) (by decide) (fun a' w' q hP' => Exit.at_normal ?_))
  replace e0 := (q.n 0 (by decide)).trans e0; replace e1 := (q.n 1 (by decide)).trans e1; replace z0 := q.z.trans z0; replace d0 := q.f.trans d0; clear hP; have hP := hP'; clear hP' q
  refine wp_seq (put_region0 (s := 249) (k := 7) (i := 3) (by decide) (by rw [z0]; decide) e0 e1 hl hx hbc hP (by decide) (by decide) (by decide) (fun a' w' q hP' => Exit.at_normal ?_))
  replace e0 := (q.n 0 (by decide)).trans e0; replace e1 := (q.n 1 (by decide)).trans e1; replace z0 := q.z.trans z0; replace d0 := q.f.trans d0; clear hP; have hP := hP'; clear hP' q
  refine wp_seq (put_region8 (s := 257) (k := 7) (i := 2) (by decide) (by rw [z0]; decide) e0 e1 hl hx hbc hP (by decide) (by decide) (by decide) (fun a' w' q hP' => Exit.at_normal ?_))
  replace e0 := (q.n 0 (by decide)).trans e0; replace e1 := (q.n 1 (by decide)).trans e1; replace z0 := q.z.trans z0; replace d0 := q.f.trans d0; clear hP; have hP := hP'; clear hP' q
  refine wp_seq (put_region16 (s := 266) (k := 7) (i := 1) (by decide) (by rw [z0]; decide) e0 e1 hl hx hbc hP (by decide) (by decide) (by decide) (fun a' w' q hP' => Exit.at_normal ?_))
  replace e0 := (q.n 0 (by decide)).trans e0; replace e1 := (q.n 1 (by decide)).trans e1; replace z0 := q.z.trans z0; replace d0 := q.f.trans d0; clear hP; have hP := hP'; clear hP' q
  refine put_region24 (s := 275) (k := 7) (i := 0) (by decide) (by rw [z0]; decide) e0 e1 hl hx hbc hP (by decide) (by decide) (by decide) (fun a' w' q hP' => ?_)
  replace e0 := (q.n 0 (by decide)).trans e0; replace e1 := (q.n 1 (by decide)).trans e1; replace z0 := q.z.trans z0; replace d0 := q.f.trans d0; clear hP; have hP := hP'; clear hP' q
  exact endA rfl d0 ⟨rfl, hP⟩
section
set_option maxRecDepth 8000
section
variable {a : Act} {N : Nat} {ds : List Deferred} {l : Env} {w : World} {d : Option Nat} {ty : TypeId} {pos : String} {after : Array Edge} {g : Option (Nat × Bool)}
theorem Ez.ix42 (H : Hd a N ds l) {x y : Operand} {b o : Nat} {k : IntKind} {i : Int} (h : ov l x = some (.pointer (some ⟨b, o, none⟩))) (h' : ov l y = some (.int k i)) (j : Nat) (hj : i = (j : Int)) (hn : j < 8) : (execOp a.eval ⟨d, .indexAddr 42 x y, ty, pos, after, g⟩).run Tryz.prog w = .ok (.value (.pointer (some ⟨b, o + j, none⟩))) w := by
  have e := H.o h
  have e' := H.o h'
  subst hj
  have h1 : (0 : Int) ≤ (j : Int) ∧ (j : Int) < 8 := by omega
  simp only [execOp, e, e']
  go_simp
  try (intro hle; exact absurd hle (by omega))
end
theorem or32_zero {x y : Int} (hx : U32 x) (hy : U32 y) : U32 (bits .or .u32 x y) ∧ (bits .or .u32 x y = 0 ↔ x = 0 ∧ y = 0) := by
  obtain ⟨x, rfl⟩ := Int.eq_ofNat_of_zero_le hx.1
  obtain ⟨y, rfl⟩ := Int.eq_ofNat_of_zero_le hy.1
  have h1 := hx.2
  have h2 := hy.2
  rw [u32_or_nat x y (by omega) (by omega)]
  have hb : x ||| y < 2 ^ 32 := Nat.or_lt_two_pow (by omega) (by omega)
  refine ⟨⟨by omega, by have : (2 : Nat) ^ 32 = 4294967296 := by decide
                        omega⟩, ?_⟩
  have : x ||| y = 0 ↔ x = 0 ∧ y = 0 := Nat.or_eq_zero_iff
  omega
theorem xor32_z {x y : Int} (hx : U32 x) (hy : U32 y) : U32 (bits .xor .u32 x y) ∧ (bits .xor .u32 x y = 0 ↔ x = y) := by
  obtain ⟨x, rfl⟩ := Int.eq_ofNat_of_zero_le hx.1
  obtain ⟨y, rfl⟩ := Int.eq_ofNat_of_zero_le hy.1
  have h1 := hx.2
  have h2 := hy.2
  rw [u32_xor_nat x y (by omega) (by omega)]
  have hb : x ^^^ y < 2 ^ 32 := Nat.xor_lt_two_pow (by omega) (by omega)
  refine ⟨⟨by omega, by have : (2 : Nat) ^ 32 = 4294967296 := by decide
                        omega⟩, ?_⟩
  have : x ^^^ y = 0 ↔ x = y := by
    constructor
    · intro h
      have h3 : (x ^^^ y) ^^^ y = 0 ^^^ y := by rw [h]
      rwa [Nat.xor_assoc, Nat.xor_self, Nat.xor_zero, Nat.zero_xor] at h3
    rintro rfl; exact Nat.xor_self _
  omega
end
section
set_option maxRecDepth 8000
theorem val8_zero {n0 n1 n2 n3 n4 n5 n6 n7 : Int} (u0 : U32 n0) (u1 : U32 n1) (u2 : U32 n2) (u3 : U32 n3) (u4 : U32 n4) (u5 : U32 n5) (u6 : U32 n6) (u7 : U32 n7) : val8 n0 n1 n2 n3 n4 n5 n6 n7 = 0 ↔ n0 = 0 ∧ n1 = 0 ∧ n2 = 0 ∧ n3 = 0 ∧ n4 = 0 ∧ n5 = 0 ∧ n6 = 0 ∧ n7 = 0 := by
  unfold U32 at *; unfold val8; omega
theorem val8_eq {n0 n1 n2 n3 n4 n5 n6 n7 m0 m1 m2 m3 m4 m5 m6 m7 : Int} (u0 : U32 n0) (u1 : U32 n1) (u2 : U32 n2) (u3 : U32 n3) (u4 : U32 n4) (u5 : U32 n5) (u6 : U32 n6) (u7 : U32 n7) (w0 : U32 m0) (w1 : U32 m1) (w2 : U32 m2) (w3 : U32 m3) (w4 : U32 m4) (w5 : U32 m5) (w6 : U32 m6) (w7 : U32 m7) :
    val8 n0 n1 n2 n3 n4 n5 n6 n7 = val8 m0 m1 m2 m3 m4 m5 m6 m7 ↔ n0 = m0 ∧ n1 = m1 ∧ n2 = m2 ∧ n3 = m3 ∧ n4 = m4 ∧ n5 = m5 ∧ n6 = m6 ∧ n7 = m7 := by
  unfold U32 at *; unfold val8; omega
theorem scIsZero (b o : Nat) (x : Int) (w : World) (hx : Sc w b o x) :
    Calls Tryz.prog 20 #[.pointer (some ⟨b, o, none⟩)] w fun e w' => e = .returned (.bool (decide (x = 0))) ∧ Cd w w' := by
  obtain ⟨n0, n1, n2, n3, n4, n5, n6, n7, ⟨c0, c1, c2, c3, c4, c5, c6, c7, u0, u1, u2, u3, u4, u5, u6, u7⟩, rfl⟩ := hx
  refine enterE (vs := [.pointer (some ⟨b, o, none⟩)]) Tryz.func20 rfl rfl ?_
  intro a H
  replace H : Hd a 53 [] [(0, .pointer (some ⟨b, o, none⟩))] := H
  refine wp_seq (wp_region_lit (l := [_]) (wl H (Ez.asn H rfl) rfl (kW (kS ?_)))); clear H a; intro a H
  refine regionQ (ls := [_, _, _, _, _, _, _, _, _, _, _, _, _, _, _, _, _, _, _, _, _, _, _, _, _, _, _, _, _, _, _, _, _, _, _, _, _, _, _, _, _, _, _, _, _, _, _, _]) follows_mixed (by kernel_rfl) (wq H (fun w2 hw2 => Ez.mv H rfl) rfl (jN rfl rfl (jL (fun a H w2 hw2 => Ez.fa44_0 H rfl) rfl (jL (fun a H w2 hw2 => Ez.ix42 H rfl rfl 0 rfl (by omega)) rfl (jL (fun a H w2 hw2 => Ez.ld33 H rfl (hw2.cell c0)) rfl (jM rfl rfl (jN rfl rfl (jL (fun a H w2 hw2 => Ez.fa44_0 H rfl) rfl (jL (fun a H w2 hw2 => Ez.ix42 H rfl rfl 1 rfl (by omega)) rfl (jL (fun a H w2 hw2 => Ez.ld33 H rfl (hw2.cell c1)) rfl (jL (fun a H w2 hw2 => Ez.or H rfl rfl (rfl)) rfl (jM rfl rfl (jN rfl rfl (jL (fun a H w2 hw2 => Ez.fa44_0 H rfl) rfl (jL (fun a H w2 hw2 => Ez.ix42 H rfl rfl 2 rfl (by omega)) rfl (jL (fun a H w2 hw2 => Ez.ld33 H rfl (hw2.cell c2)) rfl (jL (fun a H w2 hw2 => Ez.or H rfl rfl (rfl)) rfl (jM rfl rfl (jN rfl rfl (jL (fun a H w2 hw2 => Ez.fa44_0 H rfl) rfl (jL (fun a H w2 hw2 => Ez.ix42 H rfl rfl 3 rfl (by omega)) rfl (jL (fun a H w2 hw2 => Ez.ld33 H rfl (hw2.cell c3)) rfl (jL (fun a H w2 hw2 => Ez.or H rfl rfl (rfl)) rfl (jM rfl rfl (jN rfl rfl (jL (fun a H w2 hw2 => Ez.fa44_0 H rfl) rfl (jL (fun a H w2 hw2 => Ez.ix42 H rfl rfl 4 rfl (by omega)) rfl ?_))))))))))))))))))))))))))); clear H a; intro a H
  refine wq H (fun w2 hw2 => Ez.ld33 H rfl (hw2.cell c4)) rfl (jL (fun a H w2 hw2 => Ez.or H rfl rfl (rfl)) rfl (jM rfl rfl (jN rfl rfl (jL (fun a H w2 hw2 => Ez.fa44_0 H rfl) rfl (jL (fun a H w2 hw2 => Ez.ix42 H rfl rfl 5 rfl (by omega)) rfl (jL (fun a H w2 hw2 => Ez.ld33 H rfl (hw2.cell c5)) rfl (jL (fun a H w2 hw2 => Ez.or H rfl rfl (rfl)) rfl (jM rfl rfl (jN rfl rfl (jL (fun a H w2 hw2 => Ez.fa44_0 H rfl) rfl (jL (fun a H w2 hw2 => Ez.ix42 H rfl rfl 6 rfl (by omega)) rfl (jL (fun a H w2 hw2 => Ez.ld33 H rfl (hw2.cell c6)) rfl (jL (fun a H w2 hw2 => Ez.or H rfl rfl (rfl)) rfl (jM rfl rfl (jN rfl rfl (jL (fun a H w2 hw2 => Ez.fa44_0 H rfl) rfl (jL (fun a H w2 hw2 => Ez.ix42 H rfl rfl 7 rfl (by omega)) rfl (jL (fun a H w2 hw2 => Ez.ld33 H rfl (hw2.cell c7)) rfl (jL (fun a H w2 hw2 => Ez.or H rfl rfl (rfl)) rfl (jA rfl rfl ?_)))))))))))))))))))); clear H a; intro a H
  refine wqe ?_
  intro w1 hw
  have hC := hw
  refine kP [(2, _), (3, _)] rfl (kS (kR [_, _, _] (kM rfl rfl (kL (fun a H => Ez.eql H rfl rfl (rfl)) rfl (kA rfl rfl (kP [(2, _)] rfl (kW ?_))))))) a H; clear H a; intro a H
  refine wp_ret ?_
  refine rt1 H rfl rfl ?_
  refine ⟨?_, hC⟩
  congr 2
  have p1 := or32_zero u0 u1
  have p2 := or32_zero p1.1 u2
  have p3 := or32_zero p2.1 u3
  have p4 := or32_zero p3.1 u4
  have p5 := or32_zero p4.1 u5
  have p6 := or32_zero p5.1 u6
  have p7 := or32_zero p6.1 u7
  refine decide_eq_decide.2 ?_
  rw [p7.2, p6.2, p5.2, p4.2, p3.2, p2.2, p1.2, val8_zero u0 u1 u2 u3 u4 u5 u6 u7]
  simp only [and_assoc]
theorem scIsOdd (b o : Nat) (x : Int) (w : World) (hx : Sc w b o x) :
    Calls Tryz.prog 21 #[.pointer (some ⟨b, o, none⟩)] w fun e w' => e = .returned (.bool (decide (x % 2 = 1))) ∧ w = w' := by
  obtain ⟨n0, n1, n2, n3, n4, n5, n6, n7, ⟨c0, c1, c2, c3, c4, c5, c6, c7, u0, u1, u2, u3, u4, u5, u6, u7⟩, rfl⟩ := hx
  refine enterE (vs := [.pointer (some ⟨b, o, none⟩)]) Tryz.func21 rfl rfl ?_
  intro a H
  replace H : Hd a 10 [] [(0, .pointer (some ⟨b, o, none⟩))] := H
  refine wp_seq (wp_region_lit (l := [_]) (wl H (Ez.asn H rfl) rfl (kW (kS (kR [_, _, _, _, _, _, _, _] (kM rfl rfl (kN rfl rfl (kL (fun a H => Ez.fa44_0 H rfl) rfl (kL (fun a H => Ez.ix42 H rfl rfl 0 rfl (by omega)) rfl (kL (fun a H => Ez.ld33 H rfl (c0)) rfl (kL (fun a H => Ez.and H rfl rfl (rfl)) rfl (kL (fun a H => Ez.eql H rfl rfl (rfl)) rfl (kA rfl rfl (kP [(2, _)] rfl (kW ?_))))))))))))))); clear H a; intro a H
  refine wp_ret ?_
  refine rt1 H rfl rfl ?_
  refine ⟨?_, rfl⟩
  congr 2
  obtain ⟨k, rfl⟩ := Int.eq_ofNat_of_zero_le u0.1
  have h2 := u0.2
  have e : bits .and .u32 (k : Int) 1 = ((k &&& 1 : Nat) : Int) := u32_and_nat k 1 (by omega) (by decide)
  rw [e, Nat.and_one_is_mod]
  refine decide_eq_decide.2 ?_
  unfold val8; omega
end
section
set_option maxRecDepth 8000
structure Sm where
  d : Nat
  r : List Nat
  e : List Nat
def nin (t : Nat) : List Nat → Bool
  | [] => true
  | x :: l => bif Nat.beq x t then false else nin t l
def isin (t : Nat) : List Nat → Bool
  | [] => false
  | x :: l => bif Nat.beq x t then true else isin t l
theorem nin_spec {t : Nat} : ∀ {l : List Nat}, nin t l = true → t ∉ l
  | [], _ => by simp
  | x :: l, h => by
    unfold nin at h
    cases hb : Nat.beq x t with
    | true => rw [hb] at h; cases h
    | false =>
      rw [hb] at h
      have h1 := Nat.ne_of_beq_eq_false hb
      have h2 := nin_spec (l := l) h
      simp only [List.mem_cons, not_or]
      exact ⟨fun e => h1 e.symm, h2⟩
theorem isin_spec {t : Nat} : ∀ {l : List Nat}, isin t l = true → t ∈ l
  | [], h => by cases h
  | x :: l, h => by
    unfold isin at h
    cases hb : Nat.beq x t with
    | true => exact (Nat.eq_of_beq_eq_true hb) ▸ List.mem_cons_self
    | false => rw [hb] at h; exact List.mem_cons_of_mem _ (isin_spec h)
def smPair (k : Nat) (s : Sm) : List Sm → Bool
  | [] => true
  | t :: l => (bif isin k t.e then true else (bif Nat.beq s.d t.d then false else (bif nin s.d t.r then nin t.d s.r else false))) && smPair k s l
def smBelow (k : Nat) : List Nat → Bool
  | [] => true
  | x :: l => bif Nat.blt x k then smBelow k l else false
def smOk : Nat → List Sm → Bool
  | _, [] => true
  | k, s :: l => (bif smBelow k s.e then smPair k s l else false) && smOk (k + 1) l
def bindE : List Edge → List Nat
  | [] => []
  | e :: l => bif Region.binds .any e then e.on :: bindE l else bindE l
theorem bindE_mem {x : Nat} : ∀ {l : List Edge}, x ∈ bindE l ↔ ∃ e ∈ l, Region.binds .any e = true ∧ e.on = x
  | [] => by simp [bindE]
  | e :: l => by
    unfold bindE
    cases h : Region.binds .any e with
    | true =>
      simp only [cond_true, List.mem_cons]
      rw [bindE_mem (l := l)]
      constructor
      · rintro (rfl | ⟨e', h1, h2⟩)
        · exact ⟨e, .inl rfl, h, rfl⟩
        exact ⟨e', .inr h1, h2⟩
      rintro ⟨e', rfl | h1, h2, h3⟩
      · exact .inl h3.symm
      exact .inr ⟨e', h1, h2, h3⟩
    | false =>
      simp only [cond_false, List.mem_cons]
      rw [bindE_mem (l := l)]
      constructor
      · rintro ⟨e', h1, h2⟩; exact ⟨e', .inr h1, h2⟩
      rintro ⟨e', rfl | h1, h2, h3⟩
      · rw [h] at h2; cases h2
      exact ⟨e', h1, h2, h3⟩
def tmE : List Operand → List Nat
  | [] => []
  | .tmp t :: l => t :: tmE l
  | _ :: l => tmE l
def smOf (o : Oper) : Option Sm :=
  match o.dst, o.guard with
  | some d, none => some ⟨d, tmE o.op.operands.toList, bindE o.after.toList⟩
  | _, _ => none
def noSel : List Oper → Bool
  | [] => true
  | o :: l => (match o.op with | .select .. => false | _ => true) && noSel l
def smIs : List Oper → List Sm → Prop
  | [], [] => True
  | o :: l, s :: m => smOf o = some s ∧ smIs l m
  | _, _ => False
theorem tmE_eq : ∀ (l : List Operand), tmE l = l.filterMap fun | .tmp t => some t | _ => none
  | [] => rfl
  | .tmp t :: l => by simp [tmE, tmE_eq l]
  | .const _ :: l => by simp [tmE, tmE_eq l]
  | .global _ :: l => by simp [tmE, tmE_eq l]
  | .func _ :: l => by simp [tmE, tmE_eq l]
theorem smOf_spec {o : Oper} {s : Sm} (h : smOf o = some s) (ops : Array Oper) : o.dst = some s.d ∧ o.looksAt ops = s.r ∧ bindE o.after.toList = s.e := by
  unfold smOf at h
  cases hd : o.dst with
  | none => rw [hd] at h; cases h
  | some d =>
    cases hg : o.guard with
    | some g => rw [hd, hg] at h; cases h
    | none =>
      rw [hd, hg] at h
      have := Option.some.inj h
      subst this
      refine ⟨rfl, ?_, rfl⟩
      simp only [Oper.looksAt, hg, List.append_nil]
      exact (tmE_eq _).symm
theorem smIs_get : ∀ {l : List Oper} {m : List Sm}, smIs l m → ∀ {i : Nat} {o : Oper}, l[i]? = some o → ∃ s, m[i]? = some s ∧ smOf o = some s
  | [], [], _, i, o, h => by simp at h
  | o :: l, s :: m, hm, 0, o', h => by simp at h; subst h; exact ⟨s, by simp, hm.1⟩
  | o :: l, s :: m, hm, i + 1, o', h => by
    obtain ⟨s', h1, h2⟩ := smIs_get hm.2 (i := i) (by simpa using h)
    exact ⟨s', by simpa using h1, h2⟩
  | [], _ :: _, hm, _, _, _ => hm.elim
  | _ :: _, [], hm, _, _, _ => hm.elim
theorem smBelow_spec {k : Nat} : ∀ {l : List Nat}, smBelow k l = true → ∀ x ∈ l, x < k
  | [], _, x, hx => by simp at hx
  | y :: l, h, x, hx => by
    unfold smBelow at h
    cases hb : Nat.blt y k with
    | false => rw [hb] at h; cases h
    | true =>
      rw [hb] at h
      rcases List.mem_cons.1 hx with rfl | hx
      · simpa using hb
      exact smBelow_spec h x hx
theorem smPair_spec {k : Nat} {s : Sm} : ∀ {l : List Sm}, smPair k s l = true → ∀ t ∈ l, k ∈ t.e ∨ (s.d ≠ t.d ∧ s.d ∉ t.r ∧ t.d ∉ s.r)
  | [], _, t, ht => by simp at ht
  | u :: l, h, t, ht => by
    simp only [smPair, Bool.and_eq_true] at h
    rcases List.mem_cons.1 ht with rfl | ht
    · have h1 := h.1
      cases hi : isin k t.e with
      | true => exact .inl (isin_spec hi)
      | false =>
        rw [hi] at h1
        cases hd : Nat.beq s.d t.d with
        | true => rw [hd] at h1; cases h1
        | false =>
          rw [hd] at h1
          cases hn : nin s.d t.r with
          | false => rw [hn] at h1; cases h1
          | true => rw [hn] at h1; exact .inr ⟨Nat.ne_of_beq_eq_false hd, nin_spec hn, nin_spec h1⟩
    exact smPair_spec h.2 t ht
theorem smOk_get : ∀ {m : List Sm} {k : Nat}, smOk k m = true → ∀ {i : Nat} {s : Sm}, m[i]? = some s → smBelow (k + i) s.e = true ∧ ∀ j t, i < j → m[j]? = some t → (k + i) ∈ t.e ∨ (s.d ≠ t.d ∧ s.d ∉ t.r ∧ t.d ∉ s.r)
  | [], _, _, i, s, h => by simp at h
  | u :: m, k, h, 0, s, hs => by
    simp only [smOk, Bool.and_eq_true] at h
    simp at hs; subst hs
    have h1 := h.1
    cases hb : smBelow k u.e with
    | false => rw [hb] at h1; cases h1
    | true =>
      rw [hb] at h1
      refine ⟨rfl, fun j t hj ht => ?_⟩
      obtain ⟨j, rfl⟩ : ∃ j', j = j' + 1 := ⟨j - 1, by omega⟩
      have := smPair_spec h1 t (List.mem_of_getElem? (i := j) (by simpa using ht))
      simpa using this
  | u :: m, k, h, i + 1, s, hs => by
    simp only [smOk, Bool.and_eq_true] at h
    obtain ⟨h1, h2⟩ := smOk_get h.2 (i := i) (s := s) (by simpa using hs)
    rw [show k + 1 + i = k + (i + 1) by omega] at h1 h2
    refine ⟨h1, fun j t hj ht => ?_⟩
    obtain ⟨j, rfl⟩ : ∃ j', j = j' + 1 := ⟨j - 1, by omega⟩
    exact h2 j t (by omega) (by simpa using ht)
theorem noSel_spec : ∀ {l : List Oper}, noSel l = true → Region.noSelect l.toArray = true
  | [], _ => by simp [Region.noSelect]
  | o :: l, h => by
    simp only [noSel, Bool.and_eq_true] at h
    have := noSel_spec h.2
    simp only [Region.noSelect, List.all_toArray, List.all_cons, Bool.and_eq_true] at this ⊢
    exact ⟨h.1, this⟩
theorem lexFrom_of {ops : Array Oper} {m : List Sm} (hm : smIs ops.toList m) (ho : smOk 0 m = true) : ∀ (f k : Nat) (listed : Array Bool), f + k = ops.size → listed.size = ops.size → (∀ j, j < ops.size → listed.getD j true = decide (j < k)) → Region.lexFrom .any ops f k listed = true
  | 0, k, listed, hk, hs, hl => by
    simp only [Region.lexFrom, List.isEmpty_iff]
    refine List.eq_nil_iff_forall_not_mem.2 fun j hj => ?_
    obtain ⟨h1, o, h2, _⟩ := mem_ready.1 hj
    have hlt := (Array.getElem?_eq_some_iff.1 h2).1
    rw [hl j hlt] at h1
    simp at h1
    omega
  | f + 1, k, listed, hk, hs, hl => by
    simp only [Region.lexFrom, Bool.and_eq_true]
    have hklt : k < ops.size := by omega
    have hok : ops[k]? = some ops[k] := by simp [hklt]
    obtain ⟨s, hs1, hs2⟩ := smIs_get hm (i := k) (o := ops[k]) (by simp)
    obtain ⟨b1, b2⟩ := smOk_get ho hs1
    rw [Nat.zero_add] at b1 b2
    obtain ⟨sd, sr, se⟩ := smOf_spec hs2 ops
    have hget : ∀ j, j < ops.size → listed.getD j false = decide (j < k) := fun j hj => by
      have := hl j hj
      have hj' : j < listed.size := by omega
      simp [hj'] at this ⊢
      exact this
    refine ⟨⟨?_, ?_⟩, lexFrom_of hm ho f (k + 1) _ (by omega) (by simpa using hs) fun j hj => ?_⟩
    · rw [List.contains_iff_mem]
      refine mem_ready.2 ⟨by rw [hl k hklt]; simp, _, hok, fun e he hb => ?_⟩
      have : e.on ∈ s.e := se ▸ bindE_mem.2 ⟨e, by simpa using he, hb, rfl⟩
      have := smBelow_spec b1 _ this
      rw [hget _ (by omega)]; simpa using this
    · unfold Region.free
      rw [hok]
      refine List.all_eq_true.2 fun j hj => ?_
      have hj := List.mem_range.1 hj
      have hoj : ops[j]? = some ops[j] := by simp [hj]
      rw [hl j hj, hoj]
      by_cases c1 : j = k
      · simp [c1]
      by_cases c2 : j < k
      · simp [c2]
      obtain ⟨t, ht1, ht2⟩ := smIs_get hm (i := j) (o := ops[j]) (by simp)
      obtain ⟨td, tr, te⟩ := smOf_spec ht2 ops
      have h3 := b2 j t (by omega) ht1
      simp only [Bool.or_eq_true]
      right
      rcases h3 with h3 | ⟨h3, h4, h5⟩
      · left
        rw [← te] at h3
        obtain ⟨e, he, hb, hon⟩ := bindE_mem.1 h3
        rw [Array.any_eq_true']
        exact ⟨e, by simpa using he, by simp [hb, hon]⟩
      right
      simp only [Oper.apart, sd, td, sr, tr, Bool.and_eq_true]
      refine ⟨⟨by simpa using h4, by simpa using fun e => h3 e.symm⟩, by simpa using h5⟩
    by_cases c : j = k
    · subst c
      have : j < listed.size := by omega
      simp [this]
    rw [getD_set_ne true (Ne.symm c), hl j hj]
    exact decide_eq_decide.2 (by omega)
theorem lexB_of {l : List Oper} (m : List Sm) (hn : noSel l = true) (hm : smIs l m) (ho : smOk 0 m = true) : Region.lexB .any l.toArray = true := by
  simp only [Region.lexB, Bool.and_eq_true]
  exact ⟨noSel_spec hn, lexFrom_of (by simpa using hm) ho _ 0 _ (by simp) (by simp) fun j hj => by simp at hj ⊢; simp [hj]⟩
theorem smIs_of : ∀ {l : List Oper} {m : List Sm}, l.map smOf = m.map some → smIs l m
  | [], [], _ => trivial
  | o :: l, s :: m, h => by
    simp only [List.map_cons, List.cons.injEq] at h
    exact ⟨h.1, smIs_of h.2⟩
  | [], _ :: _, h => by simp at h
  | _ :: _, [], h => by simp at h
variable {P : Program}
theorem regionS {id : Nat} {Q : Exit → Act → World → Prop} {a : Act} {w : World} {ls : List Oper} (m : List Sm) (hm : P.follows .mixedOrders = true) (hn : noSel ls = true) (hs : ls.map smOf = m.map some) (ho : smOk 0 m = true)
    (h : wpQuiet P ls.toArray (Cd w) (fun a' => ∀ w', Cd w w' → Q .normal a' w') ls a) : (Code.region id ls.toArray true).wp P Q a w := regionQ hm (lexB_of m hn (smIs_of hs) ho) h
end
end Go.Proofs.YtijgloklmiokhaaGreatDoor
